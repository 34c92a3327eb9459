import JvmDerived
import JvmDerived.Pilot.@@N@@Statement
import JvmDerived.Pilot.@@N@@Code
set_option linter.unusedVariables false
set_option linter.unusedSimpArgs false
namespace Jvm.OwnKit
open Sem ClassFile Op Lib Jvm.Stand Jvm.Free Jvm.LawKit Jvm.RoadKit
/-- from this pc, with these locals, this stack and this heap, the body returns and Q holds -/
def Go (Z : State) (l : Launch) (R : Room) (B : ByteArray) (ml : Nat) (own : String) (rt : Option FieldType) (mn : String) (pc : Nat) (Ls : Array Slot) (st : List Value) (h : Heap) (L : List Loc) (k n : Nat) (Q : Option Value → Heap → List Loc → Prop) : Prop :=
  ∀ (p : Program) (e : Env) (s : State) (m : MethodId) (args : Array Value) (below : List Frame) (meth : Method) (c : Code) (T : State),
    Stand p l e R s m args below meth c T L k n → p.tables.exec = Jvm.exec → Z.Warmed39 s.vm → c.code = B → c.maxLocals = ml → s.vm.findClass own = some m.cls → meth.sig.returnType = rt → meth.locks = false → meth.name = mn → T.heap = h →
    ∃ s₂ o, Steps p.tables e below (T.setTop (mkF m pc Ls st)) s₂ ∧ s₂.status = .running ∧ Ended s₂ below o ∧ ∃ v L', o = .returned v ∧ Q v s₂.heap L' ∧ FrameEnd s o s₂ L' R.cells R.slots
/-- a callee's contract at these arguments and this heap -/
def Con (l : Launch) (Z : State) (y : MethodName) (B : ByteArray) (ml : Nat) (rt : Option FieldType) (R : Room) (ws : List Jvm.Cond) (as' : Array Value) (h0 : Heap) (Q : Option Value → Heap → List Loc → Prop) : Prop :=
  MetFree l y (head1 (Jvm.Cond.code y B ml rt :: ws) R) (fun a U => a = as' ∧ Z.Warmed39 U.vm ∧ U.heap = h0) (fun _ _ _ _ _ => True) (fun _ U o U' => ∃ v L, o = .returned v ∧ Q v U'.heap L ∧ FrameEnd U o U' L R.cells R.slots)
/-- the law returns true, and nothing old was written -/
def LawQ (n0 : Nat) (v : Option Value) (_ : Heap) (L : List Loc) : Prop := v = some (.int (1 : Int32)) ∧ Fr n0 L
/-- it returns v0, and nothing was written or made -/
def PQ (h0 : Heap) (v0 : Option Value) (v : Option Value) (h : Heap) (L : List Loc) : Prop := v = v0 ∧ h = h0 ∧ L = []
theorem con_of {l : Launch} {Z : State} {y : MethodName} {B : ByteArray} {ml : Nat} {rt : Option FieldType} {R : Room} {ws : List Jvm.Cond} {as' : Array Value} {h0 : Heap} {Q : Option Value → Heap → List Loc → Prop} {Ls : Array Slot}
    (hp : plainFor y = true) (ef : ∀ m, entryFrame m as' ml = mkF m 0 Ls []) (g : Go Z l R B ml y.cls rt y.name 0 Ls [] h0 [] 0 0 Q) : Con l Z y B ml rt R ws as' h0 Q := by
  refine MetFree.of_bodySF hp hisR ?_
  intro p e s m args below meth c s₁ Bd hml0 hP hK
  obtain ⟨rfl, hZ, hh⟩ := hP
  have e0 : s₁.heap = h0 := by rw [← hh, Bd.state]; rfl
  obtain ⟨s₂, o, h1, h2⟩ := g p e s m _ below meth c s₁ (Stand.of_body Bd) Bd.exec hZ Bd.bytes hml0 (findClass_of_methodNamed Bd.named) Bd.returns (BodyLoose.notSynchronized Bd) (name_of_methodNamed Bd.named Bd.method).1 e0
  exact ⟨s₂, o, castTop (ef m) h1, h2⟩
theorem Con.mono {l : Launch} {Z : State} {y : MethodName} {B : ByteArray} {ml : Nat} {rt : Option FieldType} {R : Room} {ws : List Jvm.Cond} {as' : Array Value} {h0 : Heap} {Q Q' : Option Value → Heap → List Loc → Prop} (c : Con l Z y B ml rt R ws as' h0 Q) (q : ∀ v h L, Q v h L → Q' v h L) : Con l Z y B ml rt R ws as' h0 Q' := by
  intro p e ha hc hk s m args below hf happ hP hK
  obtain ⟨n, o, h1, h2, h3, v, L, h4, h5, h6⟩ := c p e ha hc hk s m args below hf happ hP hK
  exact ⟨n, o, h1, h2, h3, v, L, h4, q _ _ _ h5, h6⟩
theorem fr_one {q : Nat} {L : List Loc} {a : Addr} {sl : Nat} (N : Fr q L) (g : q ≤ a) : Fr q (L ++ [⟨a, sl⟩]) := N.app fun y hy => by cases List.mem_singleton.mp hy; exact g
section Rules
variable {Z : State} {l : Launch} {R : Room} {B : ByteArray} {ml : Nat} {own : String} {rt : Option FieldType} {mn : String} {pc pc' : Nat} {Ls : Array Slot} {h : Heap} {L : List Loc} {k n : Nat} {Q : Option Value → Heap → List Loc → Prop} {rest : List Value}
theorem Go.mono {st : List Value} {Q' : Option Value → Heap → List Loc → Prop} (q : ∀ v h L, Q v h L → Q' v h L) (g : Go Z l R B ml own rt mn pc Ls st h L k n Q) : Go Z l R B ml own rt mn pc Ls st h L k n Q' := by
  intro p e s m args below meth c T X hx hZ hby hml hown hrt hlk hnm eT
  obtain ⟨s₂, o, h1, h2, h3, v, L', h4, h5, h6⟩ := g p e s m args below meth c T X hx hZ hby hml hown hrt hlk hnm eT
  exact ⟨s₂, o, h1, h2, h3, v, L', h4, q _ _ _ h5, h6⟩
theorem Go.pure {st st' : List Value} {Ls' : Array Slot} (step : ∀ (p : Program) (e : Env) (below : List Frame) (T : State) (m : MethodId) (c : Code) (target : State), At T m c below → p.tables.exec = Jvm.exec → c.code = B → Steps p.tables e below (T.setTop (mkF m pc' Ls' st')) target → Steps p.tables e below (T.setTop (mkF m pc Ls st)) target)
    (g : Go Z l R B ml own rt mn pc' Ls' st' h L k n Q) : Go Z l R B ml own rt mn pc Ls st h L k n Q := by
  intro p e s m args below meth c T X hx hZ hby hml hown hrt hlk hnm eT
  obtain ⟨s₂, o, h1, h2⟩ := g p e s m args below meth c T X hx hZ hby hml hown hrt hlk hnm eT
  exact ⟨s₂, o, step p e below T m c s₂ X.here hx hby h1, h2⟩
theorem Go.iload {st : List Value} {i : Nat} {v : Int32} (hd : decode B pc = .ok (.iload i, 2)) (hp : pc + 2 = pc') (hl : Ls[i]? = some (.val (.int v))) (g : Go Z l R B ml own rt mn pc' Ls (.int v :: st) h L k n Q) : Go Z l R B ml own rt mn pc Ls st h L k n Q := by
  subst hp; exact Go.pure (fun p e below T m c t hA hx hB hr => XS.iload hA hx rfl (hb hB hd) hl hr) g
theorem Go.iloadN {st : List Value} {i : Fin 4} {v : Int32} (hd : decode B pc = .ok (.iload_n i, 1)) (hp : pc + 1 = pc') (hl : Ls[i.val]? = some (.val (.int v))) (g : Go Z l R B ml own rt mn pc' Ls (.int v :: st) h L k n Q) : Go Z l R B ml own rt mn pc Ls st h L k n Q := by
  subst hp; exact Go.pure (fun p e below T m c t hA hx hB hr => XS.iloadN hA hx rfl (hb hB hd) hl hr) g
theorem Go.lload {st : List Value} {i : Nat} {v : Int64} (hd : decode B pc = .ok (.lload i, 2)) (hp : pc + 2 = pc') (hl : Ls[i]? = some (.val (.long v))) (g : Go Z l R B ml own rt mn pc' Ls (.long v :: st) h L k n Q) : Go Z l R B ml own rt mn pc Ls st h L k n Q := by
  subst hp; exact Go.pure (fun p e below T m c t hA hx hB hr => XS.lload hA hx rfl (hb hB hd) hl hr) g
theorem Go.lloadN {st : List Value} {i : Fin 4} {v : Int64} (hd : decode B pc = .ok (.lload_n i, 1)) (hp : pc + 1 = pc') (hl : Ls[i.val]? = some (.val (.long v))) (g : Go Z l R B ml own rt mn pc' Ls (.long v :: st) h L k n Q) : Go Z l R B ml own rt mn pc Ls st h L k n Q := by
  subst hp; exact Go.pure (fun p e below T m c t hA hx hB hr => XS.lloadN hA hx rfl (hb hB hd) hl hr) g
theorem Go.aload {st : List Value} {i : Nat} {v : Value} (hd : decode B pc = .ok (.aload i, 2)) (hp : pc + 2 = pc') (hl : Ls[i]? = some (.val v)) (hv : v.isRef = true) (g : Go Z l R B ml own rt mn pc' Ls (v :: st) h L k n Q) : Go Z l R B ml own rt mn pc Ls st h L k n Q := by
  subst hp; exact Go.pure (fun p e below T m c t hA hx hB hr => XS.aload hA hx rfl (hb hB hd) hl hv hr) g
theorem Go.aloadN {st : List Value} {i : Fin 4} {v : Value} (hd : decode B pc = .ok (.aload_n i, 1)) (hp : pc + 1 = pc') (hl : Ls[i.val]? = some (.val v)) (hv : v.isRef = true) (g : Go Z l R B ml own rt mn pc' Ls (v :: st) h L k n Q) : Go Z l R B ml own rt mn pc Ls st h L k n Q := by
  subst hp; exact Go.pure (fun p e below T m c t hA hx hB hr => XS.aloadN hA hx rfl (hb hB hd) hl hv hr) g
theorem Go.istore {i : Nat} {v : Int32} {Ls' : Array Slot} (hd : decode B pc = .ok (.istore i, 2)) (hp : pc + 2 = pc') (hl : storeLocals Ls i (.int v) = some Ls') (g : Go Z l R B ml own rt mn pc' Ls' rest h L k n Q) : Go Z l R B ml own rt mn pc Ls (.int v :: rest) h L k n Q := by
  subst hp; exact Go.pure (fun p e below T m c t hA hx hB hr => XS.istore hA hx rfl (hb hB hd) rfl hl hr) g
theorem Go.istoreN {i : Fin 4} {v : Int32} {Ls' : Array Slot} (hd : decode B pc = .ok (.istore_n i, 1)) (hp : pc + 1 = pc') (hl : storeLocals Ls i.val (.int v) = some Ls') (g : Go Z l R B ml own rt mn pc' Ls' rest h L k n Q) : Go Z l R B ml own rt mn pc Ls (.int v :: rest) h L k n Q := by
  subst hp; exact Go.pure (fun p e below T m c t hA hx hB hr => XS.istoreN hA hx rfl (hb hB hd) rfl hl hr) g
theorem Go.lstore {i : Nat} {v : Int64} {Ls' : Array Slot} (hd : decode B pc = .ok (.lstore i, 2)) (hp : pc + 2 = pc') (hl : storeLocals Ls i (.long v) = some Ls') (g : Go Z l R B ml own rt mn pc' Ls' rest h L k n Q) : Go Z l R B ml own rt mn pc Ls (.long v :: rest) h L k n Q := by
  subst hp; exact Go.pure (fun p e below T m c t hA hx hB hr => XS.lstore hA hx rfl (hb hB hd) rfl hl hr) g
theorem Go.lstoreN {i : Fin 4} {v : Int64} {Ls' : Array Slot} (hd : decode B pc = .ok (.lstore_n i, 1)) (hp : pc + 1 = pc') (hl : storeLocals Ls i.val (.long v) = some Ls') (g : Go Z l R B ml own rt mn pc' Ls' rest h L k n Q) : Go Z l R B ml own rt mn pc Ls (.long v :: rest) h L k n Q := by
  subst hp; exact Go.pure (fun p e below T m c t hA hx hB hr => XS.lstoreN hA hx rfl (hb hB hd) rfl hl hr) g
theorem Go.astore {i : Nat} {v : Value} {Ls' : Array Slot} (hd : decode B pc = .ok (.astore i, 2)) (hp : pc + 2 = pc') (hv : v.isRef = true) (hl : storeLocals Ls i v = some Ls') (g : Go Z l R B ml own rt mn pc' Ls' rest h L k n Q) : Go Z l R B ml own rt mn pc Ls (v :: rest) h L k n Q := by
  subst hp; exact Go.pure (fun p e below T m c t hA hx hB hr => XS.astore hA hx rfl (hb hB hd) rfl hv hl hr) g
theorem Go.astoreN {i : Fin 4} {v : Value} {Ls' : Array Slot} (hd : decode B pc = .ok (.astore_n i, 1)) (hp : pc + 1 = pc') (hv : v.isRef = true) (hl : storeLocals Ls i.val v = some Ls') (g : Go Z l R B ml own rt mn pc' Ls' rest h L k n Q) : Go Z l R B ml own rt mn pc Ls (v :: rest) h L k n Q := by
  subst hp; exact Go.pure (fun p e below T m c t hA hx hB hr => XS.astoreN hA hx rfl (hb hB hd) rfl hv hl hr) g
theorem Go.iinc {st : List Value} {i : Nat} {cst : Int} {x z : Int32} {Ls' : Array Slot} (hd : decode B pc = .ok (.iinc i cst, 3)) (hp : pc + 3 = pc') (hv : Ls[i]? = some (.val (.int x))) (hz : x + Int32.ofInt cst = z) (hl : storeLocals Ls i (.int z) = some Ls') (g : Go Z l R B ml own rt mn pc' Ls' st h L k n Q) : Go Z l R B ml own rt mn pc Ls st h L k n Q := by
  subst hz; subst hp; exact Go.pure (fun p e below T m c t hA hx hB hr => XS.iinc hA hx rfl (hb hB hd) hv hl hr) g
theorem Go.iconst {st : List Value} {i : Int} {z : Int32} (hd : decode B pc = .ok (.iconst i, 1)) (hp : pc + 1 = pc') (hz : Int32.ofInt i = z) (g : Go Z l R B ml own rt mn pc' Ls (.int z :: st) h L k n Q) : Go Z l R B ml own rt mn pc Ls st h L k n Q := by
  subst hz; subst hp; exact Go.pure (fun p e below T m c t hA hx hB hr => XS.iconst hA hx rfl (hb hB hd) hr) g
theorem Go.bipush {st : List Value} {i : Int} {z : Int32} (hd : decode B pc = .ok (.bipush i, 2)) (hp : pc + 2 = pc') (hz : (Int8.ofInt i).toInt32 = z) (g : Go Z l R B ml own rt mn pc' Ls (.int z :: st) h L k n Q) : Go Z l R B ml own rt mn pc Ls st h L k n Q := by
  subst hz; subst hp; exact Go.pure (fun p e below T m c t hA hx hB hr => XS.bipush hA hx rfl (hb hB hd) hr) g
theorem Go.sipush {st : List Value} {i : Int} {z : Int32} (hd : decode B pc = .ok (.sipush i, 3)) (hp : pc + 3 = pc') (hz : (Int16.ofInt i).toInt32 = z) (g : Go Z l R B ml own rt mn pc' Ls (.int z :: st) h L k n Q) : Go Z l R B ml own rt mn pc Ls st h L k n Q := by
  subst hz; subst hp; exact Go.pure (fun p e below T m c t hA hx hB hr => XS.sipush hA hx rfl (hb hB hd) hr) g
theorem Go.lconst {st : List Value} {i : Fin 2} {z : Int64} (hd : decode B pc = .ok (.lconst i, 1)) (hp : pc + 1 = pc') (hz : Int64.ofNat i = z) (g : Go Z l R B ml own rt mn pc' Ls (.long z :: st) h L k n Q) : Go Z l R B ml own rt mn pc Ls st h L k n Q := by
  subst hz; subst hp; exact Go.pure (fun p e below T m c t hA hx hB hr => XS.lconst hA hx rfl (hb hB hd) hr) g
theorem Go.aconstNull {st : List Value} (hd : decode B pc = .ok (.aconst_null, 1)) (hp : pc + 1 = pc') (g : Go Z l R B ml own rt mn pc' Ls (.null :: st) h L k n Q) : Go Z l R B ml own rt mn pc Ls st h L k n Q := by
  subst hp; exact Go.pure (fun p e below T m c t hA hx hB hr => XS.aconstNull hA hx rfl (hb hB hd) hr) g
theorem Go.iadd {x y z : Int32} (hd : decode B pc = .ok (.iadd, 1)) (hp : pc + 1 = pc') (hz : x + y = z) (g : Go Z l R B ml own rt mn pc' Ls (.int z :: rest) h L k n Q) : Go Z l R B ml own rt mn pc Ls (.int y :: .int x :: rest) h L k n Q := by
  subst hz; subst hp; exact Go.pure (fun p e below T m c t hA hx hB hr => XS.iadd hA hx rfl (hb hB hd) rfl hr) g
theorem Go.ladd {x y z : Int64} (hd : decode B pc = .ok (.ladd, 1)) (hp : pc + 1 = pc') (hz : x + y = z) (g : Go Z l R B ml own rt mn pc' Ls (.long z :: rest) h L k n Q) : Go Z l R B ml own rt mn pc Ls (.long y :: .long x :: rest) h L k n Q := by
  subst hz; subst hp; exact Go.pure (fun p e below T m c t hA hx hB hr => XS.ladd hA hx rfl (hb hB hd) rfl hr) g
theorem Go.isub {x y z : Int32} (hd : decode B pc = .ok (.isub, 1)) (hp : pc + 1 = pc') (hz : x - y = z) (g : Go Z l R B ml own rt mn pc' Ls (.int z :: rest) h L k n Q) : Go Z l R B ml own rt mn pc Ls (.int y :: .int x :: rest) h L k n Q := by
  subst hz; subst hp; exact Go.pure (fun p e below T m c t hA hx hB hr => XS.isub hA hx rfl (hb hB hd) rfl hr) g
theorem Go.lsub {x y z : Int64} (hd : decode B pc = .ok (.lsub, 1)) (hp : pc + 1 = pc') (hz : x - y = z) (g : Go Z l R B ml own rt mn pc' Ls (.long z :: rest) h L k n Q) : Go Z l R B ml own rt mn pc Ls (.long y :: .long x :: rest) h L k n Q := by
  subst hz; subst hp; exact Go.pure (fun p e below T m c t hA hx hB hr => XS.lsub hA hx rfl (hb hB hd) rfl hr) g
theorem Go.imul {x y z : Int32} (hd : decode B pc = .ok (.imul, 1)) (hp : pc + 1 = pc') (hz : x * y = z) (g : Go Z l R B ml own rt mn pc' Ls (.int z :: rest) h L k n Q) : Go Z l R B ml own rt mn pc Ls (.int y :: .int x :: rest) h L k n Q := by
  subst hz; subst hp; exact Go.pure (fun p e below T m c t hA hx hB hr => XS.imul hA hx rfl (hb hB hd) rfl hr) g
theorem Go.lmul {x y z : Int64} (hd : decode B pc = .ok (.lmul, 1)) (hp : pc + 1 = pc') (hz : x * y = z) (g : Go Z l R B ml own rt mn pc' Ls (.long z :: rest) h L k n Q) : Go Z l R B ml own rt mn pc Ls (.long y :: .long x :: rest) h L k n Q := by
  subst hz; subst hp; exact Go.pure (fun p e below T m c t hA hx hB hr => XS.lmul hA hx rfl (hb hB hd) rfl hr) g
theorem Go.iand {x y z : Int32} (hd : decode B pc = .ok (.iand, 1)) (hp : pc + 1 = pc') (hz : x &&& y = z) (g : Go Z l R B ml own rt mn pc' Ls (.int z :: rest) h L k n Q) : Go Z l R B ml own rt mn pc Ls (.int y :: .int x :: rest) h L k n Q := by
  subst hz; subst hp; exact Go.pure (fun p e below T m c t hA hx hB hr => XS.iand hA hx rfl (hb hB hd) rfl hr) g
theorem Go.land {x y z : Int64} (hd : decode B pc = .ok (.land, 1)) (hp : pc + 1 = pc') (hz : x &&& y = z) (g : Go Z l R B ml own rt mn pc' Ls (.long z :: rest) h L k n Q) : Go Z l R B ml own rt mn pc Ls (.long y :: .long x :: rest) h L k n Q := by
  subst hz; subst hp; exact Go.pure (fun p e below T m c t hA hx hB hr => XS.land hA hx rfl (hb hB hd) rfl hr) g
theorem Go.ior {x y z : Int32} (hd : decode B pc = .ok (.ior, 1)) (hp : pc + 1 = pc') (hz : x ||| y = z) (g : Go Z l R B ml own rt mn pc' Ls (.int z :: rest) h L k n Q) : Go Z l R B ml own rt mn pc Ls (.int y :: .int x :: rest) h L k n Q := by
  subst hz; subst hp; exact Go.pure (fun p e below T m c t hA hx hB hr => XS.ior hA hx rfl (hb hB hd) rfl hr) g
theorem Go.lor {x y z : Int64} (hd : decode B pc = .ok (.lor, 1)) (hp : pc + 1 = pc') (hz : x ||| y = z) (g : Go Z l R B ml own rt mn pc' Ls (.long z :: rest) h L k n Q) : Go Z l R B ml own rt mn pc Ls (.long y :: .long x :: rest) h L k n Q := by
  subst hz; subst hp; exact Go.pure (fun p e below T m c t hA hx hB hr => XS.lor hA hx rfl (hb hB hd) rfl hr) g
theorem Go.ixor {x y z : Int32} (hd : decode B pc = .ok (.ixor, 1)) (hp : pc + 1 = pc') (hz : x ^^^ y = z) (g : Go Z l R B ml own rt mn pc' Ls (.int z :: rest) h L k n Q) : Go Z l R B ml own rt mn pc Ls (.int y :: .int x :: rest) h L k n Q := by
  subst hz; subst hp; exact Go.pure (fun p e below T m c t hA hx hB hr => XS.ixor hA hx rfl (hb hB hd) rfl hr) g
theorem Go.lxor {x y z : Int64} (hd : decode B pc = .ok (.lxor, 1)) (hp : pc + 1 = pc') (hz : x ^^^ y = z) (g : Go Z l R B ml own rt mn pc' Ls (.long z :: rest) h L k n Q) : Go Z l R B ml own rt mn pc Ls (.long y :: .long x :: rest) h L k n Q := by
  subst hz; subst hp; exact Go.pure (fun p e below T m c t hA hx hB hr => XS.lxor hA hx rfl (hb hB hd) rfl hr) g
theorem Go.idiv {x y z : Int32} (hd : decode B pc = .ok (.idiv, 1)) (hp : pc + 1 = pc') (hy : y ≠ 0) (hz : x / y = z) (g : Go Z l R B ml own rt mn pc' Ls (.int z :: rest) h L k n Q) : Go Z l R B ml own rt mn pc Ls (.int y :: .int x :: rest) h L k n Q := by
  subst hz; subst hp; exact Go.pure (fun p e below T m c t hA hx hB hr => XS.idiv hA hx rfl (hb hB hd) rfl hy hr) g
theorem Go.ldiv {x y z : Int64} (hd : decode B pc = .ok (.ldiv, 1)) (hp : pc + 1 = pc') (hy : y ≠ 0) (hz : x / y = z) (g : Go Z l R B ml own rt mn pc' Ls (.long z :: rest) h L k n Q) : Go Z l R B ml own rt mn pc Ls (.long y :: .long x :: rest) h L k n Q := by
  subst hz; subst hp; exact Go.pure (fun p e below T m c t hA hx hB hr => XS.ldiv hA hx rfl (hb hB hd) rfl hy hr) g
theorem Go.irem {x y z : Int32} (hd : decode B pc = .ok (.irem, 1)) (hp : pc + 1 = pc') (hy : y ≠ 0) (hz : x % y = z) (g : Go Z l R B ml own rt mn pc' Ls (.int z :: rest) h L k n Q) : Go Z l R B ml own rt mn pc Ls (.int y :: .int x :: rest) h L k n Q := by
  subst hz; subst hp; exact Go.pure (fun p e below T m c t hA hx hB hr => XS.irem hA hx rfl (hb hB hd) rfl hy (by rw [show x - x / y * y = x % y from irem_eq_mod x y]; exact hr)) g
theorem Go.lrem {x y z : Int64} (hd : decode B pc = .ok (.lrem, 1)) (hp : pc + 1 = pc') (hy : y ≠ 0) (hz : x % y = z) (g : Go Z l R B ml own rt mn pc' Ls (.long z :: rest) h L k n Q) : Go Z l R B ml own rt mn pc Ls (.long y :: .long x :: rest) h L k n Q := by
  subst hz; subst hp; exact Go.pure (fun p e below T m c t hA hx hB hr => XS.lrem hA hx rfl (hb hB hd) rfl hy (by rw [show x - x / y * y = x % y from lrem_mod x y]; exact hr)) g
theorem Go.ishl {x y z : Int32} (hd : decode B pc = .ok (.ishl, 1)) (hp : pc + 1 = pc') (hz : x <<< (y &&& 31) = z) (g : Go Z l R B ml own rt mn pc' Ls (.int z :: rest) h L k n Q) : Go Z l R B ml own rt mn pc Ls (.int y :: .int x :: rest) h L k n Q := by
  subst hz; subst hp; exact Go.pure (fun p e below T m c t hA hx hB hr => XS.ishl hA hx rfl (hb hB hd) rfl hr) g
theorem Go.ishr {x y z : Int32} (hd : decode B pc = .ok (.ishr, 1)) (hp : pc + 1 = pc') (hz : x >>> (y &&& 31) = z) (g : Go Z l R B ml own rt mn pc' Ls (.int z :: rest) h L k n Q) : Go Z l R B ml own rt mn pc Ls (.int y :: .int x :: rest) h L k n Q := by
  subst hz; subst hp; exact Go.pure (fun p e below T m c t hA hx hB hr => XS.ishr hA hx rfl (hb hB hd) rfl hr) g
theorem Go.iushr {x y z : Int32} (hd : decode B pc = .ok (.iushr, 1)) (hp : pc + 1 = pc') (hz : (x.toUInt32 >>> (y &&& 31).toUInt32).toInt32 = z) (g : Go Z l R B ml own rt mn pc' Ls (.int z :: rest) h L k n Q) : Go Z l R B ml own rt mn pc Ls (.int y :: .int x :: rest) h L k n Q := by
  subst hz; subst hp; exact Go.pure (fun p e below T m c t hA hx hB hr => XS.iushr hA hx rfl (hb hB hd) rfl hr) g
theorem Go.lshl {x z : Int64} {y : Int32} (hd : decode B pc = .ok (.lshl, 1)) (hp : pc + 1 = pc') (hz : x <<< (y &&& 0x3f).toInt64 = z) (g : Go Z l R B ml own rt mn pc' Ls (.long z :: rest) h L k n Q) : Go Z l R B ml own rt mn pc Ls (.int y :: .long x :: rest) h L k n Q := by
  subst hz; subst hp; exact Go.pure (fun p e below T m c t hA hx hB hr => XS.lshl hA hx rfl (hb hB hd) rfl hr) g
theorem Go.lshr {x z : Int64} {y : Int32} (hd : decode B pc = .ok (.lshr, 1)) (hp : pc + 1 = pc') (hz : x >>> (y &&& 0x3f).toInt64 = z) (g : Go Z l R B ml own rt mn pc' Ls (.long z :: rest) h L k n Q) : Go Z l R B ml own rt mn pc Ls (.int y :: .long x :: rest) h L k n Q := by
  subst hz; subst hp; exact Go.pure (fun p e below T m c t hA hx hB hr => XS.lshr hA hx rfl (hb hB hd) rfl hr) g
theorem Go.lushr {x z : Int64} {y : Int32} (hd : decode B pc = .ok (.lushr, 1)) (hp : pc + 1 = pc') (hz : (x.toUInt64 >>> (y &&& 0x3f).toInt64.toUInt64).toInt64 = z) (g : Go Z l R B ml own rt mn pc' Ls (.long z :: rest) h L k n Q) : Go Z l R B ml own rt mn pc Ls (.int y :: .long x :: rest) h L k n Q := by
  subst hz; subst hp; exact Go.pure (fun p e below T m c t hA hx hB hr => XS.lushr hA hx rfl (hb hB hd) rfl hr) g
theorem Go.ineg {x : Int32} {z : Int32} (hd : decode B pc = .ok (.ineg, 1)) (hp : pc + 1 = pc') (hz : -x = z) (g : Go Z l R B ml own rt mn pc' Ls (.int z :: rest) h L k n Q) : Go Z l R B ml own rt mn pc Ls (.int x :: rest) h L k n Q := by
  subst hz; subst hp; exact Go.pure (fun p e below T m c t hA hx hB hr => XS.ineg hA hx rfl (hb hB hd) rfl hr) g
theorem Go.lneg {x : Int64} {z : Int64} (hd : decode B pc = .ok (.lneg, 1)) (hp : pc + 1 = pc') (hz : -x = z) (g : Go Z l R B ml own rt mn pc' Ls (.long z :: rest) h L k n Q) : Go Z l R B ml own rt mn pc Ls (.long x :: rest) h L k n Q := by
  subst hz; subst hp; exact Go.pure (fun p e below T m c t hA hx hB hr => XS.lneg hA hx rfl (hb hB hd) rfl hr) g
theorem Go.i2l {x : Int32} {z : Int64} (hd : decode B pc = .ok (.i2l, 1)) (hp : pc + 1 = pc') (hz : x.toInt64 = z) (g : Go Z l R B ml own rt mn pc' Ls (.long z :: rest) h L k n Q) : Go Z l R B ml own rt mn pc Ls (.int x :: rest) h L k n Q := by
  subst hz; subst hp; exact Go.pure (fun p e below T m c t hA hx hB hr => XS.i2l hA hx rfl (hb hB hd) rfl hr) g
theorem Go.l2i {x : Int64} {z : Int32} (hd : decode B pc = .ok (.l2i, 1)) (hp : pc + 1 = pc') (hz : x.toInt32 = z) (g : Go Z l R B ml own rt mn pc' Ls (.int z :: rest) h L k n Q) : Go Z l R B ml own rt mn pc Ls (.long x :: rest) h L k n Q := by
  subst hz; subst hp; exact Go.pure (fun p e below T m c t hA hx hB hr => XS.l2i hA hx rfl (hb hB hd) rfl hr) g
theorem Go.i2b {x : Int32} {z : Int32} (hd : decode B pc = .ok (.i2b, 1)) (hp : pc + 1 = pc') (hz : x.toInt8.toInt32 = z) (g : Go Z l R B ml own rt mn pc' Ls (.int z :: rest) h L k n Q) : Go Z l R B ml own rt mn pc Ls (.int x :: rest) h L k n Q := by
  subst hz; subst hp; exact Go.pure (fun p e below T m c t hA hx hB hr => XS.i2b hA hx rfl (hb hB hd) rfl hr) g
theorem Go.i2s {x : Int32} {z : Int32} (hd : decode B pc = .ok (.i2s, 1)) (hp : pc + 1 = pc') (hz : x.toInt16.toInt32 = z) (g : Go Z l R B ml own rt mn pc' Ls (.int z :: rest) h L k n Q) : Go Z l R B ml own rt mn pc Ls (.int x :: rest) h L k n Q := by
  subst hz; subst hp; exact Go.pure (fun p e below T m c t hA hx hB hr => XS.i2s hA hx rfl (hb hB hd) rfl hr) g
theorem Go.i2c {x : Int32} {z : Int32} (hd : decode B pc = .ok (.i2c, 1)) (hp : pc + 1 = pc') (hz : x.toUInt32.toUInt16.toUInt32.toInt32 = z) (g : Go Z l R B ml own rt mn pc' Ls (.int z :: rest) h L k n Q) : Go Z l R B ml own rt mn pc Ls (.int x :: rest) h L k n Q := by
  subst hz; subst hp; exact Go.pure (fun p e below T m c t hA hx hB hr => XS.i2c hA hx rfl (hb hB hd) rfl hr) g
theorem Go.dup {x : Value} (hd : decode B pc = .ok (.dup, 1)) (hp : pc + 1 = pc') (hc : x.category = 1) (g : Go Z l R B ml own rt mn pc' Ls (x :: x :: rest) h L k n Q) : Go Z l R B ml own rt mn pc Ls (x :: rest) h L k n Q := by
  subst hp; exact Go.pure (fun p e below T m c t hA hx hB hr => XS.dup hA hx rfl (hb hB hd) rfl hc hr) g
theorem Go.dupX1 {x y : Value} (hd : decode B pc = .ok (.dup_x1, 1)) (hp : pc + 1 = pc') (hc : x.category = 1) (hc' : y.category = 1) (g : Go Z l R B ml own rt mn pc' Ls (x :: y :: x :: rest) h L k n Q) : Go Z l R B ml own rt mn pc Ls (x :: y :: rest) h L k n Q := by
  subst hp; exact Go.pure (fun p e below T m c t hA hx hB hr => XS.dupX1 hA hx rfl (hb hB hd) rfl hc hc' hr) g
theorem Go.pop {x : Value} (hd : decode B pc = .ok (.pop, 1)) (hp : pc + 1 = pc') (hc : x.category = 1) (g : Go Z l R B ml own rt mn pc' Ls rest h L k n Q) : Go Z l R B ml own rt mn pc Ls (x :: rest) h L k n Q := by
  subst hp; exact Go.pure (fun p e below T m c t hA hx hB hr => XS.pop hA hx rfl (hb hB hd) rfl hc hr) g
theorem Go.dup2 {x y : Value} (hd : decode B pc = .ok (.dup2, 1)) (hp : pc + 1 = pc') (hc : x.category = 1) (hc' : y.category = 1) (g : Go Z l R B ml own rt mn pc' Ls (x :: y :: x :: y :: rest) h L k n Q) : Go Z l R B ml own rt mn pc Ls (x :: y :: rest) h L k n Q := by
  subst hp; exact Go.pure (fun p e below T m c t hA hx hB hr => XT.dup2 hA hx rfl (hb hB hd) rfl hc hc' hr) g
theorem Go.dup2L {x : Int64} (hd : decode B pc = .ok (.dup2, 1)) (hp : pc + 1 = pc') (g : Go Z l R B ml own rt mn pc' Ls (.long x :: .long x :: rest) h L k n Q) : Go Z l R B ml own rt mn pc Ls (.long x :: rest) h L k n Q := by
  subst hp; exact Go.pure (fun p e below T m c t hA hx hB hr => XT.dup2L hA hx rfl (hb hB hd) rfl hr) g
theorem Go.goto {st : List Value} {o : Int} (hd : decode B pc = .ok (.goto o, 3)) (hp : (pc : Int) + o = (pc' : Int)) (g : Go Z l R B ml own rt mn pc' Ls st h L k n Q) : Go Z l R B ml own rt mn pc Ls st h L k n Q :=
  Go.pure (fun p e below T m c t hA hx hB hr => XS.goto hA hx rfl rfl (hb hB hd) (by rw [hp]; omega) (by rw [hp]; rfl) hr) g
/-- what a branch says when it is taken, and when it isn't -/
def cT : ClassFile.Cond → Int → Int → Prop
  | .lt, x, y => x < y | .ge, x, y => ¬ x < y | .gt, x, y => y < x | .le, x, y => ¬ y < x | .eq, x, y => x = y | .ne, x, y => ¬ x = y
def cF : ClassFile.Cond → Int → Int → Prop
  | .lt, x, y => ¬ x < y | .ge, x, y => x < y | .gt, x, y => ¬ y < x | .le, x, y => y < x | .eq, x, y => ¬ x = y | .ne, x, y => x = y
theorem icT {cd : ClassFile.Cond} {x y : Int32} (q : cT cd x.toInt y.toInt) : if_icmp.holds cd x y = true := by
  cases cd <;> simp only [cT] at q <;> first
    | exact (teq (Int32.toInt_inj.mp q)).1
    | exact (feq (fun r => q (congrArg _ r))).2
    | exact (tlt (Int32.lt_iff_toInt_lt.mpr q)).1
    | exact (flt (fun r => q (Int32.lt_iff_toInt_lt.mp r))).2.1
    | exact (tlt (Int32.lt_iff_toInt_lt.mpr q)).2.2.1
    | exact (flt (fun r => q (Int32.lt_iff_toInt_lt.mp r))).2.2.2
theorem icF {cd : ClassFile.Cond} {x y : Int32} (q : cF cd x.toInt y.toInt) : if_icmp.holds cd x y = false := by
  cases cd <;> simp only [cF] at q <;> first
    | exact (feq (fun r => q (congrArg _ r))).1
    | exact (teq (Int32.toInt_inj.mp q)).2
    | exact (flt (fun r => q (Int32.lt_iff_toInt_lt.mp r))).1
    | exact (tlt (Int32.lt_iff_toInt_lt.mpr q)).2.1
    | exact (flt (fun r => q (Int32.lt_iff_toInt_lt.mp r))).2.2.1
    | exact (tlt (Int32.lt_iff_toInt_lt.mpr q)).2.2.2
theorem lcT {cd : ClassFile.Cond} {x y : Int64} (q : cT cd x.toInt y.toInt) : ifCond.holds cd (lcmpW x y) = true := by
  rw [if0]; refine icT ?_
  have := c_lcmp x y
  have z0 : (0 : Int32).toInt = 0 := rfl
  cases cd <;> simp only [cT, z0] at q ⊢ <;> omega
theorem lcF {cd : ClassFile.Cond} {x y : Int64} (q : cF cd x.toInt y.toInt) : ifCond.holds cd (lcmpW x y) = false := by
  rw [if0]; refine icF ?_
  have := c_lcmp x y
  have z0 : (0 : Int32).toInt = 0 := rfl
  cases cd <;> simp only [cF, z0] at q ⊢ <;> omega
theorem Go.icmpT {cd : ClassFile.Cond} {x y : Int32} {X Y : Int} {o : Int} (hd : decode B pc = .ok (.if_icmp cd o, 3)) (hp : (pc : Int) + o = (pc' : Int)) (hX : x.toInt = X) (hY : y.toInt = Y) (hc : cT cd X Y) (g : Go Z l R B ml own rt mn pc' Ls rest h L k n Q) : Go Z l R B ml own rt mn pc Ls (.int y :: .int x :: rest) h L k n Q := by
  subst hX hY
  exact Go.pure (fun p e below T m c t hA hx hB hr => XS.icmpYes hA hx rfl rfl (hb hB hd) rfl (icT hc) (by rw [hp]; omega) (by rw [hp]; rfl) hr) g
theorem Go.icmpF {cd : ClassFile.Cond} {x y : Int32} {X Y : Int} {o : Int} (hd : decode B pc = .ok (.if_icmp cd o, 3)) (hp : pc + 3 = pc') (hX : x.toInt = X) (hY : y.toInt = Y) (hc : cF cd X Y) (g : Go Z l R B ml own rt mn pc' Ls rest h L k n Q) : Go Z l R B ml own rt mn pc Ls (.int y :: .int x :: rest) h L k n Q := by
  subst hX hY hp
  exact Go.pure (fun p e below T m c t hA hx hB hr => XS.icmpNo hA hx rfl (hb hB hd) rfl (icF hc) hr) g
theorem Go.ifT {cd : ClassFile.Cond} {x : Int32} {X : Int} {o : Int} (hd : decode B pc = .ok (.ifCond cd o, 3)) (hp : (pc : Int) + o = (pc' : Int)) (hX : x.toInt = X) (hc : cT cd X 0) (g : Go Z l R B ml own rt mn pc' Ls rest h L k n Q) : Go Z l R B ml own rt mn pc Ls (.int x :: rest) h L k n Q := by
  subst hX
  exact Go.pure (fun p e below T m c t hA hx hB hr => XS.ifYes hA hx rfl rfl (hb hB hd) rfl ((if0 _ _).trans (icT hc)) (by rw [hp]; omega) (by rw [hp]; rfl) hr) g
theorem Go.ifF {cd : ClassFile.Cond} {x : Int32} {X : Int} {o : Int} (hd : decode B pc = .ok (.ifCond cd o, 3)) (hp : pc + 3 = pc') (hX : x.toInt = X) (hc : cF cd X 0) (g : Go Z l R B ml own rt mn pc' Ls rest h L k n Q) : Go Z l R B ml own rt mn pc Ls (.int x :: rest) h L k n Q := by
  subst hX hp
  exact Go.pure (fun p e below T m c t hA hx hB hr => XS.ifNo hA hx rfl (hb hB hd) rfl ((if0 _ _).trans (icF hc)) hr) g
/-- lcmp and the branch behind it, in one -/
theorem Go.lcmpT {cd : ClassFile.Cond} {x y : Int64} {X Y : Int} {o : Int} {pc1 : Nat} (hd : decode B pc = .ok (.lcmp, 1)) (hd' : decode B pc1 = .ok (.ifCond cd o, 3)) (hp1 : pc + 1 = pc1) (hp : (pc1 : Int) + o = (pc' : Int)) (hX : x.toInt = X) (hY : y.toInt = Y) (hc : cT cd X Y) (g : Go Z l R B ml own rt mn pc' Ls rest h L k n Q) : Go Z l R B ml own rt mn pc Ls (.long y :: .long x :: rest) h L k n Q := by
  subst hX hY hp1
  exact Go.pure (fun p e below T m c t hA hx hB hr => XS.lcmp hA hx rfl (hb hB hd) rfl hr) (Go.pure (pc := pc + 1) (fun p e below T m c t hA hx hB hr => XS.ifYes hA hx rfl rfl (hb hB hd') rfl (lcT hc) (by rw [hp]; omega) (by rw [hp]; rfl) hr) g)
theorem Go.lcmpF {cd : ClassFile.Cond} {x y : Int64} {X Y : Int} {o : Int} {pc1 : Nat} (hd : decode B pc = .ok (.lcmp, 1)) (hd' : decode B pc1 = .ok (.ifCond cd o, 3)) (hp1 : pc + 1 = pc1) (hp : pc1 + 3 = pc') (hX : x.toInt = X) (hY : y.toInt = Y) (hc : cF cd X Y) (g : Go Z l R B ml own rt mn pc' Ls rest h L k n Q) : Go Z l R B ml own rt mn pc Ls (.long y :: .long x :: rest) h L k n Q := by
  subst hX hY hp1 hp
  exact Go.pure (fun p e below T m c t hA hx hB hr => XS.lcmp hA hx rfl (hb hB hd) rfl hr) (Go.pure (pc := pc + 1) (fun p e below T m c t hA hx hB hr => XS.ifNo hA hx rfl (hb hB hd') rfl (lcF hc) hr) g)
/-- one step that asks where the walk stands -/
theorem Go.stand {st st' : List Value} {Ls' : Array Slot} (step : ∀ (p : Program) (e : Env) (s : State) (m : MethodId) (args : Array Value) (below : List Frame) (meth : Method) (c : Code) (T : State) (target : State), Stand p l e R s m args below meth c T L k n → p.tables.exec = Jvm.exec → Z.Warmed39 s.vm → c.code = B → s.vm.findClass own = some m.cls → T.heap = h →
      Steps p.tables e below (T.setTop (mkF m pc' Ls' st')) target → Steps p.tables e below (T.setTop (mkF m pc Ls st)) target)
    (g : Go Z l R B ml own rt mn pc' Ls' st' h L k n Q) : Go Z l R B ml own rt mn pc Ls st h L k n Q := by
  intro p e s m args below meth c T X hx hZ hby hml hown hrt hlk hnm eT
  obtain ⟨s₂, o, h1, h2⟩ := g p e s m args below meth c T X hx hZ hby hml hown hrt hlk hnm eT
  exact ⟨s₂, o, step p e s m args below meth c T s₂ X hx hZ hby hown eT h1, h2⟩
theorem Go.acmp {cd : ACond} {x y : Value} {o : Int} {same : Bool} (hd : decode B pc = .ok (.if_acmp cd o, 3)) (h1 : x.isRef = true) (h2 : y.isRef = true) (hq : decide (x = y) = same) (ho : 0 ≤ (pc : Int) + o) (hp : pc' = if acV cd same = true then ((pc : Int) + o).toNat else pc + 3) (g : Go Z l R B ml own rt mn pc' Ls rest h L k n Q) : Go Z l R B ml own rt mn pc Ls (y :: x :: rest) h L k n Q :=
  Go.stand (fun p e s m args below meth c T t X hx hZ hB hown eT hr => Jvm.RoadKit.acmp (g := mkF m pc Ls (y :: x :: rest)) X hx rfl h1 h2 (pc0 := pc) (pc' := pc') (same := same) rfl (hb hB hd) rfl hq ho hp hr) g
theorem Go.ldcI {a0 : Array Value} {st : List Value} {i : Nat} {v : Int32} (hd : decode B pc = .ok (.ldc i, 2)) (hp : pc + 2 = pc') (w : (Jvm.Cond.constant own i v).before a0 Z = true) (g : Go Z l R B ml own rt mn pc' Ls (.int v :: st) h L k n Q) : Go Z l R B ml own rt mn pc Ls st h L k n Q := by
  subst hp
  exact Go.stand (fun p e s m args below meth c T t X hx hZ hB hown eT hr => X.ldcInt hx hown (mvT hZ w) (g := mkF m pc Ls st) rfl (hb hB hd) _ hr) g
theorem Go.ldcF {a0 : Array Value} {st : List Value} {i : Nat} {v : UInt32} (hd : decode B pc = .ok (.ldc i, 2)) (hp : pc + 2 = pc') (w : (Jvm.Cond.constantFloat own i v).before a0 Z = true) (g : Go Z l R B ml own rt mn pc' Ls (.float v :: st) h L k n Q) : Go Z l R B ml own rt mn pc Ls st h L k n Q := by
  subst hp
  exact Go.stand (fun p e s m args below meth c T t X hx hZ hB hown eT hr => X.ldcFloatC hx hown (mvT hZ w) (g := mkF m pc Ls st) rfl (hb hB hd) _ hr) g
theorem Go.ldc2 {a0 : Array Value} {st : List Value} {i : Nat} {v : Int64} (hd : decode B pc = .ok (.ldc2_w i, 3)) (hp : pc + 3 = pc') (w : (Jvm.Cond.constantLong own i v).before a0 Z = true) (g : Go Z l R B ml own rt mn pc' Ls (.long v :: st) h L k n Q) : Go Z l R B ml own rt mn pc Ls st h L k n Q := by
  subst hp
  exact Go.stand (fun p e s m args below meth c T t X hx hZ hB hown eT hr => X.ldc2Long hx hown (mvT hZ w) (g := mkF m pc Ls st) rfl (hb hB hd) _ hr) g
theorem Go.retI {z : Int32} (hd : decode B pc = .ok (.ireturn, 1)) (hrt' : rt = some .int) (hk : k ≤ R.cells) (hn : n ≤ R.slots) (q : Q (some (.int z)) h L) : Go Z l R B ml own rt mn pc Ls ((.int z) :: rest) h L k n Q := by
  intro p e s m args below meth c T X hx hZ hby hml hown hrt hlk hnm eT
  obtain ⟨fs, hr, hrun, hended, hW, hsame⟩ := X.leave (v := some (.int z)) (fun r => by rw [hrt, hrt'] at r; cases r)
  refine ⟨_, _, retOut X hx (hrt.trans hrt') (show narrow .int (.int z) = .int z from rfl) (Or.inl ⟨rfl, Or.inl rfl, _, rfl⟩) (hb hby hd) hr, hrun, hended, _, _, rfl, ?_, ⟨_, rfl⟩, hW, hsame.mono hk hn⟩
  show Q _ T.heap _
  rw [eT]; exact q
theorem Go.retZ {z : Int32} (hd : decode B pc = .ok (.ireturn, 1)) (hrt' : rt = some .boolean) (hz : z = 0 ∨ z = 1) (hk : k ≤ R.cells) (hn : n ≤ R.slots) (q : Q (some (.int z)) h L) : Go Z l R B ml own rt mn pc Ls ((.int z) :: rest) h L k n Q := by
  intro p e s m args below meth c T X hx hZ hby hml hown hrt hlk hnm eT
  obtain ⟨fs, hr, hrun, hended, hW, hsame⟩ := X.leave (v := some (.int z)) (fun r => by rw [hrt, hrt'] at r; cases r)
  refine ⟨_, _, retOut X hx (hrt.trans hrt') (show narrow .boolean (.int z) = .int z by rcases hz with rfl | rfl <;> rfl) (Or.inl ⟨rfl, Or.inr (Or.inl rfl), _, rfl⟩) (hb hby hd) hr, hrun, hended, _, _, rfl, ?_, ⟨_, rfl⟩, hW, hsame.mono hk hn⟩
  show Q _ T.heap _
  rw [eT]; exact q
theorem Go.retB {z : Int32} (hd : decode B pc = .ok (.ireturn, 1)) (hrt' : rt = some .byte) (hz : z.toInt8.toInt32 = z) (hk : k ≤ R.cells) (hn : n ≤ R.slots) (q : Q (some (.int z)) h L) : Go Z l R B ml own rt mn pc Ls ((.int z) :: rest) h L k n Q := by
  intro p e s m args below meth c T X hx hZ hby hml hown hrt hlk hnm eT
  obtain ⟨fs, hr, hrun, hended, hW, hsame⟩ := X.leave (v := some (.int z)) (fun r => by rw [hrt, hrt'] at r; cases r)
  refine ⟨_, _, retOut X hx (hrt.trans hrt') (show narrow .byte (.int z) = .int z from congrArg Value.int hz) (Or.inl ⟨rfl, Or.inr (Or.inr (Or.inl rfl)), _, rfl⟩) (hb hby hd) hr, hrun, hended, _, _, rfl, ?_, ⟨_, rfl⟩, hW, hsame.mono hk hn⟩
  show Q _ T.heap _
  rw [eT]; exact q
theorem Go.retJ {z : Int64} (hd : decode B pc = .ok (.lreturn, 1)) (hrt' : rt = some .long) (hk : k ≤ R.cells) (hn : n ≤ R.slots) (q : Q (some (.long z)) h L) : Go Z l R B ml own rt mn pc Ls ((.long z) :: rest) h L k n Q := by
  intro p e s m args below meth c T X hx hZ hby hml hown hrt hlk hnm eT
  obtain ⟨fs, hr, hrun, hended, hW, hsame⟩ := X.leave (v := some (.long z)) (fun r => by rw [hrt, hrt'] at r; cases r)
  refine ⟨_, _, retOut X hx (hrt.trans hrt') (show narrow .long (.long z) = .long z from rfl) (Or.inr (Or.inl ⟨rfl, rfl, _, rfl⟩)) (hb hby hd) hr, hrun, hended, _, _, rfl, ?_, ⟨_, rfl⟩, hW, hsame.mono hk hn⟩
  show Q _ T.heap _
  rw [eT]; exact q
theorem Go.retA {z : Value} {t : FieldType} (hd : decode B pc = .ok (.areturn, 1)) (hrt' : rt = some t) (ht : t.isReference = true) (hz : z.isRef = true) (hk : k ≤ R.cells) (hn : n ≤ R.slots) (q : Q (some z) h L) : Go Z l R B ml own rt mn pc Ls (z :: rest) h L k n Q := by
  intro p e s m args below meth c T X hx hZ hby hml hown hrt hlk hnm eT
  obtain ⟨fs, hr, hrun, hended, hW, hsame⟩ := X.leave (v := some z) (fun r => by rw [hrt, hrt'] at r; cases r)
  refine ⟨_, _, retOut X hx (hrt.trans hrt') (show narrow t z = z by rcases ref_cases hz with rfl | ⟨a, rfl⟩ <;> cases t <;> first | rfl | (simp [FieldType.isReference] at ht)) (Or.inr (Or.inr (Or.inr (Or.inr ⟨rfl, ht, hz⟩)))) (hb hby hd) hr, hrun, hended, _, _, rfl, ?_, ⟨_, rfl⟩, hW, hsame.mono hk hn⟩
  show Q _ T.heap _
  rw [eT]; exact q
theorem Go.retV (hd : decode B pc = .ok (.return_, 1)) (hrt' : rt = none) (hk : k ≤ R.cells) (hn : n ≤ R.slots) (q : Q none h L) : Go Z l R B ml own rt mn pc Ls [] h L k n Q := by
  intro p e s m args below meth c T X hx hZ hby hml hown hrt hlk hnm eT
  obtain ⟨fs, hr, hrun, hended, hW, hsame⟩ := X.leave (v := none) (fun _ => rfl)
  refine ⟨_, _, X.returnOut hx (hrt.trans hrt') (hb hby hd) hr, hrun, hended, _, _, rfl, ?_, ⟨_, rfl⟩, hW, hsame.mono hk hn⟩
  show Q _ T.heap _
  rw [eT]; exact q
theorem sel_priv {a0 args : Array Value} {s : State} {y : MethodName} {kk : Nat} (hZ : Z.Warmed39 s.vm) (wi : (Jvm.Cond.instantiable y.cls kk).before a0 Z = true) (wp : (Jvm.Cond.privateMethod y).before a0 Z = true) (w2 : (Jvm.Cond.instanceMethod y).before a0 Z = true) (hy : y.cls ≠ "java/lang/invoke/MethodHandle" ∧ y.cls ≠ "java/lang/invoke/VarHandle") : (Jvm.Cond.selects y.cls y y).before args s = true := by
  have wi' : (Jvm.Cond.instantiable y.cls kk).before args s = true := mvT hZ wi
  obtain ⟨cI, kI, i1, i2, -, i4, -⟩ := Cond.instantiable_spec wi'
  exact selects_self_of_private i1 i2 (Bool.or_eq_false_iff.mp i4).1 (Cond.privateMethod_at (mvP hZ wp (args := #[]))) (mvT hZ w2) hy
theorem Go.callS {a0 : Array Value} {i : Nat} {y : MethodName} {B' : ByteArray} {ml' : Nat} {rt' : Option FieldType} {R' : Room} {Q' : Option Value → Heap → List Loc → Prop} {W : Nat} {argsL : List Value} {st : List Value} {ps : List FieldType} {r : Option FieldType}
    (hd : decode B pc = .ok (.invokestatic i, 3)) (hp : pc + 3 = pc') (w1 : (Jvm.Cond.methodLink own i y).before a0 Z = true) (w2 : (Jvm.Cond.static y).before a0 Z = true) (w3 : (Jvm.Cond.initialized y.cls).before a0 Z = true) (w4 : (Jvm.Cond.code y B' ml' rt').before a0 Z = true) (hy : y.cls ≠ "java/lang/invoke/MethodHandle" ∧ y.cls ≠ "java/lang/invoke/VarHandle")
    (con : Con l Z y B' ml' rt' R' [] argsL.toArray h Q') (hf : R'.frames + 1 ≤ R.frames) (hl : W + (ml' + 11) + R'.locals ≤ R.locals) {k' n' : Nat} (hc : k + R'.cells ≤ R.cells) (hn : n + R'.slots ≤ R.slots) (hk' : k + R'.cells = k') (hn' : n + R'.slots = n') (hsz : Ls.size = ml) (hpd : parseMethodDescriptor y.desc = some ⟨ps, r⟩) (hlen : argsL.length = ps.length) (hst : st = argsL.reverse ++ rest) (hW : (rest.map fun v => v.category).sum ≤ W)
    (g : ∀ v h' L' L'', (∀ q, Fr q L → Fr q L' → Fr q L'') → Q' v h' L' → Go Z l R B ml own rt mn pc' Ls (v.toList ++ rest) h' L'' k' n' Q) : Go Z l R B ml own rt mn pc Ls st h L k n Q := by
  subst hp hk' hn'
  intro p e s m args below meth c T X hx hZ hby hml hown hrt hlk hnm eT
  obtain ⟨v, _, ⟨U, ls, cc, sl⟩, -, X', ⟨Lc, hQ, l1, y1, z1⟩, stp⟩ := Jvm.LawKit.callS X hx (y := y) hown (mvT hZ w1) (mvT hZ w2) (mvT hZ w3) (mvT hZ w4) hy (backOf (W := W) con hZ w4 w3 hf hl) (g := mkF m pc Ls st) rfl (hsz.trans hml.symm) (argsL := argsL) (rest := rest) (lenOf hpd hlen) hst (by show 2 * 0 + _ ≤ _; omega) (hb hby hd) (fun _ _ => ⟨rfl, eT, hc, hn⟩)
  dsimp only [Pt.U, Pt.locs, Pt.cells, Pt.slots] at X' hQ l1 y1 z1 stp
  subst l1 y1 z1
  obtain ⟨s₂, o, h1, h2⟩ := g v U.heap Lc _ (fun q a b => a.app b) hQ p e s m args below meth c U X' hx hZ hby hml hown hrt hlk hnm rfl
  exact ⟨s₂, o, stp _ h1, h2⟩
theorem Go.callS0 {a0 : Array Value} {i : Nat} {y : MethodName} {B' : ByteArray} {ml' : Nat} {rt' : Option FieldType} {R' : Room} {v0 : Option Value} {W : Nat} {argsL : List Value} {st : List Value} {ps : List FieldType} {r : Option FieldType}
    (hd : decode B pc = .ok (.invokestatic i, 3)) (hp : pc + 3 = pc') (w1 : (Jvm.Cond.methodLink own i y).before a0 Z = true) (w2 : (Jvm.Cond.static y).before a0 Z = true) (w3 : (Jvm.Cond.initialized y.cls).before a0 Z = true) (w4 : (Jvm.Cond.code y B' ml' rt').before a0 Z = true) (hy : y.cls ≠ "java/lang/invoke/MethodHandle" ∧ y.cls ≠ "java/lang/invoke/VarHandle")
    (con : Con l Z y B' ml' rt' R' [] argsL.toArray h (PQ h v0)) (hf : R'.frames + 1 ≤ R.frames) (hl : W + (ml' + 11) + R'.locals ≤ R.locals) {st2 : List Value} (hs2 : v0.toList ++ rest = st2) (hc : R'.cells = 0) (hn : R'.slots = 0) (hk : k ≤ R.cells) (hn2 : n ≤ R.slots) (hsz : Ls.size = ml) (hpd : parseMethodDescriptor y.desc = some ⟨ps, r⟩) (hlen : argsL.length = ps.length) (hst : st = argsL.reverse ++ rest) (hW : (rest.map fun v => v.category).sum ≤ W)
    (g : Go Z l R B ml own rt mn pc' Ls st2 h L k n Q) : Go Z l R B ml own rt mn pc Ls st h L k n Q := by
  subst hp hs2
  intro p e s m args below meth c T X hx hZ hby hml hown hrt hlk hnm eT
  obtain ⟨v, _, ⟨U, ls, cc, sl⟩, -, X', ⟨Lc, hQ, l1, y1, z1⟩, stp⟩ := Jvm.LawKit.callS X hx (y := y) hown (mvT hZ w1) (mvT hZ w2) (mvT hZ w3) (mvT hZ w4) hy (backOf (W := W) con hZ w4 w3 hf hl) (g := mkF m pc Ls st) rfl (hsz.trans hml.symm) (argsL := argsL) (rest := rest) (lenOf hpd hlen) hst (by show 2 * 0 + _ ≤ _; omega) (hb hby hd) (fun _ _ => ⟨rfl, eT, (by rw [hc]; exact hk), (by rw [hn]; exact hn2)⟩)
  dsimp only [Pt.U, Pt.locs, Pt.cells, Pt.slots] at X' hQ l1 y1 z1 stp
  obtain ⟨q1, q2, q3⟩ := hQ
  rw [q3, List.append_nil] at l1
  rw [hc, Nat.add_zero] at y1
  rw [hn, Nat.add_zero] at z1
  subst l1 y1 z1
  rw [q1] at stp
  obtain ⟨s₂, o, h1, h2⟩ := g p e s m args below meth c U X' hx hZ hby hml hown hrt hlk hnm q2
  exact ⟨s₂, o, stp _ h1, h2⟩
theorem Go.callI {a0 : Array Value} {i : Nat} {y : MethodName} {B' : ByteArray} {ml' : Nat} {R' : Room} {Q' : Option Value → Heap → List Loc → Prop} {W : Nat} {a : Addr} {argsL : List Value} {st : List Value} {ps : List FieldType} {r : Option FieldType}
    (hd : decode B pc = .ok (.invokespecial i, 3)) (hp : pc + 3 = pc') (hy1 : y.name = "<init>") (w1 : (Jvm.Cond.methodLink own i y).before a0 Z = true) (w2 : (Jvm.Cond.instanceMethod y).before a0 Z = true) (w3 : (Jvm.Cond.initialized y.cls).before a0 Z = true) (w4 : (Jvm.Cond.code y B' ml' none).before a0 Z = true) (hy : y.cls ≠ "java/lang/invoke/MethodHandle" ∧ y.cls ≠ "java/lang/invoke/VarHandle")
    (con : Con l Z y B' ml' none R' [] (.ref a :: argsL).toArray h Q') (hf : R'.frames + 1 ≤ R.frames) (hl : W + (ml' + 11) + R'.locals ≤ R.locals) {k' n' : Nat} (hc : k + R'.cells ≤ R.cells) (hn : n + R'.slots ≤ R.slots) (hk' : k + R'.cells = k') (hn' : n + R'.slots = n') (hsz : Ls.size = ml) (hpd : parseMethodDescriptor y.desc = some ⟨ps, r⟩) (hlen : argsL.length = ps.length) (hst : st = argsL.reverse ++ .ref a :: rest) (hW : (rest.map fun v => v.category).sum ≤ W)
    (g : ∀ v h' L' L'', (∀ q, Fr q L → Fr q L' → Fr q L'') → Q' v h' L' → Go Z l R B ml own rt mn pc' Ls (v.toList ++ rest) h' L'' k' n' Q) : Go Z l R B ml own rt mn pc Ls st h L k n Q := by
  subst hp hk' hn'
  intro p e s m args below meth c T X hx hZ hby hml hown hrt hlk hnm eT
  obtain ⟨v, _, ⟨U, ls, cc, sl⟩, -, X', ⟨Lc, hQ, l1, y1, z1⟩, stp⟩ := X.specialBack hx (y := y) hy1 hown (mvT hZ w1) (mvT hZ w2) (mvT hZ w4) hy (backOf (W := W) con hZ w4 w3 hf hl) (g := mkF m pc Ls st) rfl (hsz.trans hml.symm) (Steps.refl _) (a := a) (argsL := argsL) (rest := rest) (lenOf hpd hlen) hst (by show 2 * 0 + _ ≤ _; omega) (hb hby hd) (fun _ _ => ⟨rfl, eT, hc, hn⟩)
  dsimp only [Pt.U, Pt.locs, Pt.cells, Pt.slots] at X' hQ l1 y1 z1 stp
  subst l1 y1 z1
  obtain ⟨s₂, o, h1, h2⟩ := g v U.heap Lc _ (fun q a b => a.app b) hQ p e s m args below meth c U X' hx hZ hby hml hown hrt hlk hnm rfl
  exact ⟨s₂, o, stp.trans h1, h2⟩
theorem Go.callI0 {a0 : Array Value} {i : Nat} {y : MethodName} {B' : ByteArray} {ml' : Nat} {R' : Room} {v0 : Option Value} {W : Nat} {a : Addr} {argsL : List Value} {st : List Value} {ps : List FieldType} {r : Option FieldType}
    (hd : decode B pc = .ok (.invokespecial i, 3)) (hp : pc + 3 = pc') (hy1 : y.name = "<init>") (w1 : (Jvm.Cond.methodLink own i y).before a0 Z = true) (w2 : (Jvm.Cond.instanceMethod y).before a0 Z = true) (w3 : (Jvm.Cond.initialized y.cls).before a0 Z = true) (w4 : (Jvm.Cond.code y B' ml' none).before a0 Z = true) (hy : y.cls ≠ "java/lang/invoke/MethodHandle" ∧ y.cls ≠ "java/lang/invoke/VarHandle")
    (con : Con l Z y B' ml' none R' [] (.ref a :: argsL).toArray h (PQ h v0)) (hf : R'.frames + 1 ≤ R.frames) (hl : W + (ml' + 11) + R'.locals ≤ R.locals) {st2 : List Value} (hs2 : v0.toList ++ rest = st2) (hc : R'.cells = 0) (hn : R'.slots = 0) (hk : k ≤ R.cells) (hn2 : n ≤ R.slots) (hsz : Ls.size = ml) (hpd : parseMethodDescriptor y.desc = some ⟨ps, r⟩) (hlen : argsL.length = ps.length) (hst : st = argsL.reverse ++ .ref a :: rest) (hW : (rest.map fun v => v.category).sum ≤ W)
    (g : Go Z l R B ml own rt mn pc' Ls st2 h L k n Q) : Go Z l R B ml own rt mn pc Ls st h L k n Q := by
  subst hp hs2
  intro p e s m args below meth c T X hx hZ hby hml hown hrt hlk hnm eT
  obtain ⟨v, _, ⟨U, ls, cc, sl⟩, -, X', ⟨Lc, hQ, l1, y1, z1⟩, stp⟩ := X.specialBack hx (y := y) hy1 hown (mvT hZ w1) (mvT hZ w2) (mvT hZ w4) hy (backOf (W := W) con hZ w4 w3 hf hl) (g := mkF m pc Ls st) rfl (hsz.trans hml.symm) (Steps.refl _) (a := a) (argsL := argsL) (rest := rest) (lenOf hpd hlen) hst (by show 2 * 0 + _ ≤ _; omega) (hb hby hd) (fun _ _ => ⟨rfl, eT, (by rw [hc]; exact hk), (by rw [hn]; exact hn2)⟩)
  dsimp only [Pt.U, Pt.locs, Pt.cells, Pt.slots] at X' hQ l1 y1 z1 stp
  obtain ⟨q1, q2, q3⟩ := hQ
  rw [q3, List.append_nil] at l1
  rw [hc, Nat.add_zero] at y1
  rw [hn, Nat.add_zero] at z1
  subst l1 y1 z1
  rw [q1] at stp
  obtain ⟨s₂, o, h1, h2⟩ := g p e s m args below meth c U X' hx hZ hby hml hown hrt hlk hnm q2
  exact ⟨s₂, o, stp.trans h1, h2⟩
theorem Go.callV {a0 : Array Value} {i : Nat} {C : String} {y z : MethodName} {B' : ByteArray} {ml' : Nat} {rt' : Option FieldType} {R' : Room} {Q' : Option Value → Heap → List Loc → Prop} {W : Nat} {a : Addr} {argsL : List Value} {st : List Value} {ps : List FieldType} {r : Option FieldType}
    (hd : decode B pc = .ok (.invokevirtual i, 3)) (hp : pc + 3 = pc') (w1 : (Jvm.Cond.methodLink own i y).before a0 Z = true) (w2 : (Jvm.Cond.declares y).before a0 Z = true) (nf : ∀ (s : State) (args : Array Value), Z.Warmed39 s.vm → NotFace s y) (w5 : (Jvm.Cond.selects C y z).before a0 Z = true) (w6 : (Jvm.Cond.instanceMethod z).before a0 Z = true) (w3 : (Jvm.Cond.initialized z.cls).before a0 Z = true) (w4 : (Jvm.Cond.code z B' ml' rt').before a0 Z = true) (E : Exa Z h a C) (hy : y.cls ≠ "java/lang/invoke/MethodHandle" ∧ y.cls ≠ "java/lang/invoke/VarHandle")
    (con : Con l Z z B' ml' rt' R' [] (.ref a :: argsL).toArray h Q') (hf : R'.frames + 1 ≤ R.frames) (hl : W + (ml' + 11) + R'.locals ≤ R.locals) {k' n' : Nat} (hc : k + R'.cells ≤ R.cells) (hn : n + R'.slots ≤ R.slots) (hk' : k + R'.cells = k') (hn' : n + R'.slots = n') (hsz : Ls.size = ml) (hpd : parseMethodDescriptor y.desc = some ⟨ps, r⟩) (hlen : argsL.length = ps.length) (hst : st = argsL.reverse ++ .ref a :: rest) (hW : (rest.map fun v => v.category).sum ≤ W)
    (g : ∀ v h' L' L'', (∀ q, Fr q L → Fr q L' → Fr q L'') → Q' v h' L' → Go Z l R B ml own rt mn pc' Ls (v.toList ++ rest) h' L'' k' n' Q) : Go Z l R B ml own rt mn pc Ls st h L k n Q := by
  subst hp hk' hn'
  intro p e s m args below meth c T X hx hZ hby hml hown hrt hlk hnm eT
  obtain ⟨cq, kq, qa, qb, qc⟩ := isOf hZ eT E
  obtain ⟨v, _, ⟨U, ls, cc, sl⟩, -, X', ⟨Lc, hQ, l1, y1, z1⟩, stp⟩ := X.virtualBack hx (y := y) (z := z) hown (mvT hZ w1) (mvT hZ w2) (nf s args hZ) (mvT hZ w5) (mvT hZ w6) hy (backOf (W := W) con hZ w4 w3 hf hl) qa qc (g := mkF m pc Ls st) rfl (hsz.trans hml.symm) (Steps.refl _) (argsL := argsL) (rest := rest) (lenOf hpd hlen) hst (by show 2 * 0 + _ ≤ _; omega) (hb hby hd) (fun _ _ => ⟨rfl, eT, hc, hn⟩)
  dsimp only [Pt.U, Pt.locs, Pt.cells, Pt.slots] at X' hQ l1 y1 z1 stp
  subst l1 y1 z1
  obtain ⟨s₂, o, h1, h2⟩ := g v U.heap Lc _ (fun q a b => a.app b) hQ p e s m args below meth c U X' hx hZ hby hml hown hrt hlk hnm rfl
  exact ⟨s₂, o, stp.trans h1, h2⟩
theorem Go.callV0 {a0 : Array Value} {i : Nat} {C : String} {y z : MethodName} {B' : ByteArray} {ml' : Nat} {rt' : Option FieldType} {R' : Room} {v0 : Option Value} {W : Nat} {a : Addr} {argsL : List Value} {st : List Value} {ps : List FieldType} {r : Option FieldType}
    (hd : decode B pc = .ok (.invokevirtual i, 3)) (hp : pc + 3 = pc') (w1 : (Jvm.Cond.methodLink own i y).before a0 Z = true) (w2 : (Jvm.Cond.declares y).before a0 Z = true) (nf : ∀ (s : State) (args : Array Value), Z.Warmed39 s.vm → NotFace s y) (w5 : (Jvm.Cond.selects C y z).before a0 Z = true) (w6 : (Jvm.Cond.instanceMethod z).before a0 Z = true) (w3 : (Jvm.Cond.initialized z.cls).before a0 Z = true) (w4 : (Jvm.Cond.code z B' ml' rt').before a0 Z = true) (E : Exa Z h a C) (hy : y.cls ≠ "java/lang/invoke/MethodHandle" ∧ y.cls ≠ "java/lang/invoke/VarHandle")
    (con : Con l Z z B' ml' rt' R' [] (.ref a :: argsL).toArray h (PQ h v0)) (hf : R'.frames + 1 ≤ R.frames) (hl : W + (ml' + 11) + R'.locals ≤ R.locals) {st2 : List Value} (hs2 : v0.toList ++ rest = st2) (hc : R'.cells = 0) (hn : R'.slots = 0) (hk : k ≤ R.cells) (hn2 : n ≤ R.slots) (hsz : Ls.size = ml) (hpd : parseMethodDescriptor y.desc = some ⟨ps, r⟩) (hlen : argsL.length = ps.length) (hst : st = argsL.reverse ++ .ref a :: rest) (hW : (rest.map fun v => v.category).sum ≤ W)
    (g : Go Z l R B ml own rt mn pc' Ls st2 h L k n Q) : Go Z l R B ml own rt mn pc Ls st h L k n Q := by
  subst hp hs2
  intro p e s m args below meth c T X hx hZ hby hml hown hrt hlk hnm eT
  obtain ⟨cq, kq, qa, qb, qc⟩ := isOf hZ eT E
  obtain ⟨v, _, ⟨U, ls, cc, sl⟩, -, X', ⟨Lc, hQ, l1, y1, z1⟩, stp⟩ := X.virtualBack hx (y := y) (z := z) hown (mvT hZ w1) (mvT hZ w2) (nf s args hZ) (mvT hZ w5) (mvT hZ w6) hy (backOf (W := W) con hZ w4 w3 hf hl) qa qc (g := mkF m pc Ls st) rfl (hsz.trans hml.symm) (Steps.refl _) (argsL := argsL) (rest := rest) (lenOf hpd hlen) hst (by show 2 * 0 + _ ≤ _; omega) (hb hby hd) (fun _ _ => ⟨rfl, eT, (by rw [hc]; exact hk), (by rw [hn]; exact hn2)⟩)
  dsimp only [Pt.U, Pt.locs, Pt.cells, Pt.slots] at X' hQ l1 y1 z1 stp
  obtain ⟨q1, q2, q3⟩ := hQ
  rw [q3, List.append_nil] at l1
  rw [hc, Nat.add_zero] at y1
  rw [hn, Nat.add_zero] at z1
  subst l1 y1 z1
  rw [q1] at stp
  obtain ⟨s₂, o, h1, h2⟩ := g p e s m args below meth c U X' hx hZ hby hml hown hrt hlk hnm q2
  exact ⟨s₂, o, stp.trans h1, h2⟩
theorem Go.callP {a0 : Array Value} {i : Nat} {C : String} {kk : Nat} {y : MethodName} {B' : ByteArray} {ml' : Nat} {rt' : Option FieldType} {R' : Room} {Q' : Option Value → Heap → List Loc → Prop} {W : Nat} {a : Addr} {argsL : List Value} {st : List Value} {ps : List FieldType} {r : Option FieldType}
    (hd : decode B pc = .ok (.invokevirtual i, 3)) (hp : pc + 3 = pc') (w1 : (Jvm.Cond.methodLink own i y).before a0 Z = true) (w2 : (Jvm.Cond.instanceMethod y).before a0 Z = true) (w5 : (Jvm.Cond.instantiable y.cls kk).before a0 Z = true) (w6 : (Jvm.Cond.privateMethod y).before a0 Z = true) (w3 : (Jvm.Cond.initialized y.cls).before a0 Z = true) (w4 : (Jvm.Cond.code y B' ml' rt').before a0 Z = true) (E : Exa Z h a C) (hy : y.cls ≠ "java/lang/invoke/MethodHandle" ∧ y.cls ≠ "java/lang/invoke/VarHandle")
    (con : Con l Z y B' ml' rt' R' [] (.ref a :: argsL).toArray h Q') (hf : R'.frames + 1 ≤ R.frames) (hl : W + (ml' + 11) + R'.locals ≤ R.locals) {k' n' : Nat} (hc : k + R'.cells ≤ R.cells) (hn : n + R'.slots ≤ R.slots) (hk' : k + R'.cells = k') (hn' : n + R'.slots = n') (hsz : Ls.size = ml) (hpd : parseMethodDescriptor y.desc = some ⟨ps, r⟩) (hlen : argsL.length = ps.length) (hst : st = argsL.reverse ++ .ref a :: rest) (hW : (rest.map fun v => v.category).sum ≤ W)
    (g : ∀ v h' L' L'', (∀ q, Fr q L → Fr q L' → Fr q L'') → Q' v h' L' → Go Z l R B ml own rt mn pc' Ls (v.toList ++ rest) h' L'' k' n' Q) : Go Z l R B ml own rt mn pc Ls st h L k n Q := by
  subst hp hk' hn'
  intro p e s m args below meth c T X hx hZ hby hml hown hrt hlk hnm eT
  obtain ⟨cq, q1, q2⟩ := E.cell
  obtain ⟨v, _, ⟨U, ls, cc, sl⟩, -, X', ⟨Lc, hQ, l1, y1, z1⟩, stp⟩ := X.privateBack hx (y := y) hown (mvT hZ w1) (mvT hZ w2) (sel_priv hZ w5 w6 w2 hy) (Cond.privateMethod_at (mvP hZ w6 (args := #[]))) (mvT hZ w4) hy (backOf (W := W) con hZ w4 w3 hf hl) (g := mkF m pc Ls st) rfl (hsz.trans hml.symm) (Steps.refl _) (a := a) (by rw [eT]; exact q1) q2 (argsL := argsL) (rest := rest) (lenOf hpd hlen) hst (by show 2 * 0 + _ ≤ _; omega) (hb hby hd) (fun _ _ => ⟨rfl, eT, hc, hn⟩)
  dsimp only [Pt.U, Pt.locs, Pt.cells, Pt.slots] at X' hQ l1 y1 z1 stp
  subst l1 y1 z1
  obtain ⟨s₂, o, h1, h2⟩ := g v U.heap Lc _ (fun q a b => a.app b) hQ p e s m args below meth c U X' hx hZ hby hml hown hrt hlk hnm rfl
  exact ⟨s₂, o, stp.trans h1, h2⟩
theorem Go.callP0 {a0 : Array Value} {i : Nat} {C : String} {kk : Nat} {y : MethodName} {B' : ByteArray} {ml' : Nat} {rt' : Option FieldType} {R' : Room} {v0 : Option Value} {W : Nat} {a : Addr} {argsL : List Value} {st : List Value} {ps : List FieldType} {r : Option FieldType}
    (hd : decode B pc = .ok (.invokevirtual i, 3)) (hp : pc + 3 = pc') (w1 : (Jvm.Cond.methodLink own i y).before a0 Z = true) (w2 : (Jvm.Cond.instanceMethod y).before a0 Z = true) (w5 : (Jvm.Cond.instantiable y.cls kk).before a0 Z = true) (w6 : (Jvm.Cond.privateMethod y).before a0 Z = true) (w3 : (Jvm.Cond.initialized y.cls).before a0 Z = true) (w4 : (Jvm.Cond.code y B' ml' rt').before a0 Z = true) (E : Exa Z h a C) (hy : y.cls ≠ "java/lang/invoke/MethodHandle" ∧ y.cls ≠ "java/lang/invoke/VarHandle")
    (con : Con l Z y B' ml' rt' R' [] (.ref a :: argsL).toArray h (PQ h v0)) (hf : R'.frames + 1 ≤ R.frames) (hl : W + (ml' + 11) + R'.locals ≤ R.locals) {st2 : List Value} (hs2 : v0.toList ++ rest = st2) (hc : R'.cells = 0) (hn : R'.slots = 0) (hk : k ≤ R.cells) (hn2 : n ≤ R.slots) (hsz : Ls.size = ml) (hpd : parseMethodDescriptor y.desc = some ⟨ps, r⟩) (hlen : argsL.length = ps.length) (hst : st = argsL.reverse ++ .ref a :: rest) (hW : (rest.map fun v => v.category).sum ≤ W)
    (g : Go Z l R B ml own rt mn pc' Ls st2 h L k n Q) : Go Z l R B ml own rt mn pc Ls st h L k n Q := by
  subst hp hs2
  intro p e s m args below meth c T X hx hZ hby hml hown hrt hlk hnm eT
  obtain ⟨cq, q1, q2⟩ := E.cell
  obtain ⟨v, _, ⟨U, ls, cc, sl⟩, -, X', ⟨Lc, hQ, l1, y1, z1⟩, stp⟩ := X.privateBack hx (y := y) hown (mvT hZ w1) (mvT hZ w2) (sel_priv hZ w5 w6 w2 hy) (Cond.privateMethod_at (mvP hZ w6 (args := #[]))) (mvT hZ w4) hy (backOf (W := W) con hZ w4 w3 hf hl) (g := mkF m pc Ls st) rfl (hsz.trans hml.symm) (Steps.refl _) (a := a) (by rw [eT]; exact q1) q2 (argsL := argsL) (rest := rest) (lenOf hpd hlen) hst (by show 2 * 0 + _ ≤ _; omega) (hb hby hd) (fun _ _ => ⟨rfl, eT, (by rw [hc]; exact hk), (by rw [hn]; exact hn2)⟩)
  dsimp only [Pt.U, Pt.locs, Pt.cells, Pt.slots] at X' hQ l1 y1 z1 stp
  obtain ⟨q1, q2, q3⟩ := hQ
  rw [q3, List.append_nil] at l1
  rw [hc, Nat.add_zero] at y1
  rw [hn, Nat.add_zero] at z1
  subst l1 y1 z1
  rw [q1] at stp
  obtain ⟨s₂, o, h1, h2⟩ := g p e s m args below meth c U X' hx hZ hby hml hown hrt hlk hnm q2
  exact ⟨s₂, o, stp.trans h1, h2⟩
theorem nf_sel {a0 : Array Value} {C : String} {y : MethodName} (w : (Jvm.Cond.selects C y y).before a0 Z = true) : ∀ (s : State) (args : Array Value), Z.Warmed39 s.vm → NotFace s y := fun s args hZ => notFace_of_selects (args := args) (mvT hZ w)
theorem Go.initO {a0 : Array Value} {i : Nat} {W : Nat} {a : Addr} (hd : decode B pc = .ok (.invokespecial i, 3)) (hp : pc + 3 = pc') (w1 : (Jvm.Cond.methodLink own i Lib.objectInit).before a0 Z = true) (w2 : (Jvm.Cond.instanceMethod Lib.objectInit).before a0 Z = true) (w3 : (Jvm.Cond.code Lib.objectInit ⟨#[0xb1]⟩ 1 none).before a0 Z = true) (hf : 1 ≤ R.frames) (hl : W + 12 ≤ R.locals) (hsz : Ls.size = ml) (hW : (rest.map fun v => v.category).sum ≤ W)
    (g : Go Z l R B ml own rt mn pc' Ls rest h L k n Q) : Go Z l R B ml own rt mn pc Ls (.ref a :: rest) h L k n Q := by
  subst hp
  intro p e s m args below meth c T X hx hZ hby hml hown hrt hlk hnm eT
  obtain ⟨T', X', e', stp⟩ := Jvm.RoadKit.initO X hx hZ hown w1 w2 w3 eT (g := mkF m pc Ls (.ref a :: rest)) rfl (hsz.trans hml.symm) rfl (hb hby hd) hf (W := W) (by show 2 * 0 + _ ≤ _; omega) hl
  obtain ⟨s₂, o, h1, h2⟩ := g p e s m args below meth c T' X' hx hZ hby hml hown hrt hlk hnm e'
  exact ⟨s₂, o, stp _ h1, h2⟩
/-! objects -/
theorem Go.newO {a0 : Array Value} {st : List Value} {i sz : Nat} {C : String} {k' n' : Nat} (hd : decode B pc = .ok (.new i, 3)) (hp : pc + 3 = pc') (w : (Jvm.Cond.classLink own i C).before a0 Z = true) (wi : (Jvm.Cond.instantiable C sz).before a0 Z = true) (wz : (Jvm.Cond.initialized C).before a0 Z = true) (hc : k + 1 ≤ R.cells) (hl : n + sz ≤ R.slots) (hk' : k + 1 = k') (hn' : n + sz = n')
    (g : ∀ h' a, a = h.size → Ext h h' → Exa Z h' a C → (∀ {O nm d : String} {ty : FieldType}, Laid Z a0 C O nm d → parseFieldDescriptor d = some ty → Fld Z h' a O nm d (defaultValue ty)) → Go Z l R B ml own rt mn pc' Ls (.ref a :: st) h' L k' n' Q) : Go Z l R B ml own rt mn pc Ls st h L k n Q := by
  subst hp hk' hn'
  intro p e s m args below meth c T X hx hZ hby hml hown hrt hlk hnm eT
  obtain ⟨T', h', X', e', E', A', D', -, stp⟩ := Jvm.RoadKit.newO X hx hZ hown w wi wz eT (g := mkF m pc Ls st) rfl (hb hby hd) hc hl
  obtain ⟨s₂, o, h1, h2⟩ := g h' _ rfl E' A' D' p e s m args below meth c T' X' hx hZ hby hml hown hrt hlk hnm e'
  exact ⟨s₂, o, stp _ h1, h2⟩
theorem Go.getF {a0 : Array Value} {i : Nat} {R0 O f d : String} {a : Addr} {v : Value} (hd : decode B pc = .ok (.getfield i, 3)) (hp : pc + 3 = pc') (w : (Jvm.Cond.fieldLink own i R0 f d).before a0 Z = true) (via : Via Z R0 O f d) (F : Fld Z h a O f d v) (g : Go Z l R B ml own rt mn pc' Ls (v :: rest) h L k n Q) : Go Z l R B ml own rt mn pc Ls (.ref a :: rest) h L k n Q := by
  subst hp
  intro p e s m args below meth c T X hx hZ hby hml hown hrt hlk hnm eT
  obtain ⟨T', X', e', stp⟩ := Jvm.RoadKit.getF X hx hZ hown (host := "") (Or.inl w) via eT F (g := mkF m pc Ls (.ref a :: rest)) rfl rfl (hb hby hd)
  obtain ⟨s₂, o, h1, h2⟩ := g p e s m args below meth c T' X' hx hZ hby hml hown hrt hlk hnm e'
  exact ⟨s₂, o, stp _ h1, h2⟩
theorem Go.putF {a0 : Array Value} {i kk : Nat} {R0 O f d C : String} {a : Addr} {v old : Value} {ty : FieldType} (hd : decode B pc = .ok (.putfield i, 3)) (hp : pc + 3 = pc') (w : (Jvm.Cond.fieldLink own i R0 f d).before a0 Z = true) (via : Via Z R0 O f d) (F : Fld Z h a O f d old) (E : Exa Z h a C) (lw : (Jvm.Cond.lays C O f d).before a0 Z = true ∨ ((Jvm.Cond.laysFinal C O f d).before a0 Z = true ∧ own = O ∧ mn = "<init>")) (wi : (Jvm.Cond.instantiable C kk).before a0 Z = true)
    (hty : parseFieldDescriptor d = some ty) (hn : narrow ty v = v) (hf : fits ty v = true) (g : ∀ h' L', (∀ q, Fr q L → q ≤ a → Fr q L') → Wr h h' a (Jvm.RoadKit.slotOf Z O f d) v → Go Z l R B ml own rt mn pc' Ls rest h' L' k n Q) : Go Z l R B ml own rt mn pc Ls (v :: .ref a :: rest) h L k n Q := by
  subst hp
  intro p e s m args below meth c T X hx hZ hby hml hown hrt hlk hnm eT
  obtain ⟨T', h', X', e', W', stp⟩ := Jvm.RoadKit.putF X hx hZ hown (host := "") (Or.inl w) via eT F E (lw.imp id fun q => ⟨q.1, q.2.1, hnm.trans q.2.2⟩) wi hty hn hf (g := mkF m pc Ls (v :: .ref a :: rest)) rfl rfl (hb hby hd)
  obtain ⟨s₂, o, h1, h2⟩ := g h' _ (fun q N r => fr_one N r) W' p e s m args below meth c T' X' hx hZ hby hml hown hrt hlk hnm e'
  exact ⟨s₂, o, stp _ h1, h2⟩
/-! arrays: the very list of values -/
def Al (Z : State) (h : Heap) (a : Addr) (ty : FieldType) (vs : List Value) : Prop := vs.length < 2 ^ 31 ∧ ∃ c : Cell, Arr Z h a c ty ∧ c.slots = vs.toArray
theorem Al.lt {a : Addr} {ty : FieldType} {vs : List Value} (A : Al Z h a ty vs) : a < h.size := by obtain ⟨-, c, A, -⟩ := A; exact A.lt
theorem Al.ext {h' : Heap} {a : Addr} {ty : FieldType} {vs : List Value} (A : Al Z h a ty vs) (E : Ext h h') : Al Z h' a ty vs := by obtain ⟨q, c, A, r⟩ := A; exact ⟨q, c, A.ext E, r⟩
theorem Al.other {h' : Heap} {a b : Addr} {sl : Nat} {v : Value} {ty : FieldType} {vs : List Value} (A : Al Z h b ty vs) (W : Wr h h' a sl v) (ne : b ≠ a) : Al Z h' b ty vs := by obtain ⟨q, c, A, r⟩ := A; exact ⟨q, c, A.other W ne, r⟩
theorem Al.keep {h' : Heap} {a : Addr} {ty : FieldType} {vs : List Value} {ws : List Addr} (A : Al Z h a ty vs) (K : Keep h h' ws) (q : a ∉ ws) : Al Z h' a ty vs := by obtain ⟨q0, c, A, r⟩ := A; exact ⟨q0, c, ⟨K.2.1 a c A.1 q, A.2⟩, r⟩
theorem Al.set {h' : Heap} {a : Addr} {ty : FieldType} {vs : List Value} {i : Nat} {v : Value} (A : Al Z h a ty vs) (W : Wr h h' a i v) : Al Z h' a ty (vs.set i v) := by
  obtain ⟨q, c, A, r⟩ := A
  refine ⟨by simpa using q, c.setSlot i v, A.same W, ?_⟩
  simp [Cell.setSlot, r]
theorem Al.new {a : Addr} {ty : FieldType} {kc : ClassId} {z : Int32} {N : Nat} (A : Arr Z h a (newA kc ty z) ty) (hz : z.toInt = (N : Int)) : Al Z h a ty (List.replicate N (defaultValue ty)) := by
  have h1 : z.toNatClampNeg = N := by show z.toInt.toNat = N; omega
  have h2 := z.toInt_lt
  refine ⟨by simp; omega, _, A, ?_⟩
  simp [newA, h1]
theorem ne_al {a0 : Array Value} {a b : Addr} {C : String} {kk : Nat} {ty : FieldType} {vs : List Value} (F : Exa Z h a C) (wi : (Jvm.Cond.instantiable C kk).before a0 Z = true) (A : Al Z h b ty vs) : a ≠ b := by obtain ⟨-, c, A, -⟩ := A; exact ne_arr F wi A
theorem in_of {c : Cell} {vs : List Value} {j : Int32} {i : Nat} (r : c.slots = vs.toArray) (hj : j.toInt = (i : Int)) (hi : i < vs.length) : ¬ (j < 0 ∨ c.slots.size ≤ j.toNatClampNeg) := by
  have h1 : j.toNatClampNeg = i := by show j.toInt.toNat = i; omega
  rw [h1, r, Int32.lt_iff_toInt_lt]
  have z0 : (0 : Int32).toInt = 0 := rfl
  rw [z0]
  intro q
  rcases q with q | q
  · omega
  · rw [List.size_toArray] at q; omega
theorem at_of {c : Cell} {vs : List Value} {j : Int32} {i : Nat} {v : Value} (r : c.slots = vs.toArray) (hj : j.toInt = (i : Int)) (hv : vs[i]? = some v) : c.slots[j.toNatClampNeg]? = some v := by
  have h1 : j.toNatClampNeg = i := by show j.toInt.toNat = i; omega
  rw [h1, r]; simpa using hv
theorem Go.iaload {a : Addr} {vs : List Value} {j : Int32} {i : Nat} {v : Value} (hd : decode B pc = .ok (.iaload, 1)) (hp : pc + 1 = pc') (A : Al Z h a .int vs) (hj : j.toInt = (i : Int)) (hv : vs[i]? = some v) (g : Go Z l R B ml own rt mn pc' Ls (v :: rest) h L k n Q) : Go Z l R B ml own rt mn pc Ls (.int j :: .ref a :: rest) h L k n Q := by
  obtain ⟨q, c, A, r⟩ := A
  subst hp
  exact Go.stand (fun p e s m args below meth c' T t X hx hZ hB hown eT hr => X.iaload hx (j := j) (v := v) (by rw [eT]; exact A.1) (State.isArrayOf_alike hZ.alike A.2.1) A.2.2 (in_of r hj (List.getElem?_eq_some_iff.mp hv).1) (at_of r hj hv) (g := mkF m pc Ls (.int j :: .ref a :: rest)) rfl rfl (hb hB hd) _ hr) g
theorem Go.laload {a : Addr} {vs : List Value} {j : Int32} {i : Nat} {v : Value} (hd : decode B pc = .ok (.laload, 1)) (hp : pc + 1 = pc') (A : Al Z h a .long vs) (hj : j.toInt = (i : Int)) (hv : vs[i]? = some v) (g : Go Z l R B ml own rt mn pc' Ls (v :: rest) h L k n Q) : Go Z l R B ml own rt mn pc Ls (.int j :: .ref a :: rest) h L k n Q := by
  obtain ⟨q, c, A, r⟩ := A
  subst hp
  exact Go.stand (fun p e s m args below meth c' T t X hx hZ hB hown eT hr => X.laload hx (j := j) (v := v) (by rw [eT]; exact A.1) (State.isArrayOf_alike hZ.alike A.2.1) A.2.2 (in_of r hj (List.getElem?_eq_some_iff.mp hv).1) (at_of r hj hv) (g := mkF m pc Ls (.int j :: .ref a :: rest)) rfl rfl (hb hB hd) _ hr) g
theorem Go.baloadB {a : Addr} {vs : List Value} {j : Int32} {i : Nat} {v : Value} (hd : decode B pc = .ok (.baload, 1)) (hp : pc + 1 = pc') (A : Al Z h a .byte vs) (hj : j.toInt = (i : Int)) (hv : vs[i]? = some v) (g : Go Z l R B ml own rt mn pc' Ls (v :: rest) h L k n Q) : Go Z l R B ml own rt mn pc Ls (.int j :: .ref a :: rest) h L k n Q := by
  obtain ⟨q, c, A, r⟩ := A
  subst hp
  exact Go.stand (fun p e s m args below meth c' T t X hx hZ hB hown eT hr => X.baloadBytes hx (j := j) (v := v) (by rw [eT]; exact A.1) (State.isArrayOf_alike hZ.alike A.2.1) A.2.2 (in_of r hj (List.getElem?_eq_some_iff.mp hv).1) (at_of r hj hv) (g := mkF m pc Ls (.int j :: .ref a :: rest)) rfl rfl (hb hB hd) _ hr) g
theorem Go.baloadZ {a : Addr} {vs : List Value} {j : Int32} {i : Nat} {v : Value} (hd : decode B pc = .ok (.baload, 1)) (hp : pc + 1 = pc') (A : Al Z h a .boolean vs) (hj : j.toInt = (i : Int)) (hv : vs[i]? = some v) (g : Go Z l R B ml own rt mn pc' Ls (v :: rest) h L k n Q) : Go Z l R B ml own rt mn pc Ls (.int j :: .ref a :: rest) h L k n Q := by
  obtain ⟨q, c, A, r⟩ := A
  subst hp
  exact Go.stand (fun p e s m args below meth c' T t X hx hZ hB hown eT hr => X.baloadBooleans hx (j := j) (v := v) (by rw [eT]; exact A.1) (State.isArrayOf_alike hZ.alike A.2.1) A.2.2 (in_of r hj (List.getElem?_eq_some_iff.mp hv).1) (at_of r hj hv) (g := mkF m pc Ls (.int j :: .ref a :: rest)) rfl rfl (hb hB hd) _ hr) g
theorem Go.iastore {a : Addr} {vs vs' : List Value} {j : Int32} {x : Int32} {i : Nat} {v : Value} (hd : decode B pc = .ok (.iastore, 1)) (hp : pc + 1 = pc') (A : Al Z h a .int vs) (hj : j.toInt = (i : Int)) (hi : i < vs.length) (hv : .int x = v) (hs : vs.set i v = vs') (g : ∀ h' L', (∀ q, Fr q L → q ≤ a → Fr q L') → Wr h h' a i v → Al Z h' a .int vs' → Go Z l R B ml own rt mn pc' Ls rest h' L' k n Q) : Go Z l R B ml own rt mn pc Ls (.int x :: .int j :: .ref a :: rest) h L k n Q := by
  have A' := A
  obtain ⟨q, c, A, r⟩ := A
  subst hp hs
  intro p e s m args below meth c' T X hx hZ hby hml hown hrt hlk hnm eT
  obtain ⟨T', h', X', e', W', stp⟩ := stI X hx hZ eT A (j := j) (in_of r hj hi) (g := mkF m pc Ls (.int x :: .int j :: .ref a :: rest)) rfl rfl (hb hby hd)
  have h1 : j.toNatClampNeg = i := by show j.toInt.toNat = i; omega
  rw [h1] at X' W'
  subst hv
  obtain ⟨s₂, o, h1, h2⟩ := g h' _ (fun q N r => fr_one N r) W' (A'.set W') p e s m args below meth c' T' X' hx hZ hby hml hown hrt hlk hnm e'
  exact ⟨s₂, o, stp _ h1, h2⟩
theorem Go.lastore {a : Addr} {vs vs' : List Value} {j : Int32} {x : Int64} {i : Nat} {v : Value} (hd : decode B pc = .ok (.lastore, 1)) (hp : pc + 1 = pc') (A : Al Z h a .long vs) (hj : j.toInt = (i : Int)) (hi : i < vs.length) (hv : .long x = v) (hs : vs.set i v = vs') (g : ∀ h' L', (∀ q, Fr q L → q ≤ a → Fr q L') → Wr h h' a i v → Al Z h' a .long vs' → Go Z l R B ml own rt mn pc' Ls rest h' L' k n Q) : Go Z l R B ml own rt mn pc Ls (.long x :: .int j :: .ref a :: rest) h L k n Q := by
  have A' := A
  obtain ⟨q, c, A, r⟩ := A
  subst hp hs
  intro p e s m args below meth c' T X hx hZ hby hml hown hrt hlk hnm eT
  obtain ⟨T', h', X', e', W', stp⟩ := stJ X hx hZ eT A (j := j) (in_of r hj hi) (g := mkF m pc Ls (.long x :: .int j :: .ref a :: rest)) rfl rfl (hb hby hd)
  have h1 : j.toNatClampNeg = i := by show j.toInt.toNat = i; omega
  rw [h1] at X' W'
  subst hv
  obtain ⟨s₂, o, h1, h2⟩ := g h' _ (fun q N r => fr_one N r) W' (A'.set W') p e s m args below meth c' T' X' hx hZ hby hml hown hrt hlk hnm e'
  exact ⟨s₂, o, stp _ h1, h2⟩
theorem Go.bastoreB {a : Addr} {vs vs' : List Value} {j : Int32} {x : Int32} {i : Nat} {v : Value} (hd : decode B pc = .ok (.bastore, 1)) (hp : pc + 1 = pc') (A : Al Z h a .byte vs) (hj : j.toInt = (i : Int)) (hi : i < vs.length) (hv : .int (nar .byte x) = v) (hs : vs.set i v = vs') (g : ∀ h' L', (∀ q, Fr q L → q ≤ a → Fr q L') → Wr h h' a i v → Al Z h' a .byte vs' → Go Z l R B ml own rt mn pc' Ls rest h' L' k n Q) : Go Z l R B ml own rt mn pc Ls (.int x :: .int j :: .ref a :: rest) h L k n Q := by
  have A' := A
  obtain ⟨q, c, A, r⟩ := A
  subst hp hs
  intro p e s m args below meth c' T X hx hZ hby hml hown hrt hlk hnm eT
  obtain ⟨T', h', X', e', W', stp⟩ := stB X hx hZ eT A (j := j) (in_of r hj hi) (g := mkF m pc Ls (.int x :: .int j :: .ref a :: rest)) rfl rfl (hb hby hd)
  have h1 : j.toNatClampNeg = i := by show j.toInt.toNat = i; omega
  rw [h1] at X' W'
  subst hv
  obtain ⟨s₂, o, h1, h2⟩ := g h' _ (fun q N r => fr_one N r) W' (A'.set W') p e s m args below meth c' T' X' hx hZ hby hml hown hrt hlk hnm e'
  exact ⟨s₂, o, stp _ h1, h2⟩
theorem Go.bastoreZ {a : Addr} {vs vs' : List Value} {j : Int32} {x : Int32} {i : Nat} {v : Value} (hd : decode B pc = .ok (.bastore, 1)) (hp : pc + 1 = pc') (A : Al Z h a .boolean vs) (hj : j.toInt = (i : Int)) (hi : i < vs.length) (hv : .int (nar .boolean x) = v) (hs : vs.set i v = vs') (g : ∀ h' L', (∀ q, Fr q L → q ≤ a → Fr q L') → Wr h h' a i v → Al Z h' a .boolean vs' → Go Z l R B ml own rt mn pc' Ls rest h' L' k n Q) : Go Z l R B ml own rt mn pc Ls (.int x :: .int j :: .ref a :: rest) h L k n Q := by
  have A' := A
  obtain ⟨q, c, A, r⟩ := A
  subst hp hs
  intro p e s m args below meth c' T X hx hZ hby hml hown hrt hlk hnm eT
  obtain ⟨T', h', X', e', W', stp⟩ := stZ X hx hZ eT A (j := j) (in_of r hj hi) (g := mkF m pc Ls (.int x :: .int j :: .ref a :: rest)) rfl rfl (hb hby hd)
  have h1 : j.toNatClampNeg = i := by show j.toInt.toNat = i; omega
  rw [h1] at X' W'
  subst hv
  obtain ⟨s₂, o, h1, h2⟩ := g h' _ (fun q N r => fr_one N r) W' (A'.set W') p e s m args below meth c' T' X' hx hZ hby hml hown hrt hlk hnm e'
  exact ⟨s₂, o, stp _ h1, h2⟩
theorem Go.arraylength {a : Addr} {ty : FieldType} {vs : List Value} {z : Int32} (hd : decode B pc = .ok (.arraylength, 1)) (hp : pc + 1 = pc') (A : Al Z h a ty vs) (hz : vs.length.toInt32 = z) (g : Go Z l R B ml own rt mn pc' Ls (.int z :: rest) h L k n Q) : Go Z l R B ml own rt mn pc Ls (.ref a :: rest) h L k n Q := by
  obtain ⟨q, c, A, r⟩ := A
  subst hp hz
  refine Go.stand (fun p e s m args below meth c' T t X hx hZ hB hown eT hr => X.arraylength hx (by rw [eT]; exact A.1) (State.isArrayOf_alike hZ.alike A.2.1) (g := mkF m pc Ls (.ref a :: rest)) rfl rfl (hb hB hd) _ ?_) g
  rw [r]; simpa using hr
theorem Go.new_int {a0 : Array Value} {z : Int32} {N : Nat} {k' n' : Nat} {vs : List Value} (hd : decode B pc = .ok (.newarray .int, 2)) (hp : pc + 2 = pc') (w : (Jvm.Cond.arrayClass (.int)).before a0 Z = true) (hz : z.toInt = (N : Int)) (hvs : List.replicate N (defaultValue .int) = vs) (cap : Nat) (hcap : N ≤ cap) (h8 : cap * 8 ≤ 536870912) (hc : k + 1 ≤ R.cells) (hl : n + cap ≤ R.slots) (hk' : k + 1 = k') (hn' : n + cap = n')
    (g : ∀ h' a, a = h.size → Ext h h' → Al Z h' a .int vs → Go Z l R B ml own rt mn pc' Ls (.ref a :: rest) h' L k' n' Q) : Go Z l R B ml own rt mn pc Ls (.int z :: rest) h L k n Q := by
  subst hp hk' hn' hvs
  intro p e s m args below meth c T X hx hZ hby hml hown hrt hlk hnm eT
  have hz0 : ¬ z < 0 := by
    rw [Int32.lt_iff_toInt_lt]; have z0 : (0 : Int32).toInt = 0 := rfl
    omega
  obtain ⟨T', h', cA, X', e', E', A', stp⟩ := newP X hx hZ (aty := .int) w eT (g := mkF m pc Ls (.int z :: rest)) rfl (hb hby hd) rfl hz0 (cap := cap) (by show z.toInt.toNat ≤ cap; omega) h8 hc hl
  obtain ⟨s₂, o, h1, h2⟩ := g h' _ rfl E' (Al.new A' hz) p e s m args below meth c T' X' hx hZ hby hml hown hrt hlk hnm e'
  exact ⟨s₂, o, stp _ h1, h2⟩
theorem Go.new_long {a0 : Array Value} {z : Int32} {N : Nat} {k' n' : Nat} {vs : List Value} (hd : decode B pc = .ok (.newarray .long, 2)) (hp : pc + 2 = pc') (w : (Jvm.Cond.arrayClass (.long)).before a0 Z = true) (hz : z.toInt = (N : Int)) (hvs : List.replicate N (defaultValue .long) = vs) (cap : Nat) (hcap : N ≤ cap) (h8 : cap * 8 ≤ 536870912) (hc : k + 1 ≤ R.cells) (hl : n + cap ≤ R.slots) (hk' : k + 1 = k') (hn' : n + cap = n')
    (g : ∀ h' a, a = h.size → Ext h h' → Al Z h' a .long vs → Go Z l R B ml own rt mn pc' Ls (.ref a :: rest) h' L k' n' Q) : Go Z l R B ml own rt mn pc Ls (.int z :: rest) h L k n Q := by
  subst hp hk' hn' hvs
  intro p e s m args below meth c T X hx hZ hby hml hown hrt hlk hnm eT
  have hz0 : ¬ z < 0 := by
    rw [Int32.lt_iff_toInt_lt]; have z0 : (0 : Int32).toInt = 0 := rfl
    omega
  obtain ⟨T', h', cA, X', e', E', A', stp⟩ := newP X hx hZ (aty := .long) w eT (g := mkF m pc Ls (.int z :: rest)) rfl (hb hby hd) rfl hz0 (cap := cap) (by show z.toInt.toNat ≤ cap; omega) h8 hc hl
  obtain ⟨s₂, o, h1, h2⟩ := g h' _ rfl E' (Al.new A' hz) p e s m args below meth c T' X' hx hZ hby hml hown hrt hlk hnm e'
  exact ⟨s₂, o, stp _ h1, h2⟩
theorem Go.new_byte {a0 : Array Value} {z : Int32} {N : Nat} {k' n' : Nat} {vs : List Value} (hd : decode B pc = .ok (.newarray .byte, 2)) (hp : pc + 2 = pc') (w : (Jvm.Cond.arrayClass (.byte)).before a0 Z = true) (hz : z.toInt = (N : Int)) (hvs : List.replicate N (defaultValue .byte) = vs) (cap : Nat) (hcap : N ≤ cap) (h8 : cap * 8 ≤ 536870912) (hc : k + 1 ≤ R.cells) (hl : n + cap ≤ R.slots) (hk' : k + 1 = k') (hn' : n + cap = n')
    (g : ∀ h' a, a = h.size → Ext h h' → Al Z h' a .byte vs → Go Z l R B ml own rt mn pc' Ls (.ref a :: rest) h' L k' n' Q) : Go Z l R B ml own rt mn pc Ls (.int z :: rest) h L k n Q := by
  subst hp hk' hn' hvs
  intro p e s m args below meth c T X hx hZ hby hml hown hrt hlk hnm eT
  have hz0 : ¬ z < 0 := by
    rw [Int32.lt_iff_toInt_lt]; have z0 : (0 : Int32).toInt = 0 := rfl
    omega
  obtain ⟨T', h', cA, X', e', E', A', stp⟩ := newP X hx hZ (aty := .byte) w eT (g := mkF m pc Ls (.int z :: rest)) rfl (hb hby hd) rfl hz0 (cap := cap) (by show z.toInt.toNat ≤ cap; omega) h8 hc hl
  obtain ⟨s₂, o, h1, h2⟩ := g h' _ rfl E' (Al.new A' hz) p e s m args below meth c T' X' hx hZ hby hml hown hrt hlk hnm e'
  exact ⟨s₂, o, stp _ h1, h2⟩
theorem Go.new_boolean {a0 : Array Value} {z : Int32} {N : Nat} {k' n' : Nat} {vs : List Value} (hd : decode B pc = .ok (.newarray .boolean, 2)) (hp : pc + 2 = pc') (w : (Jvm.Cond.arrayClass (.boolean)).before a0 Z = true) (hz : z.toInt = (N : Int)) (hvs : List.replicate N (defaultValue .boolean) = vs) (cap : Nat) (hcap : N ≤ cap) (h8 : cap * 8 ≤ 536870912) (hc : k + 1 ≤ R.cells) (hl : n + cap ≤ R.slots) (hk' : k + 1 = k') (hn' : n + cap = n')
    (g : ∀ h' a, a = h.size → Ext h h' → Al Z h' a .boolean vs → Go Z l R B ml own rt mn pc' Ls (.ref a :: rest) h' L k' n' Q) : Go Z l R B ml own rt mn pc Ls (.int z :: rest) h L k n Q := by
  subst hp hk' hn' hvs
  intro p e s m args below meth c T X hx hZ hby hml hown hrt hlk hnm eT
  have hz0 : ¬ z < 0 := by
    rw [Int32.lt_iff_toInt_lt]; have z0 : (0 : Int32).toInt = 0 := rfl
    omega
  obtain ⟨T', h', cA, X', e', E', A', stp⟩ := newP X hx hZ (aty := .boolean) w eT (g := mkF m pc Ls (.int z :: rest)) rfl (hb hby hd) rfl hz0 (cap := cap) (by show z.toInt.toNat ≤ cap; omega) h8 hc hl
  obtain ⟨s₂, o, h1, h2⟩ := g h' _ rfl E' (Al.new A' hz) p e s m args below meth c T' X' hx hZ hby hml hown hrt hlk hnm e'
  exact ⟨s₂, o, stp _ h1, h2⟩
theorem iadd_eq {x y : Int32} (h1 : -2147483648 ≤ x.toInt + y.toInt) (h2 : x.toInt + y.toInt < 2147483648) : (x + y).toInt = x.toInt + y.toInt := by
  have e := c_iadd x y
  have r := rng32 (x + y)
  omega
theorem isub_eq {x y : Int32} (h1 : -2147483648 ≤ x.toInt - y.toInt) (h2 : x.toInt - y.toInt < 2147483648) : (x - y).toInt = x.toInt - y.toInt := by
  have e := c_isub x y
  have r := rng32 (x - y)
  omega
theorem ladd_eq {x y : Int64} (h1 : -9223372036854775808 ≤ x.toInt + y.toInt) (h2 : x.toInt + y.toInt < 9223372036854775808) : (x + y).toInt = x.toInt + y.toInt := by
  have e := c_ladd x y
  have r := rng64 (x + y)
  omega
theorem lsub_eq {x y : Int64} (h1 : -9223372036854775808 ≤ x.toInt - y.toInt) (h2 : x.toInt - y.toInt < 9223372036854775808) : (x - y).toInt = x.toInt - y.toInt := by
  have e := c_lsub x y
  have r := rng64 (x - y)
  omega
theorem irem_bd {x y : Int32} (h1 : 0 ≤ x.toInt) (h2 : 0 < y.toInt) : 0 ≤ (x % y).toInt ∧ (x % y).toInt < y.toInt ∧ (x % y).toInt ≤ x.toInt := by
  have q := (c_iremV x y).1 h1 h2
  exact ⟨q.1, q.2.1, q.2.2.1⟩
theorem mask31 (x : Int32) : 0 ≤ (x &&& (2147483647 : Int32)).toInt ∧ (x &&& (2147483647 : Int32)).toInt ≤ 2147483647 := by
  have q := c_and x (2147483647 : Int32) (by decide)
  have k : (2147483647 : Int32).toInt = 2147483647 := by decide
  omega
theorem nar_b8 (x : Int32) : nar .byte x.toInt8.toInt32 = x.toInt8.toInt32 := by
  show x.toInt8.toInt32.toInt8.toInt32 = x.toInt8.toInt32
  rw [Int8.toInt8_toInt32]
end Rules
end Jvm.OwnKit
namespace Jvm.Pilot.@@N@@
open Jvm Jvm.ClassFile Sem Op Lib Jvm.Free Jvm.Stand Jvm.LawKit Jvm.RoadKit Jvm.OwnKit Bundle Jvm.Pilot.@@N@@.Jvm.D
theorem w0 : (Jvm.Cond.constant "com/example/argus/argus/ChannelOptionsWithWriteWaterMarksPinLaw" (7 : Nat) (2147483647 : Int32)) ∈ tables_1 := List.mem_of_getElem? (i := 0) rfl
theorem w1 : (Jvm.Cond.methodLink "com/example/argus/argus/ChannelOptionsWithWriteWaterMarksPinLaw" (8 : Nat) ({ cls := "java/lang/Math", name := "min", desc := "(II)I" } : Jvm.MethodName)) ∈ tables_1 := List.mem_of_getElem? (i := 1) rfl
theorem w2 : (Jvm.Cond.static ({ cls := "java/lang/Math", name := "min", desc := "(II)I" } : Jvm.MethodName)) ∈ tables_1 := List.mem_of_getElem? (i := 2) rfl
theorem w3 : (Jvm.Cond.initialized "java/lang/Math") ∈ tables_1 := List.mem_of_getElem? (i := 3) rfl
theorem w4 : (Jvm.Cond.code ({ cls := "java/lang/Math", name := "min", desc := "(II)I" } : Jvm.MethodName) jdk_29_method_69_code (2 : Nat) (Option.some Jvm.ClassFile.FieldType.int)) ∈ tables_1 := List.mem_of_getElem? (i := 4) rfl
theorem w5 : (Jvm.Cond.methodLink "com/example/argus/argus/ChannelOptionsWithWriteWaterMarksPinLaw" (14 : Nat) ({ cls := "java/lang/Math", name := "max", desc := "(II)I" } : Jvm.MethodName)) ∈ tables_1 := List.mem_of_getElem? (i := 5) rfl
theorem w6 : (Jvm.Cond.static ({ cls := "java/lang/Math", name := "max", desc := "(II)I" } : Jvm.MethodName)) ∈ tables_1 := List.mem_of_getElem? (i := 6) rfl
theorem w7 : (Jvm.Cond.code ({ cls := "java/lang/Math", name := "max", desc := "(II)I" } : Jvm.MethodName) jdk_29_method_65_code (2 : Nat) (Option.some Jvm.ClassFile.FieldType.int)) ∈ tables_1 := List.mem_of_getElem? (i := 7) rfl
theorem w8 : (Jvm.Cond.classLink "com/example/argus/argus/ChannelOptionsWithWriteWaterMarksPinLaw" (17 : Nat) "com/example/argus/argus/ChannelOptions") ∈ tables_1 := List.mem_of_getElem? (i := 8) rfl
theorem w9 : (Jvm.Cond.instantiable "com/example/argus/argus/ChannelOptions" (5 : Nat)) ∈ tables_1 := List.mem_of_getElem? (i := 9) rfl
theorem w10 : (Jvm.Cond.initialized "com/example/argus/argus/ChannelOptions") ∈ tables_1 := List.mem_of_getElem? (i := 10) rfl
theorem w11 : (Jvm.Cond.methodLink "com/example/argus/argus/ChannelOptionsWithWriteWaterMarksPinLaw" (19 : Nat) ({ cls := "com/example/argus/argus/ChannelOptions", name := "<init>", desc := "()V" } : Jvm.MethodName)) ∈ tables_1 := List.mem_of_getElem? (i := 11) rfl
theorem w12 : (Jvm.Cond.instanceMethod ({ cls := "com/example/argus/argus/ChannelOptions", name := "<init>", desc := "()V" } : Jvm.MethodName)) ∈ tables_1 := List.mem_of_getElem? (i := 12) rfl
theorem w13 : (Jvm.Cond.code ({ cls := "com/example/argus/argus/ChannelOptions", name := "<init>", desc := "()V" } : Jvm.MethodName) prog_5_method_1_code (1 : Nat) (Option.none : Option Jvm.ClassFile.FieldType)) ∈ tables_1 := List.mem_of_getElem? (i := 13) rfl
theorem w14 : (Jvm.Cond.constant "com/example/argus/argus/ChannelOptions" (3 : Nat) (32768 : Int32)) ∈ tables_1 := List.mem_of_getElem? (i := 14) rfl
theorem w15 : (Jvm.Cond.constant "com/example/argus/argus/ChannelOptions" (4 : Nat) (65536 : Int32)) ∈ tables_1 := List.mem_of_getElem? (i := 15) rfl
theorem w16 : (Jvm.Cond.methodLink "com/example/argus/argus/ChannelOptions" (7 : Nat) ({ cls := "com/example/argus/argus/ChannelOptions", name := "<init>", desc := "(IIIII)V" } : Jvm.MethodName)) ∈ tables_1 := List.mem_of_getElem? (i := 16) rfl
theorem w17 : (Jvm.Cond.instanceMethod ({ cls := "com/example/argus/argus/ChannelOptions", name := "<init>", desc := "(IIIII)V" } : Jvm.MethodName)) ∈ tables_1 := List.mem_of_getElem? (i := 17) rfl
theorem w18 : (Jvm.Cond.code ({ cls := "com/example/argus/argus/ChannelOptions", name := "<init>", desc := "(IIIII)V" } : Jvm.MethodName) prog_5_method_2_code (6 : Nat) (Option.none : Option Jvm.ClassFile.FieldType)) ∈ tables_1 := List.mem_of_getElem? (i := 18) rfl
theorem w19 : (Jvm.Cond.methodLink "com/example/argus/argus/ChannelOptions" (11 : Nat) ({ cls := "java/lang/Object", name := "<init>", desc := "()V" } : Jvm.MethodName)) ∈ tables_1 := List.mem_of_getElem? (i := 19) rfl
theorem w20 : (Jvm.Cond.instanceMethod ({ cls := "java/lang/Object", name := "<init>", desc := "()V" } : Jvm.MethodName)) ∈ tables_1 := List.mem_of_getElem? (i := 20) rfl
theorem w21 : (Jvm.Cond.code ({ cls := "java/lang/Object", name := "<init>", desc := "()V" } : Jvm.MethodName) object_method_1_code (1 : Nat) (Option.none : Option Jvm.ClassFile.FieldType)) ∈ tables_1 := List.mem_of_getElem? (i := 21) rfl
theorem w22 : (Jvm.Cond.fieldLink "com/example/argus/argus/ChannelOptions" (16 : Nat) "com/example/argus/argus/ChannelOptions" "writeLowWaterMark" "I") ∈ tables_1 := List.mem_of_getElem? (i := 22) rfl
theorem w23 : (Jvm.Cond.laysFinal "com/example/argus/argus/ChannelOptions" "com/example/argus/argus/ChannelOptions" "writeLowWaterMark" "I") ∈ tables_1 := List.mem_of_getElem? (i := 23) rfl
theorem w24 : (Jvm.Cond.fieldLink "com/example/argus/argus/ChannelOptions" (20 : Nat) "com/example/argus/argus/ChannelOptions" "writeHighWaterMark" "I") ∈ tables_1 := List.mem_of_getElem? (i := 24) rfl
theorem w25 : (Jvm.Cond.laysFinal "com/example/argus/argus/ChannelOptions" "com/example/argus/argus/ChannelOptions" "writeHighWaterMark" "I") ∈ tables_1 := List.mem_of_getElem? (i := 25) rfl
theorem w26 : (Jvm.Cond.fieldLink "com/example/argus/argus/ChannelOptions" (23 : Nat) "com/example/argus/argus/ChannelOptions" "minimumReadSize" "I") ∈ tables_1 := List.mem_of_getElem? (i := 26) rfl
theorem w27 : (Jvm.Cond.laysFinal "com/example/argus/argus/ChannelOptions" "com/example/argus/argus/ChannelOptions" "minimumReadSize" "I") ∈ tables_1 := List.mem_of_getElem? (i := 27) rfl
theorem w28 : (Jvm.Cond.fieldLink "com/example/argus/argus/ChannelOptions" (26 : Nat) "com/example/argus/argus/ChannelOptions" "initialReadSize" "I") ∈ tables_1 := List.mem_of_getElem? (i := 28) rfl
theorem w29 : (Jvm.Cond.laysFinal "com/example/argus/argus/ChannelOptions" "com/example/argus/argus/ChannelOptions" "initialReadSize" "I") ∈ tables_1 := List.mem_of_getElem? (i := 29) rfl
theorem w30 : (Jvm.Cond.fieldLink "com/example/argus/argus/ChannelOptions" (29 : Nat) "com/example/argus/argus/ChannelOptions" "maximumReadSize" "I") ∈ tables_1 := List.mem_of_getElem? (i := 30) rfl
theorem w31 : (Jvm.Cond.laysFinal "com/example/argus/argus/ChannelOptions" "com/example/argus/argus/ChannelOptions" "maximumReadSize" "I") ∈ tables_1 := List.mem_of_getElem? (i := 31) rfl
theorem w32 : (Jvm.Cond.constant "com/example/argus/argus/ChannelOptionsWithWriteWaterMarksPinLaw" (20 : Nat) (65536 : Int32)) ∈ tables_1 := List.mem_of_getElem? (i := 32) rfl
theorem w33 : (Jvm.Cond.methodLink "com/example/argus/argus/ChannelOptionsWithWriteWaterMarksPinLaw" (25 : Nat) ({ cls := "com/example/argus/argus/ChannelOptions", name := "withWriteWaterMarks", desc := "(II)Lcom/example/argus/argus/ChannelOptions;" } : Jvm.MethodName)) ∈ tables_1 := List.mem_of_getElem? (i := 33) rfl
theorem w34 : (Jvm.Cond.declares ({ cls := "com/example/argus/argus/ChannelOptions", name := "withWriteWaterMarks", desc := "(II)Lcom/example/argus/argus/ChannelOptions;" } : Jvm.MethodName)) ∈ tables_1 := List.mem_of_getElem? (i := 34) rfl
theorem w35 : (Jvm.Cond.instanceMethod ({ cls := "com/example/argus/argus/ChannelOptions", name := "withWriteWaterMarks", desc := "(II)Lcom/example/argus/argus/ChannelOptions;" } : Jvm.MethodName)) ∈ tables_1 := List.mem_of_getElem? (i := 35) rfl
theorem w36 : (Jvm.Cond.selects "com/example/argus/argus/ChannelOptions" ({ cls := "com/example/argus/argus/ChannelOptions", name := "withWriteWaterMarks", desc := "(II)Lcom/example/argus/argus/ChannelOptions;" } : Jvm.MethodName) ({ cls := "com/example/argus/argus/ChannelOptions", name := "withWriteWaterMarks", desc := "(II)Lcom/example/argus/argus/ChannelOptions;" } : Jvm.MethodName)) ∈ tables_1 := List.mem_of_getElem? (i := 36) rfl
theorem w37 : (Jvm.Cond.code ({ cls := "com/example/argus/argus/ChannelOptions", name := "withWriteWaterMarks", desc := "(II)Lcom/example/argus/argus/ChannelOptions;" } : Jvm.MethodName) prog_5_method_3_code (3 : Nat) (Option.some (Jvm.ClassFile.FieldType.object "com/example/argus/argus/ChannelOptions"))) ∈ tables_1 := List.mem_of_getElem? (i := 37) rfl
theorem w38 : (Jvm.Cond.methodLink "com/example/argus/argus/ChannelOptions" (32 : Nat) ({ cls := "com/example/argus/argus/QueuedBytes", name := "checkMarks", desc := "(II)V" } : Jvm.MethodName)) ∈ tables_1 := List.mem_of_getElem? (i := 38) rfl
theorem w39 : (Jvm.Cond.static ({ cls := "com/example/argus/argus/QueuedBytes", name := "checkMarks", desc := "(II)V" } : Jvm.MethodName)) ∈ tables_1 := List.mem_of_getElem? (i := 39) rfl
theorem w40 : (Jvm.Cond.initialized "com/example/argus/argus/QueuedBytes") ∈ tables_1 := List.mem_of_getElem? (i := 40) rfl
theorem w41 : (Jvm.Cond.code ({ cls := "com/example/argus/argus/QueuedBytes", name := "checkMarks", desc := "(II)V" } : Jvm.MethodName) prog_14_method_2_code (2 : Nat) (Option.none : Option Jvm.ClassFile.FieldType)) ∈ tables_1 := List.mem_of_getElem? (i := 41) rfl
theorem w42 : (Jvm.Cond.classLink "com/example/argus/argus/ChannelOptions" (1 : Nat) "com/example/argus/argus/ChannelOptions") ∈ tables_1 := List.mem_of_getElem? (i := 42) rfl
theorem w43 : (Jvm.Cond.methodLink "com/example/argus/argus/ChannelOptionsWithWriteWaterMarksPinLaw" (29 : Nat) ({ cls := "com/example/argus/argus/ChannelOptions", name := "writeLowWaterMark", desc := "()I" } : Jvm.MethodName)) ∈ tables_1 := List.mem_of_getElem? (i := 43) rfl
theorem w44 : (Jvm.Cond.declares ({ cls := "com/example/argus/argus/ChannelOptions", name := "writeLowWaterMark", desc := "()I" } : Jvm.MethodName)) ∈ tables_1 := List.mem_of_getElem? (i := 44) rfl
theorem w45 : (Jvm.Cond.instanceMethod ({ cls := "com/example/argus/argus/ChannelOptions", name := "writeLowWaterMark", desc := "()I" } : Jvm.MethodName)) ∈ tables_1 := List.mem_of_getElem? (i := 45) rfl
theorem w46 : (Jvm.Cond.selects "com/example/argus/argus/ChannelOptions" ({ cls := "com/example/argus/argus/ChannelOptions", name := "writeLowWaterMark", desc := "()I" } : Jvm.MethodName) ({ cls := "com/example/argus/argus/ChannelOptions", name := "writeLowWaterMark", desc := "()I" } : Jvm.MethodName)) ∈ tables_1 := List.mem_of_getElem? (i := 46) rfl
theorem w47 : (Jvm.Cond.code ({ cls := "com/example/argus/argus/ChannelOptions", name := "writeLowWaterMark", desc := "()I" } : Jvm.MethodName) prog_5_method_6_code (1 : Nat) (Option.some Jvm.ClassFile.FieldType.int)) ∈ tables_1 := List.mem_of_getElem? (i := 47) rfl
theorem w48 : (Jvm.Cond.methodLink "com/example/argus/argus/ChannelOptionsWithWriteWaterMarksPinLaw" (33 : Nat) ({ cls := "com/example/argus/argus/ChannelOptions", name := "writeHighWaterMark", desc := "()I" } : Jvm.MethodName)) ∈ tables_1 := List.mem_of_getElem? (i := 48) rfl
theorem w49 : (Jvm.Cond.declares ({ cls := "com/example/argus/argus/ChannelOptions", name := "writeHighWaterMark", desc := "()I" } : Jvm.MethodName)) ∈ tables_1 := List.mem_of_getElem? (i := 49) rfl
theorem w50 : (Jvm.Cond.instanceMethod ({ cls := "com/example/argus/argus/ChannelOptions", name := "writeHighWaterMark", desc := "()I" } : Jvm.MethodName)) ∈ tables_1 := List.mem_of_getElem? (i := 50) rfl
theorem w51 : (Jvm.Cond.selects "com/example/argus/argus/ChannelOptions" ({ cls := "com/example/argus/argus/ChannelOptions", name := "writeHighWaterMark", desc := "()I" } : Jvm.MethodName) ({ cls := "com/example/argus/argus/ChannelOptions", name := "writeHighWaterMark", desc := "()I" } : Jvm.MethodName)) ∈ tables_1 := List.mem_of_getElem? (i := 51) rfl
theorem w52 : (Jvm.Cond.code ({ cls := "com/example/argus/argus/ChannelOptions", name := "writeHighWaterMark", desc := "()I" } : Jvm.MethodName) prog_5_method_7_code (1 : Nat) (Option.some Jvm.ClassFile.FieldType.int)) ∈ tables_1 := List.mem_of_getElem? (i := 52) rfl
theorem w53 : (Jvm.Cond.methodLink "com/example/argus/argus/ChannelOptionsWithWriteWaterMarksPinLaw" (36 : Nat) ({ cls := "com/example/argus/argus/ChannelOptions", name := "minimumReadSize", desc := "()I" } : Jvm.MethodName)) ∈ tables_1 := List.mem_of_getElem? (i := 53) rfl
theorem w54 : (Jvm.Cond.declares ({ cls := "com/example/argus/argus/ChannelOptions", name := "minimumReadSize", desc := "()I" } : Jvm.MethodName)) ∈ tables_1 := List.mem_of_getElem? (i := 54) rfl
theorem w55 : (Jvm.Cond.instanceMethod ({ cls := "com/example/argus/argus/ChannelOptions", name := "minimumReadSize", desc := "()I" } : Jvm.MethodName)) ∈ tables_1 := List.mem_of_getElem? (i := 55) rfl
theorem w56 : (Jvm.Cond.selects "com/example/argus/argus/ChannelOptions" ({ cls := "com/example/argus/argus/ChannelOptions", name := "minimumReadSize", desc := "()I" } : Jvm.MethodName) ({ cls := "com/example/argus/argus/ChannelOptions", name := "minimumReadSize", desc := "()I" } : Jvm.MethodName)) ∈ tables_1 := List.mem_of_getElem? (i := 56) rfl
theorem w57 : (Jvm.Cond.code ({ cls := "com/example/argus/argus/ChannelOptions", name := "minimumReadSize", desc := "()I" } : Jvm.MethodName) prog_5_method_8_code (1 : Nat) (Option.some Jvm.ClassFile.FieldType.int)) ∈ tables_1 := List.mem_of_getElem? (i := 57) rfl
theorem w58 : (Jvm.Cond.methodLink "com/example/argus/argus/ChannelOptionsWithWriteWaterMarksPinLaw" (39 : Nat) ({ cls := "com/example/argus/argus/ChannelOptions", name := "initialReadSize", desc := "()I" } : Jvm.MethodName)) ∈ tables_1 := List.mem_of_getElem? (i := 58) rfl
theorem w59 : (Jvm.Cond.declares ({ cls := "com/example/argus/argus/ChannelOptions", name := "initialReadSize", desc := "()I" } : Jvm.MethodName)) ∈ tables_1 := List.mem_of_getElem? (i := 59) rfl
theorem w60 : (Jvm.Cond.instanceMethod ({ cls := "com/example/argus/argus/ChannelOptions", name := "initialReadSize", desc := "()I" } : Jvm.MethodName)) ∈ tables_1 := List.mem_of_getElem? (i := 60) rfl
theorem w61 : (Jvm.Cond.selects "com/example/argus/argus/ChannelOptions" ({ cls := "com/example/argus/argus/ChannelOptions", name := "initialReadSize", desc := "()I" } : Jvm.MethodName) ({ cls := "com/example/argus/argus/ChannelOptions", name := "initialReadSize", desc := "()I" } : Jvm.MethodName)) ∈ tables_1 := List.mem_of_getElem? (i := 61) rfl
theorem w62 : (Jvm.Cond.code ({ cls := "com/example/argus/argus/ChannelOptions", name := "initialReadSize", desc := "()I" } : Jvm.MethodName) prog_5_method_9_code (1 : Nat) (Option.some Jvm.ClassFile.FieldType.int)) ∈ tables_1 := List.mem_of_getElem? (i := 62) rfl
theorem w63 : (Jvm.Cond.methodLink "com/example/argus/argus/ChannelOptionsWithWriteWaterMarksPinLaw" (42 : Nat) ({ cls := "com/example/argus/argus/ChannelOptions", name := "maximumReadSize", desc := "()I" } : Jvm.MethodName)) ∈ tables_1 := List.mem_of_getElem? (i := 63) rfl
theorem w64 : (Jvm.Cond.declares ({ cls := "com/example/argus/argus/ChannelOptions", name := "maximumReadSize", desc := "()I" } : Jvm.MethodName)) ∈ tables_1 := List.mem_of_getElem? (i := 64) rfl
theorem w65 : (Jvm.Cond.instanceMethod ({ cls := "com/example/argus/argus/ChannelOptions", name := "maximumReadSize", desc := "()I" } : Jvm.MethodName)) ∈ tables_1 := List.mem_of_getElem? (i := 65) rfl
theorem w66 : (Jvm.Cond.selects "com/example/argus/argus/ChannelOptions" ({ cls := "com/example/argus/argus/ChannelOptions", name := "maximumReadSize", desc := "()I" } : Jvm.MethodName) ({ cls := "com/example/argus/argus/ChannelOptions", name := "maximumReadSize", desc := "()I" } : Jvm.MethodName)) ∈ tables_1 := List.mem_of_getElem? (i := 66) rfl
theorem w67 : (Jvm.Cond.code ({ cls := "com/example/argus/argus/ChannelOptions", name := "maximumReadSize", desc := "()I" } : Jvm.MethodName) prog_5_method_10_code (1 : Nat) (Option.some Jvm.ClassFile.FieldType.int)) ∈ tables_1 := List.mem_of_getElem? (i := 67) rfl
theorem w68 : (Jvm.Cond.constant "com/example/argus/argus/ChannelOptionsWithWriteWaterMarksPinLaw" (45 : Nat) (32768 : Int32)) ∈ tables_1 := List.mem_of_getElem? (i := 68) rfl
theorem w69 : (Jvm.Cond.methodLink "com/example/argus/argus/ChannelOptionsWithWriteWaterMarksPinLaw" (21 : Nat) ({ cls := "com/example/argus/argus/ChannelOptions", name := "withReadSizes", desc := "(III)Lcom/example/argus/argus/ChannelOptions;" } : Jvm.MethodName)) ∈ tables_1 := List.mem_of_getElem? (i := 69) rfl
theorem w70 : (Jvm.Cond.declares ({ cls := "com/example/argus/argus/ChannelOptions", name := "withReadSizes", desc := "(III)Lcom/example/argus/argus/ChannelOptions;" } : Jvm.MethodName)) ∈ tables_1 := List.mem_of_getElem? (i := 70) rfl
theorem w71 : (Jvm.Cond.instanceMethod ({ cls := "com/example/argus/argus/ChannelOptions", name := "withReadSizes", desc := "(III)Lcom/example/argus/argus/ChannelOptions;" } : Jvm.MethodName)) ∈ tables_1 := List.mem_of_getElem? (i := 71) rfl
theorem w72 : (Jvm.Cond.selects "com/example/argus/argus/ChannelOptions" ({ cls := "com/example/argus/argus/ChannelOptions", name := "withReadSizes", desc := "(III)Lcom/example/argus/argus/ChannelOptions;" } : Jvm.MethodName) ({ cls := "com/example/argus/argus/ChannelOptions", name := "withReadSizes", desc := "(III)Lcom/example/argus/argus/ChannelOptions;" } : Jvm.MethodName)) ∈ tables_1 := List.mem_of_getElem? (i := 72) rfl
theorem w73 : (Jvm.Cond.code ({ cls := "com/example/argus/argus/ChannelOptions", name := "withReadSizes", desc := "(III)Lcom/example/argus/argus/ChannelOptions;" } : Jvm.MethodName) prog_5_method_4_code (4 : Nat) (Option.some (Jvm.ClassFile.FieldType.object "com/example/argus/argus/ChannelOptions"))) ∈ tables_1 := List.mem_of_getElem? (i := 73) rfl
theorem w74 : (Jvm.Cond.methodLink "com/example/argus/argus/ChannelOptions" (38 : Nat) ({ cls := "com/example/argus/argus/AdaptiveReadSizer", name := "checkSizes", desc := "(III)V" } : Jvm.MethodName)) ∈ tables_1 := List.mem_of_getElem? (i := 74) rfl
theorem w75 : (Jvm.Cond.static ({ cls := "com/example/argus/argus/AdaptiveReadSizer", name := "checkSizes", desc := "(III)V" } : Jvm.MethodName)) ∈ tables_1 := List.mem_of_getElem? (i := 75) rfl
theorem w76 : (Jvm.Cond.initialized "com/example/argus/argus/AdaptiveReadSizer") ∈ tables_1 := List.mem_of_getElem? (i := 76) rfl
theorem w77 : (Jvm.Cond.code ({ cls := "com/example/argus/argus/AdaptiveReadSizer", name := "checkSizes", desc := "(III)V" } : Jvm.MethodName) prog_1_method_3_code (3 : Nat) (Option.none : Option Jvm.ClassFile.FieldType)) ∈ tables_1 := List.mem_of_getElem? (i := 77) rfl
theorem d1_0 : decode jdk_29_method_69_code 0 = .ok (.iload_n 0, 1) := by decide +kernel
theorem d1_1 : decode jdk_29_method_69_code 1 = .ok (.iload_n 1, 1) := by decide +kernel
theorem d1_2 : decode jdk_29_method_69_code 2 = .ok (.if_icmp .gt 7, 3) := by decide +kernel
theorem d1_5 : decode jdk_29_method_69_code 5 = .ok (.iload_n 0, 1) := by decide +kernel
theorem d1_6 : decode jdk_29_method_69_code 6 = .ok (.goto 4, 3) := by decide +kernel
theorem d1_9 : decode jdk_29_method_69_code 9 = .ok (.iload_n 1, 1) := by decide +kernel
theorem d1_10 : decode jdk_29_method_69_code 10 = .ok (.ireturn, 1) := by decide +kernel
theorem d2_0 : decode jdk_29_method_65_code 0 = .ok (.iload_n 0, 1) := by decide +kernel
theorem d2_1 : decode jdk_29_method_65_code 1 = .ok (.iload_n 1, 1) := by decide +kernel
theorem d2_2 : decode jdk_29_method_65_code 2 = .ok (.if_icmp .lt 7, 3) := by decide +kernel
theorem d2_5 : decode jdk_29_method_65_code 5 = .ok (.iload_n 0, 1) := by decide +kernel
theorem d2_6 : decode jdk_29_method_65_code 6 = .ok (.goto 4, 3) := by decide +kernel
theorem d2_9 : decode jdk_29_method_65_code 9 = .ok (.iload_n 1, 1) := by decide +kernel
theorem d2_10 : decode jdk_29_method_65_code 10 = .ok (.ireturn, 1) := by decide +kernel
theorem d3_0 : decode prog_5_method_1_code 0 = .ok (.aload_n 0, 1) := by decide +kernel
theorem d3_1 : decode prog_5_method_1_code 1 = .ok (.ldc 3, 2) := by decide +kernel
theorem d3_3 : decode prog_5_method_1_code 3 = .ok (.ldc 4, 2) := by decide +kernel
theorem d3_5 : decode prog_5_method_1_code 5 = .ok (.bipush 64, 2) := by decide +kernel
theorem d3_7 : decode prog_5_method_1_code 7 = .ok (.sipush 1024, 3) := by decide +kernel
theorem d3_10 : decode prog_5_method_1_code 10 = .ok (.ldc 4, 2) := by decide +kernel
theorem d3_12 : decode prog_5_method_1_code 12 = .ok (.invokespecial 7, 3) := by decide +kernel
theorem d3_15 : decode prog_5_method_1_code 15 = .ok (.return_, 1) := by decide +kernel
theorem d4_0 : decode prog_5_method_2_code 0 = .ok (.aload_n 0, 1) := by decide +kernel
theorem d4_1 : decode prog_5_method_2_code 1 = .ok (.invokespecial 11, 3) := by decide +kernel
theorem d4_4 : decode prog_5_method_2_code 4 = .ok (.aload_n 0, 1) := by decide +kernel
theorem d4_5 : decode prog_5_method_2_code 5 = .ok (.iload_n 1, 1) := by decide +kernel
theorem d4_6 : decode prog_5_method_2_code 6 = .ok (.putfield 16, 3) := by decide +kernel
theorem d4_9 : decode prog_5_method_2_code 9 = .ok (.aload_n 0, 1) := by decide +kernel
theorem d4_10 : decode prog_5_method_2_code 10 = .ok (.iload_n 2, 1) := by decide +kernel
theorem d4_11 : decode prog_5_method_2_code 11 = .ok (.putfield 20, 3) := by decide +kernel
theorem d4_14 : decode prog_5_method_2_code 14 = .ok (.aload_n 0, 1) := by decide +kernel
theorem d4_15 : decode prog_5_method_2_code 15 = .ok (.iload_n 3, 1) := by decide +kernel
theorem d4_16 : decode prog_5_method_2_code 16 = .ok (.putfield 23, 3) := by decide +kernel
theorem d4_19 : decode prog_5_method_2_code 19 = .ok (.aload_n 0, 1) := by decide +kernel
theorem d4_20 : decode prog_5_method_2_code 20 = .ok (.iload 4, 2) := by decide +kernel
theorem d4_22 : decode prog_5_method_2_code 22 = .ok (.putfield 26, 3) := by decide +kernel
theorem d4_25 : decode prog_5_method_2_code 25 = .ok (.aload_n 0, 1) := by decide +kernel
theorem d4_26 : decode prog_5_method_2_code 26 = .ok (.iload 5, 2) := by decide +kernel
theorem d4_28 : decode prog_5_method_2_code 28 = .ok (.putfield 29, 3) := by decide +kernel
theorem d4_31 : decode prog_5_method_2_code 31 = .ok (.return_, 1) := by decide +kernel
theorem d6_0 : decode prog_5_method_3_code 0 = .ok (.iload_n 1, 1) := by decide +kernel
theorem d6_1 : decode prog_5_method_3_code 1 = .ok (.iload_n 2, 1) := by decide +kernel
theorem d6_2 : decode prog_5_method_3_code 2 = .ok (.invokestatic 32, 3) := by decide +kernel
theorem d6_5 : decode prog_5_method_3_code 5 = .ok (.new 1, 3) := by decide +kernel
theorem d6_8 : decode prog_5_method_3_code 8 = .ok (.dup, 1) := by decide +kernel
theorem d6_9 : decode prog_5_method_3_code 9 = .ok (.iload_n 1, 1) := by decide +kernel
theorem d6_10 : decode prog_5_method_3_code 10 = .ok (.iload_n 2, 1) := by decide +kernel
theorem d6_11 : decode prog_5_method_3_code 11 = .ok (.aload_n 0, 1) := by decide +kernel
theorem d6_12 : decode prog_5_method_3_code 12 = .ok (.getfield 23, 3) := by decide +kernel
theorem d6_15 : decode prog_5_method_3_code 15 = .ok (.aload_n 0, 1) := by decide +kernel
theorem d6_16 : decode prog_5_method_3_code 16 = .ok (.getfield 26, 3) := by decide +kernel
theorem d6_19 : decode prog_5_method_3_code 19 = .ok (.aload_n 0, 1) := by decide +kernel
theorem d6_20 : decode prog_5_method_3_code 20 = .ok (.getfield 29, 3) := by decide +kernel
theorem d6_23 : decode prog_5_method_3_code 23 = .ok (.invokespecial 7, 3) := by decide +kernel
theorem d6_26 : decode prog_5_method_3_code 26 = .ok (.areturn, 1) := by decide +kernel
theorem d7_0 : decode prog_14_method_2_code 0 = .ok (.iload_n 0, 1) := by decide +kernel
theorem d7_1 : decode prog_14_method_2_code 1 = .ok (.iconst 1, 1) := by decide +kernel
theorem d7_2 : decode prog_14_method_2_code 2 = .ok (.if_icmp .lt 8, 3) := by decide +kernel
theorem d7_5 : decode prog_14_method_2_code 5 = .ok (.iload_n 0, 1) := by decide +kernel
theorem d7_6 : decode prog_14_method_2_code 6 = .ok (.iload_n 1, 1) := by decide +kernel
theorem d7_7 : decode prog_14_method_2_code 7 = .ok (.if_icmp .le 18, 3) := by decide +kernel
theorem d7_25 : decode prog_14_method_2_code 25 = .ok (.return_, 1) := by decide +kernel
theorem d8_0 : decode prog_5_method_6_code 0 = .ok (.aload_n 0, 1) := by decide +kernel
theorem d8_1 : decode prog_5_method_6_code 1 = .ok (.getfield 16, 3) := by decide +kernel
theorem d8_4 : decode prog_5_method_6_code 4 = .ok (.ireturn, 1) := by decide +kernel
theorem d9_0 : decode prog_5_method_7_code 0 = .ok (.aload_n 0, 1) := by decide +kernel
theorem d9_1 : decode prog_5_method_7_code 1 = .ok (.getfield 20, 3) := by decide +kernel
theorem d9_4 : decode prog_5_method_7_code 4 = .ok (.ireturn, 1) := by decide +kernel
theorem d10_0 : decode prog_5_method_8_code 0 = .ok (.aload_n 0, 1) := by decide +kernel
theorem d10_1 : decode prog_5_method_8_code 1 = .ok (.getfield 23, 3) := by decide +kernel
theorem d10_4 : decode prog_5_method_8_code 4 = .ok (.ireturn, 1) := by decide +kernel
theorem d11_0 : decode prog_5_method_9_code 0 = .ok (.aload_n 0, 1) := by decide +kernel
theorem d11_1 : decode prog_5_method_9_code 1 = .ok (.getfield 26, 3) := by decide +kernel
theorem d11_4 : decode prog_5_method_9_code 4 = .ok (.ireturn, 1) := by decide +kernel
theorem d12_0 : decode prog_5_method_10_code 0 = .ok (.aload_n 0, 1) := by decide +kernel
theorem d12_1 : decode prog_5_method_10_code 1 = .ok (.getfield 29, 3) := by decide +kernel
theorem d12_4 : decode prog_5_method_10_code 4 = .ok (.ireturn, 1) := by decide +kernel
theorem d13_0 : decode prog_5_method_4_code 0 = .ok (.iload_n 1, 1) := by decide +kernel
theorem d13_1 : decode prog_5_method_4_code 1 = .ok (.iload_n 2, 1) := by decide +kernel
theorem d13_2 : decode prog_5_method_4_code 2 = .ok (.iload_n 3, 1) := by decide +kernel
theorem d13_3 : decode prog_5_method_4_code 3 = .ok (.invokestatic 38, 3) := by decide +kernel
theorem d13_6 : decode prog_5_method_4_code 6 = .ok (.new 1, 3) := by decide +kernel
theorem d13_9 : decode prog_5_method_4_code 9 = .ok (.dup, 1) := by decide +kernel
theorem d13_10 : decode prog_5_method_4_code 10 = .ok (.aload_n 0, 1) := by decide +kernel
theorem d13_11 : decode prog_5_method_4_code 11 = .ok (.getfield 16, 3) := by decide +kernel
theorem d13_14 : decode prog_5_method_4_code 14 = .ok (.aload_n 0, 1) := by decide +kernel
theorem d13_15 : decode prog_5_method_4_code 15 = .ok (.getfield 20, 3) := by decide +kernel
theorem d13_18 : decode prog_5_method_4_code 18 = .ok (.iload_n 1, 1) := by decide +kernel
theorem d13_19 : decode prog_5_method_4_code 19 = .ok (.iload_n 2, 1) := by decide +kernel
theorem d13_20 : decode prog_5_method_4_code 20 = .ok (.iload_n 3, 1) := by decide +kernel
theorem d13_21 : decode prog_5_method_4_code 21 = .ok (.invokespecial 7, 3) := by decide +kernel
theorem d13_24 : decode prog_5_method_4_code 24 = .ok (.areturn, 1) := by decide +kernel
theorem d14_0 : decode prog_1_method_3_code 0 = .ok (.iload_n 0, 1) := by decide +kernel
theorem d14_1 : decode prog_1_method_3_code 1 = .ok (.ifCond .le 13, 3) := by decide +kernel
theorem d14_4 : decode prog_1_method_3_code 4 = .ok (.iload_n 0, 1) := by decide +kernel
theorem d14_5 : decode prog_1_method_3_code 5 = .ok (.iload_n 1, 1) := by decide +kernel
theorem d14_6 : decode prog_1_method_3_code 6 = .ok (.if_icmp .gt 8, 3) := by decide +kernel
theorem d14_9 : decode prog_1_method_3_code 9 = .ok (.iload_n 1, 1) := by decide +kernel
theorem d14_10 : decode prog_1_method_3_code 10 = .ok (.iload_n 2, 1) := by decide +kernel
theorem d14_11 : decode prog_1_method_3_code 11 = .ok (.if_icmp .le 19, 3) := by decide +kernel
theorem d14_30 : decode prog_1_method_3_code 30 = .ok (.return_, 1) := by decide +kernel
theorem pd__28_29I : parseMethodDescriptor "()I" = some ⟨[], some .int⟩ := by decide +kernel
theorem pd__28_29V : parseMethodDescriptor "()V" = some ⟨[], none⟩ := by decide +kernel
theorem pd__28II_29I : parseMethodDescriptor "(II)I" = some ⟨[.int, .int], some .int⟩ := by decide +kernel
theorem pd__28II_29Lcom_2fexample_2fargus_2fargus_2fChannelOptions_3b : parseMethodDescriptor "(II)Lcom/example/argus/argus/ChannelOptions;" = some ⟨[.int, .int], some (.object "com/example/argus/argus/ChannelOptions")⟩ := by decide +kernel
theorem pd__28II_29V : parseMethodDescriptor "(II)V" = some ⟨[.int, .int], none⟩ := by decide +kernel
theorem pd__28III_29Lcom_2fexample_2fargus_2fargus_2fChannelOptions_3b : parseMethodDescriptor "(III)Lcom/example/argus/argus/ChannelOptions;" = some ⟨[.int, .int, .int], some (.object "com/example/argus/argus/ChannelOptions")⟩ := by decide +kernel
theorem pd__28III_29V : parseMethodDescriptor "(III)V" = some ⟨[.int, .int, .int], none⟩ := by decide +kernel
theorem pd__28IIIII_29V : parseMethodDescriptor "(IIIII)V" = some ⟨[.int, .int, .int, .int, .int], none⟩ := by decide +kernel
def f_c_min (a : Int32) (b : Int32) : Int32 := (if b.toInt < a.toInt then b else a)
set_option maxRecDepth 65536 in
set_option maxHeartbeats 40000000 in
theorem c_min {l : Launch} {Z : State} {a0 : Array Value} (hw : ∀ d ∈ tables_1, d.before a0 Z = true) {h0 : Heap} (a : Int32) (b : Int32) {r : Int32} (hr : f_c_min a b = r) : Con l Z (⟨"java/lang/Math", "min", "(II)I"⟩ : MethodName) jdk_29_method_69_code 2 (some .int) ({ frames := 0, cells := 0, slots := 0, locals := 0 } : Room) [] #[(.int a), (.int b)] h0 (PQ h0 (some (.int r))) := by
  refine con_of (Ls := #[.val (.int a), .val (.int b)]) (by decide +kernel) (fun m => by first | (simp [entryFrame, mkF, argsToLocals, Value.category]; done) | rfl) ?_
  refine Go.iloadN (pc' := 1) d1_0 rfl rfl ?_
  refine Go.iloadN (pc' := 2) d1_1 rfl rfl ?_
  by_cases hc1 : b.toInt < a.toInt
  · refine Go.icmpT (pc' := 9) (X := a.toInt) (Y := b.toInt) d1_2 (by decide) rfl rfl (hc1 : b.toInt < a.toInt) ?_
    refine Go.iloadN (pc' := 10) d1_9 rfl rfl ?_
    refine Go.retI d1_10 rfl (by decide) (by decide) ?_
    refine ⟨congrArg (fun q => some (Value.int q)) ?_, rfl, rfl⟩
    rw [← hr]
    show _ = f_c_min a b
    unfold f_c_min
    rw [if_pos hc1]
  · refine Go.icmpF (pc' := 5) (X := a.toInt) (Y := b.toInt) d1_2 rfl rfl rfl (hc1 : ¬ b.toInt < a.toInt) ?_
    refine Go.iloadN (pc' := 6) d1_5 rfl rfl ?_
    refine Go.goto (pc' := 10) d1_6 (by decide) ?_
    refine Go.retI d1_10 rfl (by decide) (by decide) ?_
    refine ⟨congrArg (fun q => some (Value.int q)) ?_, rfl, rfl⟩
    rw [← hr]
    show _ = f_c_min a b
    unfold f_c_min
    rw [if_neg hc1]
def f_c_max (a : Int32) (b : Int32) : Int32 := (if a.toInt < b.toInt then b else a)
set_option maxRecDepth 65536 in
set_option maxHeartbeats 40000000 in
theorem c_max {l : Launch} {Z : State} {a0 : Array Value} (hw : ∀ d ∈ tables_1, d.before a0 Z = true) {h0 : Heap} (a : Int32) (b : Int32) {r : Int32} (hr : f_c_max a b = r) : Con l Z (⟨"java/lang/Math", "max", "(II)I"⟩ : MethodName) jdk_29_method_65_code 2 (some .int) ({ frames := 0, cells := 0, slots := 0, locals := 0 } : Room) [] #[(.int a), (.int b)] h0 (PQ h0 (some (.int r))) := by
  refine con_of (Ls := #[.val (.int a), .val (.int b)]) (by decide +kernel) (fun m => by first | (simp [entryFrame, mkF, argsToLocals, Value.category]; done) | rfl) ?_
  refine Go.iloadN (pc' := 1) d2_0 rfl rfl ?_
  refine Go.iloadN (pc' := 2) d2_1 rfl rfl ?_
  by_cases hc1 : a.toInt < b.toInt
  · refine Go.icmpT (pc' := 9) (X := a.toInt) (Y := b.toInt) d2_2 (by decide) rfl rfl (hc1 : a.toInt < b.toInt) ?_
    refine Go.iloadN (pc' := 10) d2_9 rfl rfl ?_
    refine Go.retI d2_10 rfl (by decide) (by decide) ?_
    refine ⟨congrArg (fun q => some (Value.int q)) ?_, rfl, rfl⟩
    rw [← hr]
    show _ = f_c_max a b
    unfold f_c_max
    rw [if_pos hc1]
  · refine Go.icmpF (pc' := 5) (X := a.toInt) (Y := b.toInt) d2_2 rfl rfl rfl (hc1 : ¬ a.toInt < b.toInt) ?_
    refine Go.iloadN (pc' := 6) d2_5 rfl rfl ?_
    refine Go.goto (pc' := 10) d2_6 (by decide) ?_
    refine Go.retI d2_10 rfl (by decide) (by decide) ?_
    refine ⟨congrArg (fun q => some (Value.int q)) ?_, rfl, rfl⟩
    rw [← hr]
    show _ = f_c_max a b
    unfold f_c_max
    rw [if_neg hc1]
theorem own_max (a b : Int32) : a.toInt ≤ (f_c_max a b).toInt := by
  unfold f_c_max
  split <;> omega
set_option maxRecDepth 65536 in
set_option maxHeartbeats 40000000 in
theorem c_init5 {l : Launch} {Z : State} {a0 : Array Value} (hw : ∀ d ∈ tables_1, d.before a0 Z = true) {h0 : Heap} {n0 : Nat} (sz0 : n0 ≤ h0.size) (o : Addr) (p1 p2 p3 p4 p5 : Int32) (gn_o : n0 ≤ o) (E_o : Exa Z h0 o "com/example/argus/argus/ChannelOptions") (F_o_writeLowWaterMark : Fld Z h0 o "com/example/argus/argus/ChannelOptions" "writeLowWaterMark" "I" (.int (0 : Int32))) (F_o_writeHighWaterMark : Fld Z h0 o "com/example/argus/argus/ChannelOptions" "writeHighWaterMark" "I" (.int (0 : Int32))) (F_o_minimumReadSize : Fld Z h0 o "com/example/argus/argus/ChannelOptions" "minimumReadSize" "I" (.int (0 : Int32))) (F_o_initialReadSize : Fld Z h0 o "com/example/argus/argus/ChannelOptions" "initialReadSize" "I" (.int (0 : Int32))) (F_o_maximumReadSize : Fld Z h0 o "com/example/argus/argus/ChannelOptions" "maximumReadSize" "I" (.int (0 : Int32))) : Con l Z (⟨"com/example/argus/argus/ChannelOptions", "<init>", "(IIIII)V"⟩ : MethodName) prog_5_method_2_code 6 none ({ frames := 1, cells := 0, slots := 0, locals := 12 } : Room) [] #[(.ref o), (.int p1), (.int p2), (.int p3), (.int p4), (.int p5)] h0 (fun v h L => v = none ∧ Fr n0 L ∧ Keep h0 h [o] ∧ Exa Z h o "com/example/argus/argus/ChannelOptions" ∧ Fld Z h o "com/example/argus/argus/ChannelOptions" "writeLowWaterMark" "I" (.int p1) ∧ Fld Z h o "com/example/argus/argus/ChannelOptions" "writeHighWaterMark" "I" (.int p2) ∧ Fld Z h o "com/example/argus/argus/ChannelOptions" "minimumReadSize" "I" (.int p3) ∧ Fld Z h o "com/example/argus/argus/ChannelOptions" "initialReadSize" "I" (.int p4) ∧ Fld Z h o "com/example/argus/argus/ChannelOptions" "maximumReadSize" "I" (.int p5)) := by
  refine con_of (Ls := #[.val (.ref o), .val (.int p1), .val (.int p2), .val (.int p3), .val (.int p4), .val (.int p5)]) (plainFor_of_name (by first | (simp [plainName, overriddenIn]; done) | decide +kernel)) (fun m => by first | (simp [entryFrame, mkF, argsToLocals, Value.category]; done) | rfl) ?_
  have N0 : Fr n0 [] := Fr.nil _
  have K0 : Keep h0 h0 [o] := Keep.refl _ _
  refine Go.aloadN (pc' := 1) d4_0 rfl rfl rfl ?_
  refine Go.initO (pc' := 4) (W := 0) d4_1 rfl (hw _ w19) (hw _ w20) (hw _ w21) (by decide) (by decide) rfl (Nat.le_of_eq rfl) ?_
  refine Go.aloadN (pc' := 5) d4_4 rfl rfl rfl ?_
  refine Go.iloadN (pc' := 6) d4_5 rfl rfl ?_
  refine Go.putF (pc' := 9) d4_6 rfl (hw _ w22) Via.refl F_o_writeLowWaterMark E_o (Or.inr ⟨(hw _ w23), rfl, rfl⟩) (hw _ w9) (ty := .int) (by decide) rfl rfl ?_
  intro h1 L1 NL1 W1
  replace F_o_writeLowWaterMark := F_o_writeLowWaterMark.same W1
  replace N0 := NL1 _ N0 gn_o
  replace sz0 : n0 ≤ h1.size := by rw [W1.size]; exact sz0
  replace E_o := E_o.wr W1
  replace F_o_writeHighWaterMark := F_o_writeHighWaterMark.other W1 (Or.inr (slot_ne (Or.inr (hw _ w25)) (Or.inr (hw _ w23)) (by decide) (t := .int) (t' := .int) (by decide) (by decide)))
  replace F_o_minimumReadSize := F_o_minimumReadSize.other W1 (Or.inr (slot_ne (Or.inr (hw _ w27)) (Or.inr (hw _ w23)) (by decide) (t := .int) (t' := .int) (by decide) (by decide)))
  replace F_o_initialReadSize := F_o_initialReadSize.other W1 (Or.inr (slot_ne (Or.inr (hw _ w29)) (Or.inr (hw _ w23)) (by decide) (t := .int) (t' := .int) (by decide) (by decide)))
  replace F_o_maximumReadSize := F_o_maximumReadSize.other W1 (Or.inr (slot_ne (Or.inr (hw _ w31)) (Or.inr (hw _ w23)) (by decide) (t := .int) (t' := .int) (by decide) (by decide)))
  replace K0 := K0.wr W1 (Or.inl (by simp))
  refine Go.aloadN (pc' := 10) d4_9 rfl rfl rfl ?_
  refine Go.iloadN (pc' := 11) d4_10 rfl rfl ?_
  refine Go.putF (pc' := 14) d4_11 rfl (hw _ w24) Via.refl F_o_writeHighWaterMark E_o (Or.inr ⟨(hw _ w25), rfl, rfl⟩) (hw _ w9) (ty := .int) (by decide) rfl rfl ?_
  intro h2 L2 NL2 W2
  replace F_o_writeHighWaterMark := F_o_writeHighWaterMark.same W2
  replace N0 := NL2 _ N0 gn_o
  replace sz0 : n0 ≤ h2.size := by rw [W2.size]; exact sz0
  replace E_o := E_o.wr W2
  replace F_o_writeLowWaterMark := F_o_writeLowWaterMark.other W2 (Or.inr (slot_ne (Or.inr (hw _ w23)) (Or.inr (hw _ w25)) (by decide) (t := .int) (t' := .int) (by decide) (by decide)))
  replace F_o_minimumReadSize := F_o_minimumReadSize.other W2 (Or.inr (slot_ne (Or.inr (hw _ w27)) (Or.inr (hw _ w25)) (by decide) (t := .int) (t' := .int) (by decide) (by decide)))
  replace F_o_initialReadSize := F_o_initialReadSize.other W2 (Or.inr (slot_ne (Or.inr (hw _ w29)) (Or.inr (hw _ w25)) (by decide) (t := .int) (t' := .int) (by decide) (by decide)))
  replace F_o_maximumReadSize := F_o_maximumReadSize.other W2 (Or.inr (slot_ne (Or.inr (hw _ w31)) (Or.inr (hw _ w25)) (by decide) (t := .int) (t' := .int) (by decide) (by decide)))
  replace K0 := K0.wr W2 (Or.inl (by simp))
  refine Go.aloadN (pc' := 15) d4_14 rfl rfl rfl ?_
  refine Go.iloadN (pc' := 16) d4_15 rfl rfl ?_
  refine Go.putF (pc' := 19) d4_16 rfl (hw _ w26) Via.refl F_o_minimumReadSize E_o (Or.inr ⟨(hw _ w27), rfl, rfl⟩) (hw _ w9) (ty := .int) (by decide) rfl rfl ?_
  intro h3 L3 NL3 W3
  replace F_o_minimumReadSize := F_o_minimumReadSize.same W3
  replace N0 := NL3 _ N0 gn_o
  replace sz0 : n0 ≤ h3.size := by rw [W3.size]; exact sz0
  replace E_o := E_o.wr W3
  replace F_o_writeLowWaterMark := F_o_writeLowWaterMark.other W3 (Or.inr (slot_ne (Or.inr (hw _ w23)) (Or.inr (hw _ w27)) (by decide) (t := .int) (t' := .int) (by decide) (by decide)))
  replace F_o_writeHighWaterMark := F_o_writeHighWaterMark.other W3 (Or.inr (slot_ne (Or.inr (hw _ w25)) (Or.inr (hw _ w27)) (by decide) (t := .int) (t' := .int) (by decide) (by decide)))
  replace F_o_initialReadSize := F_o_initialReadSize.other W3 (Or.inr (slot_ne (Or.inr (hw _ w29)) (Or.inr (hw _ w27)) (by decide) (t := .int) (t' := .int) (by decide) (by decide)))
  replace F_o_maximumReadSize := F_o_maximumReadSize.other W3 (Or.inr (slot_ne (Or.inr (hw _ w31)) (Or.inr (hw _ w27)) (by decide) (t := .int) (t' := .int) (by decide) (by decide)))
  replace K0 := K0.wr W3 (Or.inl (by simp))
  refine Go.aloadN (pc' := 20) d4_19 rfl rfl rfl ?_
  refine Go.iload (pc' := 22) d4_20 rfl rfl ?_
  refine Go.putF (pc' := 25) d4_22 rfl (hw _ w28) Via.refl F_o_initialReadSize E_o (Or.inr ⟨(hw _ w29), rfl, rfl⟩) (hw _ w9) (ty := .int) (by decide) rfl rfl ?_
  intro h4 L4 NL4 W4
  replace F_o_initialReadSize := F_o_initialReadSize.same W4
  replace N0 := NL4 _ N0 gn_o
  replace sz0 : n0 ≤ h4.size := by rw [W4.size]; exact sz0
  replace E_o := E_o.wr W4
  replace F_o_writeLowWaterMark := F_o_writeLowWaterMark.other W4 (Or.inr (slot_ne (Or.inr (hw _ w23)) (Or.inr (hw _ w29)) (by decide) (t := .int) (t' := .int) (by decide) (by decide)))
  replace F_o_writeHighWaterMark := F_o_writeHighWaterMark.other W4 (Or.inr (slot_ne (Or.inr (hw _ w25)) (Or.inr (hw _ w29)) (by decide) (t := .int) (t' := .int) (by decide) (by decide)))
  replace F_o_minimumReadSize := F_o_minimumReadSize.other W4 (Or.inr (slot_ne (Or.inr (hw _ w27)) (Or.inr (hw _ w29)) (by decide) (t := .int) (t' := .int) (by decide) (by decide)))
  replace F_o_maximumReadSize := F_o_maximumReadSize.other W4 (Or.inr (slot_ne (Or.inr (hw _ w31)) (Or.inr (hw _ w29)) (by decide) (t := .int) (t' := .int) (by decide) (by decide)))
  replace K0 := K0.wr W4 (Or.inl (by simp))
  refine Go.aloadN (pc' := 26) d4_25 rfl rfl rfl ?_
  refine Go.iload (pc' := 28) d4_26 rfl rfl ?_
  refine Go.putF (pc' := 31) d4_28 rfl (hw _ w30) Via.refl F_o_maximumReadSize E_o (Or.inr ⟨(hw _ w31), rfl, rfl⟩) (hw _ w9) (ty := .int) (by decide) rfl rfl ?_
  intro h5 L5 NL5 W5
  replace F_o_maximumReadSize := F_o_maximumReadSize.same W5
  replace N0 := NL5 _ N0 gn_o
  replace sz0 : n0 ≤ h5.size := by rw [W5.size]; exact sz0
  replace E_o := E_o.wr W5
  replace F_o_writeLowWaterMark := F_o_writeLowWaterMark.other W5 (Or.inr (slot_ne (Or.inr (hw _ w23)) (Or.inr (hw _ w31)) (by decide) (t := .int) (t' := .int) (by decide) (by decide)))
  replace F_o_writeHighWaterMark := F_o_writeHighWaterMark.other W5 (Or.inr (slot_ne (Or.inr (hw _ w25)) (Or.inr (hw _ w31)) (by decide) (t := .int) (t' := .int) (by decide) (by decide)))
  replace F_o_minimumReadSize := F_o_minimumReadSize.other W5 (Or.inr (slot_ne (Or.inr (hw _ w27)) (Or.inr (hw _ w31)) (by decide) (t := .int) (t' := .int) (by decide) (by decide)))
  replace F_o_initialReadSize := F_o_initialReadSize.other W5 (Or.inr (slot_ne (Or.inr (hw _ w29)) (Or.inr (hw _ w31)) (by decide) (t := .int) (t' := .int) (by decide) (by decide)))
  replace K0 := K0.wr W5 (Or.inl (by simp))
  refine Go.retV d4_31 rfl (by decide) (by decide) ?_
  exact ⟨rfl, N0, K0, E_o, F_o_writeLowWaterMark, F_o_writeHighWaterMark, F_o_minimumReadSize, F_o_initialReadSize, F_o_maximumReadSize⟩
set_option maxRecDepth 65536 in
set_option maxHeartbeats 40000000 in
theorem c_init0 {l : Launch} {Z : State} {a0 : Array Value} (hw : ∀ d ∈ tables_1, d.before a0 Z = true) {h0 : Heap} {n0 : Nat} (sz0 : n0 ≤ h0.size) (o : Addr) (gn_o : n0 ≤ o) (E_o : Exa Z h0 o "com/example/argus/argus/ChannelOptions") (F_o_writeLowWaterMark : Fld Z h0 o "com/example/argus/argus/ChannelOptions" "writeLowWaterMark" "I" (.int (0 : Int32))) (F_o_writeHighWaterMark : Fld Z h0 o "com/example/argus/argus/ChannelOptions" "writeHighWaterMark" "I" (.int (0 : Int32))) (F_o_minimumReadSize : Fld Z h0 o "com/example/argus/argus/ChannelOptions" "minimumReadSize" "I" (.int (0 : Int32))) (F_o_initialReadSize : Fld Z h0 o "com/example/argus/argus/ChannelOptions" "initialReadSize" "I" (.int (0 : Int32))) (F_o_maximumReadSize : Fld Z h0 o "com/example/argus/argus/ChannelOptions" "maximumReadSize" "I" (.int (0 : Int32))) : Con l Z (⟨"com/example/argus/argus/ChannelOptions", "<init>", "()V"⟩ : MethodName) prog_5_method_1_code 1 none ({ frames := 2, cells := 0, slots := 0, locals := 29 } : Room) [] #[(.ref o)] h0 (fun v h L => v = none ∧ Fr n0 L ∧ Keep h0 h [o] ∧ Exa Z h o "com/example/argus/argus/ChannelOptions" ∧ Fld Z h o "com/example/argus/argus/ChannelOptions" "writeLowWaterMark" "I" (.int (32768 : Int32)) ∧ Fld Z h o "com/example/argus/argus/ChannelOptions" "writeHighWaterMark" "I" (.int (65536 : Int32)) ∧ Fld Z h o "com/example/argus/argus/ChannelOptions" "minimumReadSize" "I" (.int (64 : Int32)) ∧ Fld Z h o "com/example/argus/argus/ChannelOptions" "initialReadSize" "I" (.int (1024 : Int32)) ∧ Fld Z h o "com/example/argus/argus/ChannelOptions" "maximumReadSize" "I" (.int (65536 : Int32))) := by
  refine con_of (Ls := #[.val (.ref o)]) (plainFor_of_name (by first | (simp [plainName, overriddenIn]; done) | decide +kernel)) (fun m => by first | (simp [entryFrame, mkF, argsToLocals, Value.category]; done) | rfl) ?_
  have N0 : Fr n0 [] := Fr.nil _
  have K0 : Keep h0 h0 [o] := Keep.refl _ _
  refine Go.aloadN (pc' := 1) d3_0 rfl rfl rfl ?_
  refine Go.ldcI (pc' := 3) d3_1 rfl (hw _ w14) ?_
  refine Go.ldcI (pc' := 5) d3_3 rfl (hw _ w15) ?_
  refine Go.bipush (pc' := 7) d3_5 rfl (z := (64 : Int32)) (by decide) ?_
  refine Go.sipush (pc' := 10) d3_7 rfl (z := (1024 : Int32)) (by decide) ?_
  refine Go.ldcI (pc' := 12) d3_10 rfl (hw _ w15) ?_
  refine Go.callI (pc' := 15) (W := 0) (a := o) (argsL := [(.int (32768 : Int32)), (.int (65536 : Int32)), (.int (64 : Int32)), (.int (1024 : Int32)), (.int (65536 : Int32))]) (rest := []) (k' := 0) (n' := 0) d3_12 rfl rfl (hw _ w16) (hw _ w17) (hw _ w10) (hw _ w18) (by decide) (c_init5 hw sz0 o (32768 : Int32) (65536 : Int32) (64 : Int32) (1024 : Int32) (65536 : Int32) gn_o E_o F_o_writeLowWaterMark F_o_writeHighWaterMark F_o_minimumReadSize F_o_initialReadSize F_o_maximumReadSize) (by decide) (by decide) (by decide) (by decide) rfl rfl rfl pd__28IIIII_29V rfl rfl (Nat.le_of_eq rfl) ?_
  intro v1 h1 P1 L1 NL1 hq1
  obtain ⟨rfl, N1, K1, E_o_1, F_o_writeLowWaterMark_1, F_o_writeHighWaterMark_1, F_o_minimumReadSize_1, F_o_initialReadSize_1, F_o_maximumReadSize_1⟩ := hq1
  dsimp only [Option.toList, List.cons_append, List.nil_append]
  replace N0 := NL1 _ N0 N1
  replace sz0 : n0 ≤ h1.size := Nat.le_trans sz0 K1.1
  clear E_o
  clear F_o_writeLowWaterMark
  clear F_o_writeHighWaterMark
  clear F_o_minimumReadSize
  clear F_o_initialReadSize
  clear F_o_maximumReadSize
  have E_o := E_o_1; clear E_o_1
  have F_o_writeLowWaterMark := F_o_writeLowWaterMark_1; clear F_o_writeLowWaterMark_1
  have F_o_writeHighWaterMark := F_o_writeHighWaterMark_1; clear F_o_writeHighWaterMark_1
  have F_o_minimumReadSize := F_o_minimumReadSize_1; clear F_o_minimumReadSize_1
  have F_o_initialReadSize := F_o_initialReadSize_1; clear F_o_initialReadSize_1
  have F_o_maximumReadSize := F_o_maximumReadSize_1; clear F_o_maximumReadSize_1
  replace K0 := K0.trans K1 ((allS (Or.inl (by simp)) all0))
  refine Go.retV d3_15 rfl (by decide) (by decide) ?_
  exact ⟨rfl, N0, K0, E_o, F_o_writeLowWaterMark, F_o_writeHighWaterMark, F_o_minimumReadSize, F_o_initialReadSize, F_o_maximumReadSize⟩
set_option maxRecDepth 65536 in
set_option maxHeartbeats 40000000 in
theorem c_km {l : Launch} {Z : State} {a0 : Array Value} (hw : ∀ d ∈ tables_1, d.before a0 Z = true) {h0 : Heap} (a : Int32) (b : Int32) (h1 : ¬ a.toInt < 1) (h2 : ¬ b.toInt < a.toInt) : Con l Z (⟨"com/example/argus/argus/QueuedBytes", "checkMarks", "(II)V"⟩ : MethodName) prog_14_method_2_code 2 none ({ frames := 0, cells := 0, slots := 0, locals := 0 } : Room) [] #[(.int a), (.int b)] h0 (PQ h0 none) := by
  refine con_of (Ls := #[.val (.int a), .val (.int b)]) (plainFor_of_name (by first | (simp [plainName, overriddenIn]; done) | decide +kernel)) (fun m => by first | (simp [entryFrame, mkF, argsToLocals, Value.category]; done) | rfl) ?_
  refine Go.iloadN (pc' := 1) d7_0 rfl rfl ?_
  refine Go.iconst (pc' := 2) d7_1 rfl (z := (1 : Int32)) (by decide) ?_
  refine Go.icmpF (pc' := 5) (X := a.toInt) (Y := (1 : Int)) d7_2 rfl rfl (by decide) (h1 : ¬ a.toInt < (1 : Int)) ?_
  refine Go.iloadN (pc' := 6) d7_5 rfl rfl ?_
  refine Go.iloadN (pc' := 7) d7_6 rfl rfl ?_
  refine Go.icmpT (pc' := 25) (X := a.toInt) (Y := b.toInt) d7_7 (by decide) rfl rfl (h2 : ¬ b.toInt < a.toInt) ?_
  refine Go.retV d7_25 rfl (by decide) (by decide) ?_
  exact ⟨rfl, rfl, rfl⟩
set_option maxRecDepth 65536 in
set_option maxHeartbeats 40000000 in
theorem c_ks {l : Launch} {Z : State} {a0 : Array Value} (hw : ∀ d ∈ tables_1, d.before a0 Z = true) {h0 : Heap} (a : Int32) (b : Int32) (d : Int32) (h1 : 0 < a.toInt) (h2 : ¬ b.toInt < a.toInt) (h3 : ¬ d.toInt < b.toInt) : Con l Z (⟨"com/example/argus/argus/AdaptiveReadSizer", "checkSizes", "(III)V"⟩ : MethodName) prog_1_method_3_code 3 none ({ frames := 0, cells := 0, slots := 0, locals := 0 } : Room) [] #[(.int a), (.int b), (.int d)] h0 (PQ h0 none) := by
  refine con_of (Ls := #[.val (.int a), .val (.int b), .val (.int d)]) (plainFor_of_name (by first | (simp [plainName, overriddenIn]; done) | decide +kernel)) (fun m => by first | (simp [entryFrame, mkF, argsToLocals, Value.category]; done) | rfl) ?_
  refine Go.iloadN (pc' := 1) d14_0 rfl rfl ?_
  refine Go.ifF (pc' := 4) (X := a.toInt) d14_1 rfl rfl (h1 : 0 < a.toInt) ?_
  refine Go.iloadN (pc' := 5) d14_4 rfl rfl ?_
  refine Go.iloadN (pc' := 6) d14_5 rfl rfl ?_
  refine Go.icmpF (pc' := 9) (X := a.toInt) (Y := b.toInt) d14_6 rfl rfl rfl (h2 : ¬ b.toInt < a.toInt) ?_
  refine Go.iloadN (pc' := 10) d14_9 rfl rfl ?_
  refine Go.iloadN (pc' := 11) d14_10 rfl rfl ?_
  refine Go.icmpT (pc' := 30) (X := b.toInt) (Y := d.toInt) d14_11 (by decide) rfl rfl (h3 : ¬ d.toInt < b.toInt) ?_
  refine Go.retV d14_30 rfl (by decide) (by decide) ?_
  exact ⟨rfl, rfl, rfl⟩
set_option maxRecDepth 65536 in
set_option maxHeartbeats 40000000 in
theorem c_ww {l : Launch} {Z : State} {a0 : Array Value} (hw : ∀ d ∈ tables_1, d.before a0 Z = true) {h0 : Heap} {n0 : Nat} (sz0 : n0 ≤ h0.size) (o : Addr) (a b p1 p2 p3 p4 p5 : Int32) (E_o : Exa Z h0 o "com/example/argus/argus/ChannelOptions") (F_o_writeLowWaterMark : Fld Z h0 o "com/example/argus/argus/ChannelOptions" "writeLowWaterMark" "I" (.int p1)) (F_o_writeHighWaterMark : Fld Z h0 o "com/example/argus/argus/ChannelOptions" "writeHighWaterMark" "I" (.int p2)) (F_o_minimumReadSize : Fld Z h0 o "com/example/argus/argus/ChannelOptions" "minimumReadSize" "I" (.int p3)) (F_o_initialReadSize : Fld Z h0 o "com/example/argus/argus/ChannelOptions" "initialReadSize" "I" (.int p4)) (F_o_maximumReadSize : Fld Z h0 o "com/example/argus/argus/ChannelOptions" "maximumReadSize" "I" (.int p5)) (h1 : ¬ a.toInt < 1) (h2 : ¬ b.toInt < a.toInt) : Con l Z (⟨"com/example/argus/argus/ChannelOptions", "withWriteWaterMarks", "(II)Lcom/example/argus/argus/ChannelOptions;"⟩ : MethodName) prog_5_method_3_code 3 (some (.object "com/example/argus/argus/ChannelOptions")) ({ frames := 2, cells := 1, slots := 5, locals := 30 } : Room) [] #[(.ref o), (.int a), (.int b)] h0 (fun v h L => ∃ q, v = some (.ref q) ∧ h0.size ≤ q ∧ Fr n0 L ∧ Keep h0 h [] ∧ Exa Z h q "com/example/argus/argus/ChannelOptions" ∧ Fld Z h q "com/example/argus/argus/ChannelOptions" "writeLowWaterMark" "I" (.int a) ∧ Fld Z h q "com/example/argus/argus/ChannelOptions" "writeHighWaterMark" "I" (.int b) ∧ Fld Z h q "com/example/argus/argus/ChannelOptions" "minimumReadSize" "I" (.int p3) ∧ Fld Z h q "com/example/argus/argus/ChannelOptions" "initialReadSize" "I" (.int p4) ∧ Fld Z h q "com/example/argus/argus/ChannelOptions" "maximumReadSize" "I" (.int p5)) := by
  refine con_of (Ls := #[.val (.ref o), .val (.int a), .val (.int b)]) (plainFor_of_name (by first | (simp [plainName, overriddenIn]; done) | decide +kernel)) (fun m => by first | (simp [entryFrame, mkF, argsToLocals, Value.category]; done) | rfl) ?_
  have N0 : Fr n0 [] := Fr.nil _
  have K0 : Keep h0 h0 [] := Keep.refl _ _
  refine Go.iloadN (pc' := 1) d6_0 rfl rfl ?_
  refine Go.iloadN (pc' := 2) d6_1 rfl rfl ?_
  refine Go.callS0 (pc' := 5) (W := 0) (argsL := [(.int a), (.int b)]) (rest := []) (v0 := none) (st2 := []) d6_2 rfl (hw _ w38) (hw _ w39) (hw _ w40) (hw _ w41) (by decide) (c_km hw a b h1 h2) (by decide) (by decide) rfl rfl rfl (by decide) (by decide) rfl pd__28II_29V rfl rfl (Nat.le_of_eq rfl) ?_
  refine Go.newO (pc' := 8) (k' := 1) (n' := 5) d6_5 rfl (hw _ w42) (hw _ w9) (hw _ w10) (by decide) (by decide) rfl rfl ?_
  intro h1 nw ha_nw X1 E_nw D1
  have ne_o_nw : o ≠ nw := Nat.ne_of_lt (by rw [ha_nw]; exact E_o.lt)
  have gn_nw : n0 ≤ nw := by rw [ha_nw]; exact sz0
  have hs_nw : h0.size ≤ nw := by rw [ha_nw]; exact K0.1
  replace sz0 : n0 ≤ h1.size := Nat.le_trans sz0 X1.1
  replace E_o := E_o.ext X1
  replace F_o_writeLowWaterMark := F_o_writeLowWaterMark.ext X1
  replace F_o_writeHighWaterMark := F_o_writeHighWaterMark.ext X1
  replace F_o_minimumReadSize := F_o_minimumReadSize.ext X1
  replace F_o_initialReadSize := F_o_initialReadSize.ext X1
  replace F_o_maximumReadSize := F_o_maximumReadSize.ext X1
  replace K0 := K0.ext X1
  have F_nw_writeLowWaterMark : Fld Z h1 nw "com/example/argus/argus/ChannelOptions" "writeLowWaterMark" "I" (.int (0 : Int32)) := D1 (Or.inr (hw _ w23)) (ty := .int) (by decide)
  have F_nw_writeHighWaterMark : Fld Z h1 nw "com/example/argus/argus/ChannelOptions" "writeHighWaterMark" "I" (.int (0 : Int32)) := D1 (Or.inr (hw _ w25)) (ty := .int) (by decide)
  have F_nw_minimumReadSize : Fld Z h1 nw "com/example/argus/argus/ChannelOptions" "minimumReadSize" "I" (.int (0 : Int32)) := D1 (Or.inr (hw _ w27)) (ty := .int) (by decide)
  have F_nw_initialReadSize : Fld Z h1 nw "com/example/argus/argus/ChannelOptions" "initialReadSize" "I" (.int (0 : Int32)) := D1 (Or.inr (hw _ w29)) (ty := .int) (by decide)
  have F_nw_maximumReadSize : Fld Z h1 nw "com/example/argus/argus/ChannelOptions" "maximumReadSize" "I" (.int (0 : Int32)) := D1 (Or.inr (hw _ w31)) (ty := .int) (by decide)
  refine Go.dup (pc' := 9) d6_8 rfl rfl ?_
  refine Go.iloadN (pc' := 10) d6_9 rfl rfl ?_
  refine Go.iloadN (pc' := 11) d6_10 rfl rfl ?_
  refine Go.aloadN (pc' := 12) d6_11 rfl rfl rfl ?_
  refine Go.getF (pc' := 15) d6_12 rfl (hw _ w26) Via.refl F_o_minimumReadSize ?_
  refine Go.aloadN (pc' := 16) d6_15 rfl rfl rfl ?_
  refine Go.getF (pc' := 19) d6_16 rfl (hw _ w28) Via.refl F_o_initialReadSize ?_
  refine Go.aloadN (pc' := 20) d6_19 rfl rfl rfl ?_
  refine Go.getF (pc' := 23) d6_20 rfl (hw _ w30) Via.refl F_o_maximumReadSize ?_
  refine Go.callI (pc' := 26) (W := 1) (a := nw) (argsL := [(.int a), (.int b), (.int p3), (.int p4), (.int p5)]) (rest := [(.ref nw)]) (k' := 1) (n' := 5) d6_23 rfl rfl (hw _ w16) (hw _ w17) (hw _ w10) (hw _ w18) (by decide) (c_init5 hw sz0 nw a b p3 p4 p5 gn_nw E_nw F_nw_writeLowWaterMark F_nw_writeHighWaterMark F_nw_minimumReadSize F_nw_initialReadSize F_nw_maximumReadSize) (by decide) (by decide) (by decide) (by decide) rfl rfl rfl pd__28IIIII_29V rfl rfl (Nat.le_of_eq rfl) ?_
  intro v2 h2 P2 L2 NL2 hq2
  obtain ⟨rfl, N2, K2, E_nw_2, F_nw_writeLowWaterMark_2, F_nw_writeHighWaterMark_2, F_nw_minimumReadSize_2, F_nw_initialReadSize_2, F_nw_maximumReadSize_2⟩ := hq2
  dsimp only [Option.toList, List.cons_append, List.nil_append]
  replace N0 := NL2 _ N0 N2
  replace sz0 : n0 ≤ h2.size := Nat.le_trans sz0 K2.1
  replace E_o := E_o.keep K2
  clear E_nw
  replace F_o_writeLowWaterMark := F_o_writeLowWaterMark.keep K2 (ninS ne_o_nw nin0)
  replace F_o_writeHighWaterMark := F_o_writeHighWaterMark.keep K2 (ninS ne_o_nw nin0)
  replace F_o_minimumReadSize := F_o_minimumReadSize.keep K2 (ninS ne_o_nw nin0)
  replace F_o_initialReadSize := F_o_initialReadSize.keep K2 (ninS ne_o_nw nin0)
  replace F_o_maximumReadSize := F_o_maximumReadSize.keep K2 (ninS ne_o_nw nin0)
  clear F_nw_writeLowWaterMark
  clear F_nw_writeHighWaterMark
  clear F_nw_minimumReadSize
  clear F_nw_initialReadSize
  clear F_nw_maximumReadSize
  have E_nw := E_nw_2; clear E_nw_2
  have F_nw_writeLowWaterMark := F_nw_writeLowWaterMark_2; clear F_nw_writeLowWaterMark_2
  have F_nw_writeHighWaterMark := F_nw_writeHighWaterMark_2; clear F_nw_writeHighWaterMark_2
  have F_nw_minimumReadSize := F_nw_minimumReadSize_2; clear F_nw_minimumReadSize_2
  have F_nw_initialReadSize := F_nw_initialReadSize_2; clear F_nw_initialReadSize_2
  have F_nw_maximumReadSize := F_nw_maximumReadSize_2; clear F_nw_maximumReadSize_2
  replace K0 := K0.trans K2 ((allS (Or.inr hs_nw) all0))
  refine Go.retA d6_26 rfl rfl rfl (by decide) (by decide) ?_
  exact ⟨nw, rfl, hs_nw, N0, K0, E_nw, F_nw_writeLowWaterMark, F_nw_writeHighWaterMark, F_nw_minimumReadSize, F_nw_initialReadSize, F_nw_maximumReadSize⟩
set_option maxRecDepth 65536 in
set_option maxHeartbeats 40000000 in
theorem c_wr {l : Launch} {Z : State} {a0 : Array Value} (hw : ∀ d ∈ tables_1, d.before a0 Z = true) {h0 : Heap} {n0 : Nat} (sz0 : n0 ≤ h0.size) (o : Addr) (a b d p1 p2 p3 p4 p5 : Int32) (E_o : Exa Z h0 o "com/example/argus/argus/ChannelOptions") (F_o_writeLowWaterMark : Fld Z h0 o "com/example/argus/argus/ChannelOptions" "writeLowWaterMark" "I" (.int p1)) (F_o_writeHighWaterMark : Fld Z h0 o "com/example/argus/argus/ChannelOptions" "writeHighWaterMark" "I" (.int p2)) (F_o_minimumReadSize : Fld Z h0 o "com/example/argus/argus/ChannelOptions" "minimumReadSize" "I" (.int p3)) (F_o_initialReadSize : Fld Z h0 o "com/example/argus/argus/ChannelOptions" "initialReadSize" "I" (.int p4)) (F_o_maximumReadSize : Fld Z h0 o "com/example/argus/argus/ChannelOptions" "maximumReadSize" "I" (.int p5)) (h1 : 0 < a.toInt) (h2 : ¬ b.toInt < a.toInt) (h3 : ¬ d.toInt < b.toInt) : Con l Z (⟨"com/example/argus/argus/ChannelOptions", "withReadSizes", "(III)Lcom/example/argus/argus/ChannelOptions;"⟩ : MethodName) prog_5_method_4_code 4 (some (.object "com/example/argus/argus/ChannelOptions")) ({ frames := 2, cells := 1, slots := 5, locals := 30 } : Room) [] #[(.ref o), (.int a), (.int b), (.int d)] h0 (fun v h L => ∃ q, v = some (.ref q) ∧ h0.size ≤ q ∧ Fr n0 L ∧ Keep h0 h [] ∧ Exa Z h q "com/example/argus/argus/ChannelOptions" ∧ Fld Z h q "com/example/argus/argus/ChannelOptions" "writeLowWaterMark" "I" (.int p1) ∧ Fld Z h q "com/example/argus/argus/ChannelOptions" "writeHighWaterMark" "I" (.int p2) ∧ Fld Z h q "com/example/argus/argus/ChannelOptions" "minimumReadSize" "I" (.int a) ∧ Fld Z h q "com/example/argus/argus/ChannelOptions" "initialReadSize" "I" (.int b) ∧ Fld Z h q "com/example/argus/argus/ChannelOptions" "maximumReadSize" "I" (.int d)) := by
  refine con_of (Ls := #[.val (.ref o), .val (.int a), .val (.int b), .val (.int d)]) (plainFor_of_name (by first | (simp [plainName, overriddenIn]; done) | decide +kernel)) (fun m => by first | (simp [entryFrame, mkF, argsToLocals, Value.category]; done) | rfl) ?_
  have N0 : Fr n0 [] := Fr.nil _
  have K0 : Keep h0 h0 [] := Keep.refl _ _
  refine Go.iloadN (pc' := 1) d13_0 rfl rfl ?_
  refine Go.iloadN (pc' := 2) d13_1 rfl rfl ?_
  refine Go.iloadN (pc' := 3) d13_2 rfl rfl ?_
  refine Go.callS0 (pc' := 6) (W := 0) (argsL := [(.int a), (.int b), (.int d)]) (rest := []) (v0 := none) (st2 := []) d13_3 rfl (hw _ w74) (hw _ w75) (hw _ w76) (hw _ w77) (by decide) (c_ks hw a b d h1 h2 h3) (by decide) (by decide) rfl rfl rfl (by decide) (by decide) rfl pd__28III_29V rfl rfl (Nat.le_of_eq rfl) ?_
  refine Go.newO (pc' := 9) (k' := 1) (n' := 5) d13_6 rfl (hw _ w42) (hw _ w9) (hw _ w10) (by decide) (by decide) rfl rfl ?_
  intro h1 nw ha_nw X1 E_nw D1
  have ne_o_nw : o ≠ nw := Nat.ne_of_lt (by rw [ha_nw]; exact E_o.lt)
  have gn_nw : n0 ≤ nw := by rw [ha_nw]; exact sz0
  have hs_nw : h0.size ≤ nw := by rw [ha_nw]; exact K0.1
  replace sz0 : n0 ≤ h1.size := Nat.le_trans sz0 X1.1
  replace E_o := E_o.ext X1
  replace F_o_writeLowWaterMark := F_o_writeLowWaterMark.ext X1
  replace F_o_writeHighWaterMark := F_o_writeHighWaterMark.ext X1
  replace F_o_minimumReadSize := F_o_minimumReadSize.ext X1
  replace F_o_initialReadSize := F_o_initialReadSize.ext X1
  replace F_o_maximumReadSize := F_o_maximumReadSize.ext X1
  replace K0 := K0.ext X1
  have F_nw_writeLowWaterMark : Fld Z h1 nw "com/example/argus/argus/ChannelOptions" "writeLowWaterMark" "I" (.int (0 : Int32)) := D1 (Or.inr (hw _ w23)) (ty := .int) (by decide)
  have F_nw_writeHighWaterMark : Fld Z h1 nw "com/example/argus/argus/ChannelOptions" "writeHighWaterMark" "I" (.int (0 : Int32)) := D1 (Or.inr (hw _ w25)) (ty := .int) (by decide)
  have F_nw_minimumReadSize : Fld Z h1 nw "com/example/argus/argus/ChannelOptions" "minimumReadSize" "I" (.int (0 : Int32)) := D1 (Or.inr (hw _ w27)) (ty := .int) (by decide)
  have F_nw_initialReadSize : Fld Z h1 nw "com/example/argus/argus/ChannelOptions" "initialReadSize" "I" (.int (0 : Int32)) := D1 (Or.inr (hw _ w29)) (ty := .int) (by decide)
  have F_nw_maximumReadSize : Fld Z h1 nw "com/example/argus/argus/ChannelOptions" "maximumReadSize" "I" (.int (0 : Int32)) := D1 (Or.inr (hw _ w31)) (ty := .int) (by decide)
  refine Go.dup (pc' := 10) d13_9 rfl rfl ?_
  refine Go.aloadN (pc' := 11) d13_10 rfl rfl rfl ?_
  refine Go.getF (pc' := 14) d13_11 rfl (hw _ w22) Via.refl F_o_writeLowWaterMark ?_
  refine Go.aloadN (pc' := 15) d13_14 rfl rfl rfl ?_
  refine Go.getF (pc' := 18) d13_15 rfl (hw _ w24) Via.refl F_o_writeHighWaterMark ?_
  refine Go.iloadN (pc' := 19) d13_18 rfl rfl ?_
  refine Go.iloadN (pc' := 20) d13_19 rfl rfl ?_
  refine Go.iloadN (pc' := 21) d13_20 rfl rfl ?_
  refine Go.callI (pc' := 24) (W := 1) (a := nw) (argsL := [(.int p1), (.int p2), (.int a), (.int b), (.int d)]) (rest := [(.ref nw)]) (k' := 1) (n' := 5) d13_21 rfl rfl (hw _ w16) (hw _ w17) (hw _ w10) (hw _ w18) (by decide) (c_init5 hw sz0 nw p1 p2 a b d gn_nw E_nw F_nw_writeLowWaterMark F_nw_writeHighWaterMark F_nw_minimumReadSize F_nw_initialReadSize F_nw_maximumReadSize) (by decide) (by decide) (by decide) (by decide) rfl rfl rfl pd__28IIIII_29V rfl rfl (Nat.le_of_eq rfl) ?_
  intro v2 h2 P2 L2 NL2 hq2
  obtain ⟨rfl, N2, K2, E_nw_2, F_nw_writeLowWaterMark_2, F_nw_writeHighWaterMark_2, F_nw_minimumReadSize_2, F_nw_initialReadSize_2, F_nw_maximumReadSize_2⟩ := hq2
  dsimp only [Option.toList, List.cons_append, List.nil_append]
  replace N0 := NL2 _ N0 N2
  replace sz0 : n0 ≤ h2.size := Nat.le_trans sz0 K2.1
  replace E_o := E_o.keep K2
  clear E_nw
  replace F_o_writeLowWaterMark := F_o_writeLowWaterMark.keep K2 (ninS ne_o_nw nin0)
  replace F_o_writeHighWaterMark := F_o_writeHighWaterMark.keep K2 (ninS ne_o_nw nin0)
  replace F_o_minimumReadSize := F_o_minimumReadSize.keep K2 (ninS ne_o_nw nin0)
  replace F_o_initialReadSize := F_o_initialReadSize.keep K2 (ninS ne_o_nw nin0)
  replace F_o_maximumReadSize := F_o_maximumReadSize.keep K2 (ninS ne_o_nw nin0)
  clear F_nw_writeLowWaterMark
  clear F_nw_writeHighWaterMark
  clear F_nw_minimumReadSize
  clear F_nw_initialReadSize
  clear F_nw_maximumReadSize
  have E_nw := E_nw_2; clear E_nw_2
  have F_nw_writeLowWaterMark := F_nw_writeLowWaterMark_2; clear F_nw_writeLowWaterMark_2
  have F_nw_writeHighWaterMark := F_nw_writeHighWaterMark_2; clear F_nw_writeHighWaterMark_2
  have F_nw_minimumReadSize := F_nw_minimumReadSize_2; clear F_nw_minimumReadSize_2
  have F_nw_initialReadSize := F_nw_initialReadSize_2; clear F_nw_initialReadSize_2
  have F_nw_maximumReadSize := F_nw_maximumReadSize_2; clear F_nw_maximumReadSize_2
  replace K0 := K0.trans K2 ((allS (Or.inr hs_nw) all0))
  refine Go.retA d13_24 rfl rfl rfl (by decide) (by decide) ?_
  exact ⟨nw, rfl, hs_nw, N0, K0, E_nw, F_nw_writeLowWaterMark, F_nw_writeHighWaterMark, F_nw_minimumReadSize, F_nw_initialReadSize, F_nw_maximumReadSize⟩
set_option maxRecDepth 65536 in
set_option maxHeartbeats 40000000 in
theorem c_g0 {l : Launch} {Z : State} {a0 : Array Value} (hw : ∀ d ∈ tables_1, d.before a0 Z = true) {h0 : Heap} (o : Addr) (p1 p2 p3 p4 p5 : Int32) (E_o : Exa Z h0 o "com/example/argus/argus/ChannelOptions") (F_o_writeLowWaterMark : Fld Z h0 o "com/example/argus/argus/ChannelOptions" "writeLowWaterMark" "I" (.int p1)) (F_o_writeHighWaterMark : Fld Z h0 o "com/example/argus/argus/ChannelOptions" "writeHighWaterMark" "I" (.int p2)) (F_o_minimumReadSize : Fld Z h0 o "com/example/argus/argus/ChannelOptions" "minimumReadSize" "I" (.int p3)) (F_o_initialReadSize : Fld Z h0 o "com/example/argus/argus/ChannelOptions" "initialReadSize" "I" (.int p4)) (F_o_maximumReadSize : Fld Z h0 o "com/example/argus/argus/ChannelOptions" "maximumReadSize" "I" (.int p5)) : Con l Z (⟨"com/example/argus/argus/ChannelOptions", "writeLowWaterMark", "()I"⟩ : MethodName) prog_5_method_6_code 1 (some .int) ({ frames := 0, cells := 0, slots := 0, locals := 0 } : Room) [] #[(.ref o)] h0 (PQ h0 (some (.int p1))) := by
  refine con_of (Ls := #[.val (.ref o)]) (plainFor_of_name (by first | (simp [plainName, overriddenIn]; done) | decide +kernel)) (fun m => by first | (simp [entryFrame, mkF, argsToLocals, Value.category]; done) | rfl) ?_
  refine Go.aloadN (pc' := 1) d8_0 rfl rfl rfl ?_
  refine Go.getF (pc' := 4) d8_1 rfl (hw _ w22) Via.refl F_o_writeLowWaterMark ?_
  refine Go.retI d8_4 rfl (by decide) (by decide) ?_
  exact ⟨rfl, rfl, rfl⟩
set_option maxRecDepth 65536 in
set_option maxHeartbeats 40000000 in
theorem c_g1 {l : Launch} {Z : State} {a0 : Array Value} (hw : ∀ d ∈ tables_1, d.before a0 Z = true) {h0 : Heap} (o : Addr) (p1 p2 p3 p4 p5 : Int32) (E_o : Exa Z h0 o "com/example/argus/argus/ChannelOptions") (F_o_writeLowWaterMark : Fld Z h0 o "com/example/argus/argus/ChannelOptions" "writeLowWaterMark" "I" (.int p1)) (F_o_writeHighWaterMark : Fld Z h0 o "com/example/argus/argus/ChannelOptions" "writeHighWaterMark" "I" (.int p2)) (F_o_minimumReadSize : Fld Z h0 o "com/example/argus/argus/ChannelOptions" "minimumReadSize" "I" (.int p3)) (F_o_initialReadSize : Fld Z h0 o "com/example/argus/argus/ChannelOptions" "initialReadSize" "I" (.int p4)) (F_o_maximumReadSize : Fld Z h0 o "com/example/argus/argus/ChannelOptions" "maximumReadSize" "I" (.int p5)) : Con l Z (⟨"com/example/argus/argus/ChannelOptions", "writeHighWaterMark", "()I"⟩ : MethodName) prog_5_method_7_code 1 (some .int) ({ frames := 0, cells := 0, slots := 0, locals := 0 } : Room) [] #[(.ref o)] h0 (PQ h0 (some (.int p2))) := by
  refine con_of (Ls := #[.val (.ref o)]) (plainFor_of_name (by first | (simp [plainName, overriddenIn]; done) | decide +kernel)) (fun m => by first | (simp [entryFrame, mkF, argsToLocals, Value.category]; done) | rfl) ?_
  refine Go.aloadN (pc' := 1) d9_0 rfl rfl rfl ?_
  refine Go.getF (pc' := 4) d9_1 rfl (hw _ w24) Via.refl F_o_writeHighWaterMark ?_
  refine Go.retI d9_4 rfl (by decide) (by decide) ?_
  exact ⟨rfl, rfl, rfl⟩
set_option maxRecDepth 65536 in
set_option maxHeartbeats 40000000 in
theorem c_g2 {l : Launch} {Z : State} {a0 : Array Value} (hw : ∀ d ∈ tables_1, d.before a0 Z = true) {h0 : Heap} (o : Addr) (p1 p2 p3 p4 p5 : Int32) (E_o : Exa Z h0 o "com/example/argus/argus/ChannelOptions") (F_o_writeLowWaterMark : Fld Z h0 o "com/example/argus/argus/ChannelOptions" "writeLowWaterMark" "I" (.int p1)) (F_o_writeHighWaterMark : Fld Z h0 o "com/example/argus/argus/ChannelOptions" "writeHighWaterMark" "I" (.int p2)) (F_o_minimumReadSize : Fld Z h0 o "com/example/argus/argus/ChannelOptions" "minimumReadSize" "I" (.int p3)) (F_o_initialReadSize : Fld Z h0 o "com/example/argus/argus/ChannelOptions" "initialReadSize" "I" (.int p4)) (F_o_maximumReadSize : Fld Z h0 o "com/example/argus/argus/ChannelOptions" "maximumReadSize" "I" (.int p5)) : Con l Z (⟨"com/example/argus/argus/ChannelOptions", "minimumReadSize", "()I"⟩ : MethodName) prog_5_method_8_code 1 (some .int) ({ frames := 0, cells := 0, slots := 0, locals := 0 } : Room) [] #[(.ref o)] h0 (PQ h0 (some (.int p3))) := by
  refine con_of (Ls := #[.val (.ref o)]) (plainFor_of_name (by first | (simp [plainName, overriddenIn]; done) | decide +kernel)) (fun m => by first | (simp [entryFrame, mkF, argsToLocals, Value.category]; done) | rfl) ?_
  refine Go.aloadN (pc' := 1) d10_0 rfl rfl rfl ?_
  refine Go.getF (pc' := 4) d10_1 rfl (hw _ w26) Via.refl F_o_minimumReadSize ?_
  refine Go.retI d10_4 rfl (by decide) (by decide) ?_
  exact ⟨rfl, rfl, rfl⟩
set_option maxRecDepth 65536 in
set_option maxHeartbeats 40000000 in
theorem c_g3 {l : Launch} {Z : State} {a0 : Array Value} (hw : ∀ d ∈ tables_1, d.before a0 Z = true) {h0 : Heap} (o : Addr) (p1 p2 p3 p4 p5 : Int32) (E_o : Exa Z h0 o "com/example/argus/argus/ChannelOptions") (F_o_writeLowWaterMark : Fld Z h0 o "com/example/argus/argus/ChannelOptions" "writeLowWaterMark" "I" (.int p1)) (F_o_writeHighWaterMark : Fld Z h0 o "com/example/argus/argus/ChannelOptions" "writeHighWaterMark" "I" (.int p2)) (F_o_minimumReadSize : Fld Z h0 o "com/example/argus/argus/ChannelOptions" "minimumReadSize" "I" (.int p3)) (F_o_initialReadSize : Fld Z h0 o "com/example/argus/argus/ChannelOptions" "initialReadSize" "I" (.int p4)) (F_o_maximumReadSize : Fld Z h0 o "com/example/argus/argus/ChannelOptions" "maximumReadSize" "I" (.int p5)) : Con l Z (⟨"com/example/argus/argus/ChannelOptions", "initialReadSize", "()I"⟩ : MethodName) prog_5_method_9_code 1 (some .int) ({ frames := 0, cells := 0, slots := 0, locals := 0 } : Room) [] #[(.ref o)] h0 (PQ h0 (some (.int p4))) := by
  refine con_of (Ls := #[.val (.ref o)]) (plainFor_of_name (by first | (simp [plainName, overriddenIn]; done) | decide +kernel)) (fun m => by first | (simp [entryFrame, mkF, argsToLocals, Value.category]; done) | rfl) ?_
  refine Go.aloadN (pc' := 1) d11_0 rfl rfl rfl ?_
  refine Go.getF (pc' := 4) d11_1 rfl (hw _ w28) Via.refl F_o_initialReadSize ?_
  refine Go.retI d11_4 rfl (by decide) (by decide) ?_
  exact ⟨rfl, rfl, rfl⟩
set_option maxRecDepth 65536 in
set_option maxHeartbeats 40000000 in
theorem c_g4 {l : Launch} {Z : State} {a0 : Array Value} (hw : ∀ d ∈ tables_1, d.before a0 Z = true) {h0 : Heap} (o : Addr) (p1 p2 p3 p4 p5 : Int32) (E_o : Exa Z h0 o "com/example/argus/argus/ChannelOptions") (F_o_writeLowWaterMark : Fld Z h0 o "com/example/argus/argus/ChannelOptions" "writeLowWaterMark" "I" (.int p1)) (F_o_writeHighWaterMark : Fld Z h0 o "com/example/argus/argus/ChannelOptions" "writeHighWaterMark" "I" (.int p2)) (F_o_minimumReadSize : Fld Z h0 o "com/example/argus/argus/ChannelOptions" "minimumReadSize" "I" (.int p3)) (F_o_initialReadSize : Fld Z h0 o "com/example/argus/argus/ChannelOptions" "initialReadSize" "I" (.int p4)) (F_o_maximumReadSize : Fld Z h0 o "com/example/argus/argus/ChannelOptions" "maximumReadSize" "I" (.int p5)) : Con l Z (⟨"com/example/argus/argus/ChannelOptions", "maximumReadSize", "()I"⟩ : MethodName) prog_5_method_10_code 1 (some .int) ({ frames := 0, cells := 0, slots := 0, locals := 0 } : Room) [] #[(.ref o)] h0 (PQ h0 (some (.int p5))) := by
  refine con_of (Ls := #[.val (.ref o)]) (plainFor_of_name (by first | (simp [plainName, overriddenIn]; done) | decide +kernel)) (fun m => by first | (simp [entryFrame, mkF, argsToLocals, Value.category]; done) | rfl) ?_
  refine Go.aloadN (pc' := 1) d12_0 rfl rfl rfl ?_
  refine Go.getF (pc' := 4) d12_1 rfl (hw _ w30) Via.refl F_o_maximumReadSize ?_
  refine Go.retI d12_4 rfl (by decide) (by decide) ?_
  exact ⟨rfl, rfl, rfl⟩
set_option maxRecDepth 65536 in
set_option maxHeartbeats 40000000 in
theorem law_con {l : Launch} {Z : State} {a0 : Array Value} (hw : ∀ d ∈ tables_1, d.before a0 Z = true) {h0 : Heap} {n0 : Nat} (sz0 : n0 ≤ h0.size) (a : Int32) (b : Int32) (d : Int32) (e : Int32) (f : Int32) (g : Int32) : Con l Z x code maxLocals ret room_1 tables_1 #[(.int a), (.int b), (.int d), (.int e), (.int f), (.int g)] h0 (LawQ n0) := by
  refine con_of (Ls := #[.val (.int a), .val (.int b), .val (.int d), .val (.int e), .val (.int f), .val (.int g), .unset, .unset, .unset, .unset, .unset, .unset, .unset, .unset, .unset, .unset, .unset, .unset, .unset, .unset, .unset, .unset, .unset, .unset, .unset]) (plainFor_of_name (by first | (simp [plainName, overriddenIn]; done) | decide +kernel)) (fun m => by first | (simp [entryFrame, mkF, argsToLocals, Value.category, maxLocals]; done) | rfl) ?_
  have N0 : Fr n0 [] := Fr.nil _
  have k1 : (1 : Int32).toInt = 1 := by decide
  refine Go.iloadN (pc' := 1) at_0 rfl rfl ?_
  refine Go.ldcI (pc' := 3) at_1 rfl (hw _ w0) ?_
  refine Go.iand (pc' := 4) at_3 rfl rfl ?_
  generalize hv_v1 : (a &&& (2147483647 : Int32)) = v1
  refine Go.istore (pc' := 6) at_4 rfl (Ls' := #[.val (.int a), .val (.int b), .val (.int d), .val (.int e), .val (.int f), .val (.int g), .val (.int v1), .unset, .unset, .unset, .unset, .unset, .unset, .unset, .unset, .unset, .unset, .unset, .unset, .unset, .unset, .unset, .unset, .unset, .unset]) rfl ?_
  refine Go.iloadN (pc' := 7) at_6 rfl rfl ?_
  refine Go.ldcI (pc' := 9) at_7 rfl (hw _ w0) ?_
  refine Go.iand (pc' := 10) at_9 rfl rfl ?_
  generalize hv_v2 : (b &&& (2147483647 : Int32)) = v2
  refine Go.istore (pc' := 12) at_10 rfl (Ls' := #[.val (.int a), .val (.int b), .val (.int d), .val (.int e), .val (.int f), .val (.int g), .val (.int v1), .val (.int v2), .unset, .unset, .unset, .unset, .unset, .unset, .unset, .unset, .unset, .unset, .unset, .unset, .unset, .unset, .unset, .unset, .unset]) rfl ?_
  refine Go.iconst (pc' := 13) at_12 rfl (z := (1 : Int32)) (by decide) ?_
  refine Go.iload (pc' := 15) at_13 rfl rfl ?_
  refine Go.iload (pc' := 17) at_15 rfl rfl ?_
  refine Go.callS0 (pc' := 20) (W := 1) (argsL := [(.int v1), (.int v2)]) (rest := [(.int (1 : Int32))]) (v0 := some (.int (f_c_min v1 v2))) (st2 := [(.int (f_c_min v1 v2)), (.int (1 : Int32))]) at_17 rfl (hw _ w1) (hw _ w2) (hw _ w3) (hw _ w4) (by decide) (c_min hw v1 v2 rfl) (by decide) (by decide) rfl rfl rfl (by decide) (by decide) rfl pd__28II_29I rfl rfl (Nat.le_of_eq rfl) ?_
  refine Go.callS0 (pc' := 23) (W := 0) (argsL := [(.int (1 : Int32)), (.int (f_c_min v1 v2))]) (rest := []) (v0 := some (.int (f_c_max (1 : Int32) (f_c_min v1 v2)))) (st2 := [(.int (f_c_max (1 : Int32) (f_c_min v1 v2)))]) at_20 rfl (hw _ w5) (hw _ w6) (hw _ w3) (hw _ w7) (by decide) (c_max hw (1 : Int32) (f_c_min v1 v2) rfl) (by decide) (by decide) rfl rfl rfl (by decide) (by decide) rfl pd__28II_29I rfl rfl (Nat.le_of_eq rfl) ?_
  generalize hv_low : (f_c_max (1 : Int32) (f_c_min v1 v2)) = low
  refine Go.istore (pc' := 25) at_23 rfl (Ls' := #[.val (.int a), .val (.int b), .val (.int d), .val (.int e), .val (.int f), .val (.int g), .val (.int v1), .val (.int v2), .val (.int low), .unset, .unset, .unset, .unset, .unset, .unset, .unset, .unset, .unset, .unset, .unset, .unset, .unset, .unset, .unset, .unset]) rfl ?_
  have h_low : 1 ≤ low.toInt := by rw [← hv_low]; refine Int.le_trans ?_ (own_max _ _); omega
  refine Go.iload (pc' := 27) at_25 rfl rfl ?_
  refine Go.iload (pc' := 29) at_27 rfl rfl ?_
  refine Go.iload (pc' := 31) at_29 rfl rfl ?_
  refine Go.callS0 (pc' := 34) (W := 1) (argsL := [(.int v1), (.int v2)]) (rest := [(.int low)]) (v0 := some (.int (f_c_max v1 v2))) (st2 := [(.int (f_c_max v1 v2)), (.int low)]) at_31 rfl (hw _ w5) (hw _ w6) (hw _ w3) (hw _ w7) (by decide) (c_max hw v1 v2 rfl) (by decide) (by decide) rfl rfl rfl (by decide) (by decide) rfl pd__28II_29I rfl rfl (Nat.le_of_eq rfl) ?_
  refine Go.callS0 (pc' := 37) (W := 0) (argsL := [(.int low), (.int (f_c_max v1 v2))]) (rest := []) (v0 := some (.int (f_c_max low (f_c_max v1 v2)))) (st2 := [(.int (f_c_max low (f_c_max v1 v2)))]) at_34 rfl (hw _ w5) (hw _ w6) (hw _ w3) (hw _ w7) (by decide) (c_max hw low (f_c_max v1 v2) rfl) (by decide) (by decide) rfl rfl rfl (by decide) (by decide) rfl pd__28II_29I rfl rfl (Nat.le_of_eq rfl) ?_
  generalize hv_high : (f_c_max low (f_c_max v1 v2)) = high
  refine Go.istore (pc' := 39) at_37 rfl (Ls' := #[.val (.int a), .val (.int b), .val (.int d), .val (.int e), .val (.int f), .val (.int g), .val (.int v1), .val (.int v2), .val (.int low), .val (.int high), .unset, .unset, .unset, .unset, .unset, .unset, .unset, .unset, .unset, .unset, .unset, .unset, .unset, .unset, .unset]) rfl ?_
  have h_high : low.toInt ≤ high.toInt := by rw [← hv_high]; refine Int.le_trans ?_ (own_max _ _); omega
  refine Go.iloadN (pc' := 40) at_39 rfl rfl ?_
  refine Go.ldcI (pc' := 42) at_40 rfl (hw _ w0) ?_
  refine Go.iand (pc' := 43) at_42 rfl rfl ?_
  generalize hv_v3 : (d &&& (2147483647 : Int32)) = v3
  refine Go.istore (pc' := 45) at_43 rfl (Ls' := #[.val (.int a), .val (.int b), .val (.int d), .val (.int e), .val (.int f), .val (.int g), .val (.int v1), .val (.int v2), .val (.int low), .val (.int high), .val (.int v3), .unset, .unset, .unset, .unset, .unset, .unset, .unset, .unset, .unset, .unset, .unset, .unset, .unset, .unset]) rfl ?_
  refine Go.iloadN (pc' := 46) at_45 rfl rfl ?_
  refine Go.ldcI (pc' := 48) at_46 rfl (hw _ w0) ?_
  refine Go.iand (pc' := 49) at_48 rfl rfl ?_
  generalize hv_v4 : (e &&& (2147483647 : Int32)) = v4
  refine Go.istore (pc' := 51) at_49 rfl (Ls' := #[.val (.int a), .val (.int b), .val (.int d), .val (.int e), .val (.int f), .val (.int g), .val (.int v1), .val (.int v2), .val (.int low), .val (.int high), .val (.int v3), .val (.int v4), .unset, .unset, .unset, .unset, .unset, .unset, .unset, .unset, .unset, .unset, .unset, .unset, .unset]) rfl ?_
  refine Go.iload (pc' := 53) at_51 rfl rfl ?_
  refine Go.ldcI (pc' := 55) at_53 rfl (hw _ w0) ?_
  refine Go.iand (pc' := 56) at_55 rfl rfl ?_
  generalize hv_v5 : (f &&& (2147483647 : Int32)) = v5
  refine Go.istore (pc' := 58) at_56 rfl (Ls' := #[.val (.int a), .val (.int b), .val (.int d), .val (.int e), .val (.int f), .val (.int g), .val (.int v1), .val (.int v2), .val (.int low), .val (.int high), .val (.int v3), .val (.int v4), .val (.int v5), .unset, .unset, .unset, .unset, .unset, .unset, .unset, .unset, .unset, .unset, .unset, .unset]) rfl ?_
  refine Go.iload (pc' := 60) at_58 rfl rfl ?_
  refine Go.iload (pc' := 62) at_60 rfl rfl ?_
  refine Go.iload (pc' := 64) at_62 rfl rfl ?_
  refine Go.callS0 (pc' := 67) (W := 1) (argsL := [(.int v4), (.int v5)]) (rest := [(.int v3)]) (v0 := some (.int (f_c_min v4 v5))) (st2 := [(.int (f_c_min v4 v5)), (.int v3)]) at_64 rfl (hw _ w1) (hw _ w2) (hw _ w3) (hw _ w4) (by decide) (c_min hw v4 v5 rfl) (by decide) (by decide) rfl rfl rfl (by decide) (by decide) rfl pd__28II_29I rfl rfl (Nat.le_of_eq rfl) ?_
  refine Go.callS0 (pc' := 70) (W := 0) (argsL := [(.int v3), (.int (f_c_min v4 v5))]) (rest := []) (v0 := some (.int (f_c_min v3 (f_c_min v4 v5)))) (st2 := [(.int (f_c_min v3 (f_c_min v4 v5)))]) at_67 rfl (hw _ w1) (hw _ w2) (hw _ w3) (hw _ w4) (by decide) (c_min hw v3 (f_c_min v4 v5) rfl) (by decide) (by decide) rfl rfl rfl (by decide) (by decide) rfl pd__28II_29I rfl rfl (Nat.le_of_eq rfl) ?_
  generalize hv_v6 : (f_c_min v3 (f_c_min v4 v5)) = v6
  refine Go.istore (pc' := 72) at_70 rfl (Ls' := #[.val (.int a), .val (.int b), .val (.int d), .val (.int e), .val (.int f), .val (.int g), .val (.int v1), .val (.int v2), .val (.int low), .val (.int high), .val (.int v3), .val (.int v4), .val (.int v5), .val (.int v6), .unset, .unset, .unset, .unset, .unset, .unset, .unset, .unset, .unset, .unset, .unset]) rfl ?_
  refine Go.iload (pc' := 74) at_72 rfl rfl ?_
  refine Go.iload (pc' := 76) at_74 rfl rfl ?_
  refine Go.iload (pc' := 78) at_76 rfl rfl ?_
  refine Go.callS0 (pc' := 81) (W := 1) (argsL := [(.int v4), (.int v5)]) (rest := [(.int v3)]) (v0 := some (.int (f_c_max v4 v5))) (st2 := [(.int (f_c_max v4 v5)), (.int v3)]) at_78 rfl (hw _ w5) (hw _ w6) (hw _ w3) (hw _ w7) (by decide) (c_max hw v4 v5 rfl) (by decide) (by decide) rfl rfl rfl (by decide) (by decide) rfl pd__28II_29I rfl rfl (Nat.le_of_eq rfl) ?_
  refine Go.callS0 (pc' := 84) (W := 0) (argsL := [(.int v3), (.int (f_c_max v4 v5))]) (rest := []) (v0 := some (.int (f_c_max v3 (f_c_max v4 v5)))) (st2 := [(.int (f_c_max v3 (f_c_max v4 v5)))]) at_81 rfl (hw _ w5) (hw _ w6) (hw _ w3) (hw _ w7) (by decide) (c_max hw v3 (f_c_max v4 v5) rfl) (by decide) (by decide) rfl rfl rfl (by decide) (by decide) rfl pd__28II_29I rfl rfl (Nat.le_of_eq rfl) ?_
  generalize hv_v7 : (f_c_max v3 (f_c_max v4 v5)) = v7
  refine Go.istore (pc' := 86) at_84 rfl (Ls' := #[.val (.int a), .val (.int b), .val (.int d), .val (.int e), .val (.int f), .val (.int g), .val (.int v1), .val (.int v2), .val (.int low), .val (.int high), .val (.int v3), .val (.int v4), .val (.int v5), .val (.int v6), .val (.int v7), .unset, .unset, .unset, .unset, .unset, .unset, .unset, .unset, .unset, .unset]) rfl ?_
  refine Go.iload (pc' := 88) at_86 rfl rfl ?_
  refine Go.iload (pc' := 90) at_88 rfl rfl ?_
  refine Go.callS0 (pc' := 93) (W := 0) (argsL := [(.int v3), (.int v4)]) (rest := []) (v0 := some (.int (f_c_min v3 v4))) (st2 := [(.int (f_c_min v3 v4))]) at_90 rfl (hw _ w1) (hw _ w2) (hw _ w3) (hw _ w4) (by decide) (c_min hw v3 v4 rfl) (by decide) (by decide) rfl rfl rfl (by decide) (by decide) rfl pd__28II_29I rfl rfl (Nat.le_of_eq rfl) ?_
  refine Go.iload (pc' := 95) at_93 rfl rfl ?_
  refine Go.iload (pc' := 97) at_95 rfl rfl ?_
  refine Go.callS0 (pc' := 100) (W := 1) (argsL := [(.int v3), (.int v4)]) (rest := [(.int (f_c_min v3 v4))]) (v0 := some (.int (f_c_max v3 v4))) (st2 := [(.int (f_c_max v3 v4)), (.int (f_c_min v3 v4))]) at_97 rfl (hw _ w5) (hw _ w6) (hw _ w3) (hw _ w7) (by decide) (c_max hw v3 v4 rfl) (by decide) (by decide) rfl rfl rfl (by decide) (by decide) rfl pd__28II_29I rfl rfl (Nat.le_of_eq rfl) ?_
  refine Go.iload (pc' := 102) at_100 rfl rfl ?_
  refine Go.callS0 (pc' := 105) (W := 1) (argsL := [(.int (f_c_max v3 v4)), (.int v5)]) (rest := [(.int (f_c_min v3 v4))]) (v0 := some (.int (f_c_min (f_c_max v3 v4) v5))) (st2 := [(.int (f_c_min (f_c_max v3 v4) v5)), (.int (f_c_min v3 v4))]) at_102 rfl (hw _ w1) (hw _ w2) (hw _ w3) (hw _ w4) (by decide) (c_min hw (f_c_max v3 v4) v5 rfl) (by decide) (by decide) rfl rfl rfl (by decide) (by decide) rfl pd__28II_29I rfl rfl (Nat.le_of_eq rfl) ?_
  refine Go.callS0 (pc' := 108) (W := 0) (argsL := [(.int (f_c_min v3 v4)), (.int (f_c_min (f_c_max v3 v4) v5))]) (rest := []) (v0 := some (.int (f_c_max (f_c_min v3 v4) (f_c_min (f_c_max v3 v4) v5)))) (st2 := [(.int (f_c_max (f_c_min v3 v4) (f_c_min (f_c_max v3 v4) v5)))]) at_105 rfl (hw _ w5) (hw _ w6) (hw _ w3) (hw _ w7) (by decide) (c_max hw (f_c_min v3 v4) (f_c_min (f_c_max v3 v4) v5) rfl) (by decide) (by decide) rfl rfl rfl (by decide) (by decide) rfl pd__28II_29I rfl rfl (Nat.le_of_eq rfl) ?_
  generalize hv_v8 : (f_c_max (f_c_min v3 v4) (f_c_min (f_c_max v3 v4) v5)) = v8
  refine Go.istore (pc' := 110) at_108 rfl (Ls' := #[.val (.int a), .val (.int b), .val (.int d), .val (.int e), .val (.int f), .val (.int g), .val (.int v1), .val (.int v2), .val (.int low), .val (.int high), .val (.int v3), .val (.int v4), .val (.int v5), .val (.int v6), .val (.int v7), .val (.int v8), .unset, .unset, .unset, .unset, .unset, .unset, .unset, .unset, .unset]) rfl ?_
  refine Go.iconst (pc' := 111) at_110 rfl (z := (1 : Int32)) (by decide) ?_
  refine Go.iload (pc' := 113) at_111 rfl rfl ?_
  refine Go.callS0 (pc' := 116) (W := 0) (argsL := [(.int (1 : Int32)), (.int v6)]) (rest := []) (v0 := some (.int (f_c_max (1 : Int32) v6))) (st2 := [(.int (f_c_max (1 : Int32) v6))]) at_113 rfl (hw _ w5) (hw _ w6) (hw _ w3) (hw _ w7) (by decide) (c_max hw (1 : Int32) v6 rfl) (by decide) (by decide) rfl rfl rfl (by decide) (by decide) rfl pd__28II_29I rfl rfl (Nat.le_of_eq rfl) ?_
  generalize hv_s1 : (f_c_max (1 : Int32) v6) = s1
  refine Go.istore (pc' := 118) at_116 rfl (Ls' := #[.val (.int a), .val (.int b), .val (.int d), .val (.int e), .val (.int f), .val (.int g), .val (.int v1), .val (.int v2), .val (.int low), .val (.int high), .val (.int v3), .val (.int v4), .val (.int v5), .val (.int v6), .val (.int v7), .val (.int v8), .val (.int s1), .unset, .unset, .unset, .unset, .unset, .unset, .unset, .unset]) rfl ?_
  have h_s1 : 1 ≤ s1.toInt := by rw [← hv_s1]; refine Int.le_trans ?_ (own_max _ _); omega
  refine Go.iload (pc' := 120) at_118 rfl rfl ?_
  refine Go.iload (pc' := 122) at_120 rfl rfl ?_
  refine Go.callS0 (pc' := 125) (W := 0) (argsL := [(.int s1), (.int v8)]) (rest := []) (v0 := some (.int (f_c_max s1 v8))) (st2 := [(.int (f_c_max s1 v8))]) at_122 rfl (hw _ w5) (hw _ w6) (hw _ w3) (hw _ w7) (by decide) (c_max hw s1 v8 rfl) (by decide) (by decide) rfl rfl rfl (by decide) (by decide) rfl pd__28II_29I rfl rfl (Nat.le_of_eq rfl) ?_
  generalize hv_s2 : (f_c_max s1 v8) = s2
  refine Go.istore (pc' := 127) at_125 rfl (Ls' := #[.val (.int a), .val (.int b), .val (.int d), .val (.int e), .val (.int f), .val (.int g), .val (.int v1), .val (.int v2), .val (.int low), .val (.int high), .val (.int v3), .val (.int v4), .val (.int v5), .val (.int v6), .val (.int v7), .val (.int v8), .val (.int s1), .val (.int s2), .unset, .unset, .unset, .unset, .unset, .unset, .unset]) rfl ?_
  have h_s2 : s1.toInt ≤ s2.toInt := by rw [← hv_s2]; refine Int.le_trans ?_ (own_max _ _); omega
  refine Go.iload (pc' := 129) at_127 rfl rfl ?_
  refine Go.iload (pc' := 131) at_129 rfl rfl ?_
  refine Go.callS0 (pc' := 134) (W := 0) (argsL := [(.int s2), (.int v7)]) (rest := []) (v0 := some (.int (f_c_max s2 v7))) (st2 := [(.int (f_c_max s2 v7))]) at_131 rfl (hw _ w5) (hw _ w6) (hw _ w3) (hw _ w7) (by decide) (c_max hw s2 v7 rfl) (by decide) (by decide) rfl rfl rfl (by decide) (by decide) rfl pd__28II_29I rfl rfl (Nat.le_of_eq rfl) ?_
  generalize hv_s3 : (f_c_max s2 v7) = s3
  refine Go.istore (pc' := 136) at_134 rfl (Ls' := #[.val (.int a), .val (.int b), .val (.int d), .val (.int e), .val (.int f), .val (.int g), .val (.int v1), .val (.int v2), .val (.int low), .val (.int high), .val (.int v3), .val (.int v4), .val (.int v5), .val (.int v6), .val (.int v7), .val (.int v8), .val (.int s1), .val (.int s2), .val (.int s3), .unset, .unset, .unset, .unset, .unset, .unset]) rfl ?_
  have h_s3 : s2.toInt ≤ s3.toInt := by rw [← hv_s3]; refine Int.le_trans ?_ (own_max _ _); omega
  refine Go.iload (pc' := 138) at_136 rfl rfl ?_
  refine Go.iconst (pc' := 139) at_138 rfl (z := (1 : Int32)) (by decide) ?_
  refine Go.iand (pc' := 140) at_139 rfl rfl ?_
  by_cases hc9 : (g &&& (1 : Int32)).toInt = (0 : Int)
  · refine Go.ifT (pc' := 147) (X := (g &&& (1 : Int32)).toInt) at_140 (by decide) rfl (hc9 : (g &&& (1 : Int32)).toInt = 0) ?_
    refine Go.iconst (pc' := 148) at_147 rfl (z := (0 : Int32)) (by decide) ?_
    refine Go.istore (pc' := 150) at_148 rfl (Ls' := #[.val (.int a), .val (.int b), .val (.int d), .val (.int e), .val (.int f), .val (.int g), .val (.int v1), .val (.int v2), .val (.int low), .val (.int high), .val (.int v3), .val (.int v4), .val (.int v5), .val (.int v6), .val (.int v7), .val (.int v8), .val (.int s1), .val (.int s2), .val (.int s3), .val (.int (0 : Int32)), .unset, .unset, .unset, .unset, .unset]) rfl ?_
    refine Go.newO (pc' := 153) (k' := 1) (n' := 5) at_150 rfl (hw _ w8) (hw _ w9) (hw _ w10) (by decide) (by decide) rfl rfl ?_
    intro h10 obj ha_obj X10 E_obj D10
    have gn_obj : n0 ≤ obj := by rw [ha_obj]; exact sz0
    replace sz0 : n0 ≤ h10.size := Nat.le_trans sz0 X10.1
    have F_obj_writeLowWaterMark : Fld Z h10 obj "com/example/argus/argus/ChannelOptions" "writeLowWaterMark" "I" (.int (0 : Int32)) := D10 (Or.inr (hw _ w23)) (ty := .int) (by decide)
    have F_obj_writeHighWaterMark : Fld Z h10 obj "com/example/argus/argus/ChannelOptions" "writeHighWaterMark" "I" (.int (0 : Int32)) := D10 (Or.inr (hw _ w25)) (ty := .int) (by decide)
    have F_obj_minimumReadSize : Fld Z h10 obj "com/example/argus/argus/ChannelOptions" "minimumReadSize" "I" (.int (0 : Int32)) := D10 (Or.inr (hw _ w27)) (ty := .int) (by decide)
    have F_obj_initialReadSize : Fld Z h10 obj "com/example/argus/argus/ChannelOptions" "initialReadSize" "I" (.int (0 : Int32)) := D10 (Or.inr (hw _ w29)) (ty := .int) (by decide)
    have F_obj_maximumReadSize : Fld Z h10 obj "com/example/argus/argus/ChannelOptions" "maximumReadSize" "I" (.int (0 : Int32)) := D10 (Or.inr (hw _ w31)) (ty := .int) (by decide)
    refine Go.dup (pc' := 154) at_153 rfl rfl ?_
    refine Go.callI (pc' := 157) (W := 1) (a := obj) (argsL := []) (rest := [(.ref obj)]) (k' := 1) (n' := 5) at_154 rfl rfl (hw _ w11) (hw _ w12) (hw _ w10) (hw _ w13) (by decide) (c_init0 hw sz0 obj gn_obj E_obj F_obj_writeLowWaterMark F_obj_writeHighWaterMark F_obj_minimumReadSize F_obj_initialReadSize F_obj_maximumReadSize) (by decide) (by decide) (by decide) (by decide) rfl rfl rfl pd__28_29V rfl rfl (Nat.le_of_eq rfl) ?_
    intro v11 h11 P11 L11 NL11 hq11
    obtain ⟨rfl, N11, K11, E_obj_11, F_obj_writeLowWaterMark_11, F_obj_writeHighWaterMark_11, F_obj_minimumReadSize_11, F_obj_initialReadSize_11, F_obj_maximumReadSize_11⟩ := hq11
    dsimp only [Option.toList, List.cons_append, List.nil_append]
    replace N0 := NL11 _ N0 N11
    replace sz0 : n0 ≤ h11.size := Nat.le_trans sz0 K11.1
    clear E_obj
    clear F_obj_writeLowWaterMark
    clear F_obj_writeHighWaterMark
    clear F_obj_minimumReadSize
    clear F_obj_initialReadSize
    clear F_obj_maximumReadSize
    have E_obj := E_obj_11; clear E_obj_11
    have F_obj_writeLowWaterMark := F_obj_writeLowWaterMark_11; clear F_obj_writeLowWaterMark_11
    have F_obj_writeHighWaterMark := F_obj_writeHighWaterMark_11; clear F_obj_writeHighWaterMark_11
    have F_obj_minimumReadSize := F_obj_minimumReadSize_11; clear F_obj_minimumReadSize_11
    have F_obj_initialReadSize := F_obj_initialReadSize_11; clear F_obj_initialReadSize_11
    have F_obj_maximumReadSize := F_obj_maximumReadSize_11; clear F_obj_maximumReadSize_11
    refine Go.astore (pc' := 159) at_157 rfl rfl (Ls' := #[.val (.int a), .val (.int b), .val (.int d), .val (.int e), .val (.int f), .val (.int g), .val (.int v1), .val (.int v2), .val (.int low), .val (.int high), .val (.int v3), .val (.int v4), .val (.int v5), .val (.int v6), .val (.int v7), .val (.int v8), .val (.int s1), .val (.int s2), .val (.int s3), .val (.int (0 : Int32)), .val (.ref obj), .unset, .unset, .unset, .unset]) rfl ?_
    refine Go.bipush (pc' := 161) at_159 rfl (z := (64 : Int32)) (by decide) ?_
    refine Go.istore (pc' := 163) at_161 rfl (Ls' := #[.val (.int a), .val (.int b), .val (.int d), .val (.int e), .val (.int f), .val (.int g), .val (.int v1), .val (.int v2), .val (.int low), .val (.int high), .val (.int v3), .val (.int v4), .val (.int v5), .val (.int v6), .val (.int v7), .val (.int v8), .val (.int s1), .val (.int s2), .val (.int s3), .val (.int (0 : Int32)), .val (.ref obj), .val (.int (64 : Int32)), .unset, .unset, .unset]) rfl ?_
    refine Go.sipush (pc' := 166) at_163 rfl (z := (1024 : Int32)) (by decide) ?_
    refine Go.istore (pc' := 168) at_166 rfl (Ls' := #[.val (.int a), .val (.int b), .val (.int d), .val (.int e), .val (.int f), .val (.int g), .val (.int v1), .val (.int v2), .val (.int low), .val (.int high), .val (.int v3), .val (.int v4), .val (.int v5), .val (.int v6), .val (.int v7), .val (.int v8), .val (.int s1), .val (.int s2), .val (.int s3), .val (.int (0 : Int32)), .val (.ref obj), .val (.int (64 : Int32)), .val (.int (1024 : Int32)), .unset, .unset]) rfl ?_
    refine Go.ldcI (pc' := 170) at_168 rfl (hw _ w32) ?_
    refine Go.istore (pc' := 172) at_170 rfl (Ls' := #[.val (.int a), .val (.int b), .val (.int d), .val (.int e), .val (.int f), .val (.int g), .val (.int v1), .val (.int v2), .val (.int low), .val (.int high), .val (.int v3), .val (.int v4), .val (.int v5), .val (.int v6), .val (.int v7), .val (.int v8), .val (.int s1), .val (.int s2), .val (.int s3), .val (.int (0 : Int32)), .val (.ref obj), .val (.int (64 : Int32)), .val (.int (1024 : Int32)), .val (.int (65536 : Int32)), .unset]) rfl ?_
    refine Go.iload (pc' := 174) at_172 rfl rfl ?_
    refine Go.ifF (pc' := 177) (X := (0 : Int)) at_174 rfl (by decide) (by decide : (0 : Int) = 0) ?_
    refine Go.aload (pc' := 179) at_177 rfl rfl rfl ?_
    refine Go.iload (pc' := 181) at_179 rfl rfl ?_
    refine Go.iload (pc' := 183) at_181 rfl rfl ?_
    refine Go.iload (pc' := 185) at_183 rfl rfl ?_
    refine Go.callV (pc' := 188) (W := 0) (a := obj) (argsL := [(.int s1), (.int s2), (.int s3)]) (rest := []) (k' := 2) (n' := 10) at_185 rfl (hw _ w69) (hw _ w70) (nf_sel (hw _ w72)) (hw _ w72) (hw _ w71) (hw _ w10) (hw _ w73) E_obj (by decide) (c_wr hw sz0 obj s1 s2 s3 (32768 : Int32) (65536 : Int32) (64 : Int32) (1024 : Int32) (65536 : Int32) E_obj F_obj_writeLowWaterMark F_obj_writeHighWaterMark F_obj_minimumReadSize F_obj_initialReadSize F_obj_maximumReadSize (by omega) (by omega) (by omega)) (by decide) (by decide) (by decide) (by decide) rfl rfl rfl pd__28III_29Lcom_2fexample_2fargus_2fargus_2fChannelOptions_3b rfl rfl (Nat.le_of_eq rfl) ?_
    intro v12 h12 P12 L12 NL12 hq12
    obtain ⟨base, rfl, ge_base, N12, K12, E_base_12, F_base_writeLowWaterMark_12, F_base_writeHighWaterMark_12, F_base_minimumReadSize_12, F_base_initialReadSize_12, F_base_maximumReadSize_12⟩ := hq12
    dsimp only [Option.toList, List.cons_append, List.nil_append]
    have ne_obj_base : obj ≠ base := Nat.ne_of_lt (Nat.lt_of_lt_of_le E_obj.lt ge_base)
    have gn_base : n0 ≤ base := Nat.le_trans sz0 ge_base
    replace N0 := NL12 _ N0 N12
    replace sz0 : n0 ≤ h12.size := Nat.le_trans sz0 K12.1
    replace E_obj := E_obj.keep K12
    replace F_obj_writeLowWaterMark := F_obj_writeLowWaterMark.keep K12 nin0
    replace F_obj_writeHighWaterMark := F_obj_writeHighWaterMark.keep K12 nin0
    replace F_obj_minimumReadSize := F_obj_minimumReadSize.keep K12 nin0
    replace F_obj_initialReadSize := F_obj_initialReadSize.keep K12 nin0
    replace F_obj_maximumReadSize := F_obj_maximumReadSize.keep K12 nin0
    have E_base := E_base_12; clear E_base_12
    have F_base_writeLowWaterMark := F_base_writeLowWaterMark_12; clear F_base_writeLowWaterMark_12
    have F_base_writeHighWaterMark := F_base_writeHighWaterMark_12; clear F_base_writeHighWaterMark_12
    have F_base_minimumReadSize := F_base_minimumReadSize_12; clear F_base_minimumReadSize_12
    have F_base_initialReadSize := F_base_initialReadSize_12; clear F_base_initialReadSize_12
    have F_base_maximumReadSize := F_base_maximumReadSize_12; clear F_base_maximumReadSize_12
    refine Go.astore (pc' := 190) at_188 rfl rfl (Ls' := #[.val (.int a), .val (.int b), .val (.int d), .val (.int e), .val (.int f), .val (.int g), .val (.int v1), .val (.int v2), .val (.int low), .val (.int high), .val (.int v3), .val (.int v4), .val (.int v5), .val (.int v6), .val (.int v7), .val (.int v8), .val (.int s1), .val (.int s2), .val (.int s3), .val (.int (0 : Int32)), .val (.ref base), .val (.int (64 : Int32)), .val (.int (1024 : Int32)), .val (.int (65536 : Int32)), .unset]) rfl ?_
    refine Go.iload (pc' := 192) at_190 rfl rfl ?_
    refine Go.istore (pc' := 194) at_192 rfl (Ls' := #[.val (.int a), .val (.int b), .val (.int d), .val (.int e), .val (.int f), .val (.int g), .val (.int v1), .val (.int v2), .val (.int low), .val (.int high), .val (.int v3), .val (.int v4), .val (.int v5), .val (.int v6), .val (.int v7), .val (.int v8), .val (.int s1), .val (.int s2), .val (.int s3), .val (.int (0 : Int32)), .val (.ref base), .val (.int s1), .val (.int (1024 : Int32)), .val (.int (65536 : Int32)), .unset]) rfl ?_
    refine Go.iload (pc' := 196) at_194 rfl rfl ?_
    refine Go.istore (pc' := 198) at_196 rfl (Ls' := #[.val (.int a), .val (.int b), .val (.int d), .val (.int e), .val (.int f), .val (.int g), .val (.int v1), .val (.int v2), .val (.int low), .val (.int high), .val (.int v3), .val (.int v4), .val (.int v5), .val (.int v6), .val (.int v7), .val (.int v8), .val (.int s1), .val (.int s2), .val (.int s3), .val (.int (0 : Int32)), .val (.ref base), .val (.int s1), .val (.int s2), .val (.int (65536 : Int32)), .unset]) rfl ?_
    refine Go.iload (pc' := 200) at_198 rfl rfl ?_
    refine Go.istore (pc' := 202) at_200 rfl (Ls' := #[.val (.int a), .val (.int b), .val (.int d), .val (.int e), .val (.int f), .val (.int g), .val (.int v1), .val (.int v2), .val (.int low), .val (.int high), .val (.int v3), .val (.int v4), .val (.int v5), .val (.int v6), .val (.int v7), .val (.int v8), .val (.int s1), .val (.int s2), .val (.int s3), .val (.int (0 : Int32)), .val (.ref base), .val (.int s1), .val (.int s2), .val (.int s3), .unset]) rfl ?_
    refine Go.aload (pc' := 204) at_202 rfl rfl rfl ?_
    refine Go.iload (pc' := 206) at_204 rfl rfl ?_
    refine Go.iload (pc' := 208) at_206 rfl rfl ?_
    refine Go.callV (pc' := 211) (W := 0) (a := base) (argsL := [(.int low), (.int high)]) (rest := []) (k' := 3) (n' := 15) at_208 rfl (hw _ w33) (hw _ w34) (nf_sel (hw _ w36)) (hw _ w36) (hw _ w35) (hw _ w10) (hw _ w37) E_base (by decide) (c_ww hw sz0 base low high (32768 : Int32) (65536 : Int32) s1 s2 s3 E_base F_base_writeLowWaterMark F_base_writeHighWaterMark F_base_minimumReadSize F_base_initialReadSize F_base_maximumReadSize (by omega) (by omega)) (by decide) (by decide) (by decide) (by decide) rfl rfl rfl pd__28II_29Lcom_2fexample_2fargus_2fargus_2fChannelOptions_3b rfl rfl (Nat.le_of_eq rfl) ?_
    intro v13 h13 P13 L13 NL13 hq13
    obtain ⟨outp, rfl, ge_outp, N13, K13, E_outp_13, F_outp_writeLowWaterMark_13, F_outp_writeHighWaterMark_13, F_outp_minimumReadSize_13, F_outp_initialReadSize_13, F_outp_maximumReadSize_13⟩ := hq13
    dsimp only [Option.toList, List.cons_append, List.nil_append]
    have ne_base_outp : base ≠ outp := Nat.ne_of_lt (Nat.lt_of_lt_of_le E_base.lt ge_outp)
    have ne_obj_outp : obj ≠ outp := Nat.ne_of_lt (Nat.lt_of_lt_of_le E_obj.lt ge_outp)
    have gn_outp : n0 ≤ outp := Nat.le_trans sz0 ge_outp
    replace N0 := NL13 _ N0 N13
    replace sz0 : n0 ≤ h13.size := Nat.le_trans sz0 K13.1
    replace E_obj := E_obj.keep K13
    replace E_base := E_base.keep K13
    replace F_obj_writeLowWaterMark := F_obj_writeLowWaterMark.keep K13 nin0
    replace F_obj_writeHighWaterMark := F_obj_writeHighWaterMark.keep K13 nin0
    replace F_obj_minimumReadSize := F_obj_minimumReadSize.keep K13 nin0
    replace F_obj_initialReadSize := F_obj_initialReadSize.keep K13 nin0
    replace F_obj_maximumReadSize := F_obj_maximumReadSize.keep K13 nin0
    replace F_base_writeLowWaterMark := F_base_writeLowWaterMark.keep K13 nin0
    replace F_base_writeHighWaterMark := F_base_writeHighWaterMark.keep K13 nin0
    replace F_base_minimumReadSize := F_base_minimumReadSize.keep K13 nin0
    replace F_base_initialReadSize := F_base_initialReadSize.keep K13 nin0
    replace F_base_maximumReadSize := F_base_maximumReadSize.keep K13 nin0
    have E_outp := E_outp_13; clear E_outp_13
    have F_outp_writeLowWaterMark := F_outp_writeLowWaterMark_13; clear F_outp_writeLowWaterMark_13
    have F_outp_writeHighWaterMark := F_outp_writeHighWaterMark_13; clear F_outp_writeHighWaterMark_13
    have F_outp_minimumReadSize := F_outp_minimumReadSize_13; clear F_outp_minimumReadSize_13
    have F_outp_initialReadSize := F_outp_initialReadSize_13; clear F_outp_initialReadSize_13
    have F_outp_maximumReadSize := F_outp_maximumReadSize_13; clear F_outp_maximumReadSize_13
    refine Go.astore (pc' := 213) at_211 rfl rfl (Ls' := #[.val (.int a), .val (.int b), .val (.int d), .val (.int e), .val (.int f), .val (.int g), .val (.int v1), .val (.int v2), .val (.int low), .val (.int high), .val (.int v3), .val (.int v4), .val (.int v5), .val (.int v6), .val (.int v7), .val (.int v8), .val (.int s1), .val (.int s2), .val (.int s3), .val (.int (0 : Int32)), .val (.ref base), .val (.int s1), .val (.int s2), .val (.int s3), .val (.ref outp)]) rfl ?_
    refine Go.aload (pc' := 215) at_213 rfl rfl rfl ?_
    refine Go.aload (pc' := 217) at_215 rfl rfl rfl ?_
    refine Go.acmp (pc' := 220) (same := false) at_217 rfl rfl (decide_eq_false fun q => (Ne.symm ne_base_outp) (Value.ref.inj q)) (by decide) (by decide) ?_
    refine Go.aload (pc' := 222) at_220 rfl rfl rfl ?_
    refine Go.callV0 (pc' := 225) (W := 0) (a := outp) (argsL := []) (rest := []) (v0 := some (.int low)) (st2 := [(.int low)]) at_222 rfl (hw _ w43) (hw _ w44) (nf_sel (hw _ w46)) (hw _ w46) (hw _ w45) (hw _ w10) (hw _ w47) E_outp (by decide) (c_g0 hw outp low high s1 s2 s3 E_outp F_outp_writeLowWaterMark F_outp_writeHighWaterMark F_outp_minimumReadSize F_outp_initialReadSize F_outp_maximumReadSize) (by decide) (by decide) rfl rfl rfl (by decide) (by decide) rfl pd__28_29I rfl rfl (Nat.le_of_eq rfl) ?_
    refine Go.iload (pc' := 227) at_225 rfl rfl ?_
    refine Go.icmpF (pc' := 230) (X := low.toInt) (Y := low.toInt) at_227 rfl rfl rfl (rfl : low.toInt = low.toInt) ?_
    refine Go.aload (pc' := 232) at_230 rfl rfl rfl ?_
    refine Go.callV0 (pc' := 235) (W := 0) (a := outp) (argsL := []) (rest := []) (v0 := some (.int high)) (st2 := [(.int high)]) at_232 rfl (hw _ w48) (hw _ w49) (nf_sel (hw _ w51)) (hw _ w51) (hw _ w50) (hw _ w10) (hw _ w52) E_outp (by decide) (c_g1 hw outp low high s1 s2 s3 E_outp F_outp_writeLowWaterMark F_outp_writeHighWaterMark F_outp_minimumReadSize F_outp_initialReadSize F_outp_maximumReadSize) (by decide) (by decide) rfl rfl rfl (by decide) (by decide) rfl pd__28_29I rfl rfl (Nat.le_of_eq rfl) ?_
    refine Go.iload (pc' := 237) at_235 rfl rfl ?_
    refine Go.icmpF (pc' := 240) (X := high.toInt) (Y := high.toInt) at_237 rfl rfl rfl (rfl : high.toInt = high.toInt) ?_
    refine Go.aload (pc' := 242) at_240 rfl rfl rfl ?_
    refine Go.callV0 (pc' := 245) (W := 0) (a := outp) (argsL := []) (rest := []) (v0 := some (.int s1)) (st2 := [(.int s1)]) at_242 rfl (hw _ w53) (hw _ w54) (nf_sel (hw _ w56)) (hw _ w56) (hw _ w55) (hw _ w10) (hw _ w57) E_outp (by decide) (c_g2 hw outp low high s1 s2 s3 E_outp F_outp_writeLowWaterMark F_outp_writeHighWaterMark F_outp_minimumReadSize F_outp_initialReadSize F_outp_maximumReadSize) (by decide) (by decide) rfl rfl rfl (by decide) (by decide) rfl pd__28_29I rfl rfl (Nat.le_of_eq rfl) ?_
    refine Go.iload (pc' := 247) at_245 rfl rfl ?_
    refine Go.icmpF (pc' := 250) (X := s1.toInt) (Y := s1.toInt) at_247 rfl rfl rfl (rfl : s1.toInt = s1.toInt) ?_
    refine Go.aload (pc' := 252) at_250 rfl rfl rfl ?_
    refine Go.callV0 (pc' := 255) (W := 0) (a := outp) (argsL := []) (rest := []) (v0 := some (.int s2)) (st2 := [(.int s2)]) at_252 rfl (hw _ w58) (hw _ w59) (nf_sel (hw _ w61)) (hw _ w61) (hw _ w60) (hw _ w10) (hw _ w62) E_outp (by decide) (c_g3 hw outp low high s1 s2 s3 E_outp F_outp_writeLowWaterMark F_outp_writeHighWaterMark F_outp_minimumReadSize F_outp_initialReadSize F_outp_maximumReadSize) (by decide) (by decide) rfl rfl rfl (by decide) (by decide) rfl pd__28_29I rfl rfl (Nat.le_of_eq rfl) ?_
    refine Go.iload (pc' := 257) at_255 rfl rfl ?_
    refine Go.icmpF (pc' := 260) (X := s2.toInt) (Y := s2.toInt) at_257 rfl rfl rfl (rfl : s2.toInt = s2.toInt) ?_
    refine Go.aload (pc' := 262) at_260 rfl rfl rfl ?_
    refine Go.callV0 (pc' := 265) (W := 0) (a := outp) (argsL := []) (rest := []) (v0 := some (.int s3)) (st2 := [(.int s3)]) at_262 rfl (hw _ w63) (hw _ w64) (nf_sel (hw _ w66)) (hw _ w66) (hw _ w65) (hw _ w10) (hw _ w67) E_outp (by decide) (c_g4 hw outp low high s1 s2 s3 E_outp F_outp_writeLowWaterMark F_outp_writeHighWaterMark F_outp_minimumReadSize F_outp_initialReadSize F_outp_maximumReadSize) (by decide) (by decide) rfl rfl rfl (by decide) (by decide) rfl pd__28_29I rfl rfl (Nat.le_of_eq rfl) ?_
    refine Go.iload (pc' := 267) at_265 rfl rfl ?_
    refine Go.icmpF (pc' := 270) (X := s3.toInt) (Y := s3.toInt) at_267 rfl rfl rfl (rfl : s3.toInt = s3.toInt) ?_
    refine Go.aload (pc' := 272) at_270 rfl rfl rfl ?_
    refine Go.callV0 (pc' := 275) (W := 0) (a := base) (argsL := []) (rest := []) (v0 := some (.int (32768 : Int32))) (st2 := [(.int (32768 : Int32))]) at_272 rfl (hw _ w43) (hw _ w44) (nf_sel (hw _ w46)) (hw _ w46) (hw _ w45) (hw _ w10) (hw _ w47) E_base (by decide) (c_g0 hw base (32768 : Int32) (65536 : Int32) s1 s2 s3 E_base F_base_writeLowWaterMark F_base_writeHighWaterMark F_base_minimumReadSize F_base_initialReadSize F_base_maximumReadSize) (by decide) (by decide) rfl rfl rfl (by decide) (by decide) rfl pd__28_29I rfl rfl (Nat.le_of_eq rfl) ?_
    refine Go.ldcI (pc' := 277) at_275 rfl (hw _ w68) ?_
    refine Go.icmpF (pc' := 280) (X := (32768 : Int)) (Y := (32768 : Int)) at_277 rfl (by decide) (by decide) (by decide : (32768 : Int) = (32768 : Int)) ?_
    refine Go.aload (pc' := 282) at_280 rfl rfl rfl ?_
    refine Go.callV0 (pc' := 285) (W := 0) (a := base) (argsL := []) (rest := []) (v0 := some (.int (65536 : Int32))) (st2 := [(.int (65536 : Int32))]) at_282 rfl (hw _ w48) (hw _ w49) (nf_sel (hw _ w51)) (hw _ w51) (hw _ w50) (hw _ w10) (hw _ w52) E_base (by decide) (c_g1 hw base (32768 : Int32) (65536 : Int32) s1 s2 s3 E_base F_base_writeLowWaterMark F_base_writeHighWaterMark F_base_minimumReadSize F_base_initialReadSize F_base_maximumReadSize) (by decide) (by decide) rfl rfl rfl (by decide) (by decide) rfl pd__28_29I rfl rfl (Nat.le_of_eq rfl) ?_
    refine Go.ldcI (pc' := 287) at_285 rfl (hw _ w32) ?_
    refine Go.icmpF (pc' := 290) (X := (65536 : Int)) (Y := (65536 : Int)) at_287 rfl (by decide) (by decide) (by decide : (65536 : Int) = (65536 : Int)) ?_
    refine Go.iconst (pc' := 291) at_290 rfl (z := (1 : Int32)) (by decide) ?_
    refine Go.goto (pc' := 295) at_291 (by decide) ?_
    refine Go.retZ at_295 rfl (by decide) (by decide) (by decide) ?_
    exact ⟨rfl, N0⟩
  · refine Go.ifF (pc' := 143) (X := (g &&& (1 : Int32)).toInt) at_140 rfl rfl (hc9 : ¬ (g &&& (1 : Int32)).toInt = 0) ?_
    refine Go.iconst (pc' := 144) at_143 rfl (z := (1 : Int32)) (by decide) ?_
    refine Go.goto (pc' := 148) at_144 (by decide) ?_
    refine Go.istore (pc' := 150) at_148 rfl (Ls' := #[.val (.int a), .val (.int b), .val (.int d), .val (.int e), .val (.int f), .val (.int g), .val (.int v1), .val (.int v2), .val (.int low), .val (.int high), .val (.int v3), .val (.int v4), .val (.int v5), .val (.int v6), .val (.int v7), .val (.int v8), .val (.int s1), .val (.int s2), .val (.int s3), .val (.int (1 : Int32)), .unset, .unset, .unset, .unset, .unset]) rfl ?_
    refine Go.newO (pc' := 153) (k' := 1) (n' := 5) at_150 rfl (hw _ w8) (hw _ w9) (hw _ w10) (by decide) (by decide) rfl rfl ?_
    intro h14 obj ha_obj X14 E_obj D14
    have gn_obj : n0 ≤ obj := by rw [ha_obj]; exact sz0
    replace sz0 : n0 ≤ h14.size := Nat.le_trans sz0 X14.1
    have F_obj_writeLowWaterMark : Fld Z h14 obj "com/example/argus/argus/ChannelOptions" "writeLowWaterMark" "I" (.int (0 : Int32)) := D14 (Or.inr (hw _ w23)) (ty := .int) (by decide)
    have F_obj_writeHighWaterMark : Fld Z h14 obj "com/example/argus/argus/ChannelOptions" "writeHighWaterMark" "I" (.int (0 : Int32)) := D14 (Or.inr (hw _ w25)) (ty := .int) (by decide)
    have F_obj_minimumReadSize : Fld Z h14 obj "com/example/argus/argus/ChannelOptions" "minimumReadSize" "I" (.int (0 : Int32)) := D14 (Or.inr (hw _ w27)) (ty := .int) (by decide)
    have F_obj_initialReadSize : Fld Z h14 obj "com/example/argus/argus/ChannelOptions" "initialReadSize" "I" (.int (0 : Int32)) := D14 (Or.inr (hw _ w29)) (ty := .int) (by decide)
    have F_obj_maximumReadSize : Fld Z h14 obj "com/example/argus/argus/ChannelOptions" "maximumReadSize" "I" (.int (0 : Int32)) := D14 (Or.inr (hw _ w31)) (ty := .int) (by decide)
    refine Go.dup (pc' := 154) at_153 rfl rfl ?_
    refine Go.callI (pc' := 157) (W := 1) (a := obj) (argsL := []) (rest := [(.ref obj)]) (k' := 1) (n' := 5) at_154 rfl rfl (hw _ w11) (hw _ w12) (hw _ w10) (hw _ w13) (by decide) (c_init0 hw sz0 obj gn_obj E_obj F_obj_writeLowWaterMark F_obj_writeHighWaterMark F_obj_minimumReadSize F_obj_initialReadSize F_obj_maximumReadSize) (by decide) (by decide) (by decide) (by decide) rfl rfl rfl pd__28_29V rfl rfl (Nat.le_of_eq rfl) ?_
    intro v15 h15 P15 L15 NL15 hq15
    obtain ⟨rfl, N15, K15, E_obj_15, F_obj_writeLowWaterMark_15, F_obj_writeHighWaterMark_15, F_obj_minimumReadSize_15, F_obj_initialReadSize_15, F_obj_maximumReadSize_15⟩ := hq15
    dsimp only [Option.toList, List.cons_append, List.nil_append]
    replace N0 := NL15 _ N0 N15
    replace sz0 : n0 ≤ h15.size := Nat.le_trans sz0 K15.1
    clear E_obj
    clear F_obj_writeLowWaterMark
    clear F_obj_writeHighWaterMark
    clear F_obj_minimumReadSize
    clear F_obj_initialReadSize
    clear F_obj_maximumReadSize
    have E_obj := E_obj_15; clear E_obj_15
    have F_obj_writeLowWaterMark := F_obj_writeLowWaterMark_15; clear F_obj_writeLowWaterMark_15
    have F_obj_writeHighWaterMark := F_obj_writeHighWaterMark_15; clear F_obj_writeHighWaterMark_15
    have F_obj_minimumReadSize := F_obj_minimumReadSize_15; clear F_obj_minimumReadSize_15
    have F_obj_initialReadSize := F_obj_initialReadSize_15; clear F_obj_initialReadSize_15
    have F_obj_maximumReadSize := F_obj_maximumReadSize_15; clear F_obj_maximumReadSize_15
    refine Go.astore (pc' := 159) at_157 rfl rfl (Ls' := #[.val (.int a), .val (.int b), .val (.int d), .val (.int e), .val (.int f), .val (.int g), .val (.int v1), .val (.int v2), .val (.int low), .val (.int high), .val (.int v3), .val (.int v4), .val (.int v5), .val (.int v6), .val (.int v7), .val (.int v8), .val (.int s1), .val (.int s2), .val (.int s3), .val (.int (1 : Int32)), .val (.ref obj), .unset, .unset, .unset, .unset]) rfl ?_
    refine Go.bipush (pc' := 161) at_159 rfl (z := (64 : Int32)) (by decide) ?_
    refine Go.istore (pc' := 163) at_161 rfl (Ls' := #[.val (.int a), .val (.int b), .val (.int d), .val (.int e), .val (.int f), .val (.int g), .val (.int v1), .val (.int v2), .val (.int low), .val (.int high), .val (.int v3), .val (.int v4), .val (.int v5), .val (.int v6), .val (.int v7), .val (.int v8), .val (.int s1), .val (.int s2), .val (.int s3), .val (.int (1 : Int32)), .val (.ref obj), .val (.int (64 : Int32)), .unset, .unset, .unset]) rfl ?_
    refine Go.sipush (pc' := 166) at_163 rfl (z := (1024 : Int32)) (by decide) ?_
    refine Go.istore (pc' := 168) at_166 rfl (Ls' := #[.val (.int a), .val (.int b), .val (.int d), .val (.int e), .val (.int f), .val (.int g), .val (.int v1), .val (.int v2), .val (.int low), .val (.int high), .val (.int v3), .val (.int v4), .val (.int v5), .val (.int v6), .val (.int v7), .val (.int v8), .val (.int s1), .val (.int s2), .val (.int s3), .val (.int (1 : Int32)), .val (.ref obj), .val (.int (64 : Int32)), .val (.int (1024 : Int32)), .unset, .unset]) rfl ?_
    refine Go.ldcI (pc' := 170) at_168 rfl (hw _ w32) ?_
    refine Go.istore (pc' := 172) at_170 rfl (Ls' := #[.val (.int a), .val (.int b), .val (.int d), .val (.int e), .val (.int f), .val (.int g), .val (.int v1), .val (.int v2), .val (.int low), .val (.int high), .val (.int v3), .val (.int v4), .val (.int v5), .val (.int v6), .val (.int v7), .val (.int v8), .val (.int s1), .val (.int s2), .val (.int s3), .val (.int (1 : Int32)), .val (.ref obj), .val (.int (64 : Int32)), .val (.int (1024 : Int32)), .val (.int (65536 : Int32)), .unset]) rfl ?_
    refine Go.iload (pc' := 174) at_172 rfl rfl ?_
    refine Go.ifT (pc' := 202) (X := (1 : Int)) at_174 (by decide) (by decide) (by decide : ¬ (1 : Int) = 0) ?_
    refine Go.aload (pc' := 204) at_202 rfl rfl rfl ?_
    refine Go.iload (pc' := 206) at_204 rfl rfl ?_
    refine Go.iload (pc' := 208) at_206 rfl rfl ?_
    refine Go.callV (pc' := 211) (W := 0) (a := obj) (argsL := [(.int low), (.int high)]) (rest := []) (k' := 2) (n' := 10) at_208 rfl (hw _ w33) (hw _ w34) (nf_sel (hw _ w36)) (hw _ w36) (hw _ w35) (hw _ w10) (hw _ w37) E_obj (by decide) (c_ww hw sz0 obj low high (32768 : Int32) (65536 : Int32) (64 : Int32) (1024 : Int32) (65536 : Int32) E_obj F_obj_writeLowWaterMark F_obj_writeHighWaterMark F_obj_minimumReadSize F_obj_initialReadSize F_obj_maximumReadSize (by omega) (by omega)) (by decide) (by decide) (by decide) (by decide) rfl rfl rfl pd__28II_29Lcom_2fexample_2fargus_2fargus_2fChannelOptions_3b rfl rfl (Nat.le_of_eq rfl) ?_
    intro v16 h16 P16 L16 NL16 hq16
    obtain ⟨outp, rfl, ge_outp, N16, K16, E_outp_16, F_outp_writeLowWaterMark_16, F_outp_writeHighWaterMark_16, F_outp_minimumReadSize_16, F_outp_initialReadSize_16, F_outp_maximumReadSize_16⟩ := hq16
    dsimp only [Option.toList, List.cons_append, List.nil_append]
    have ne_obj_outp : obj ≠ outp := Nat.ne_of_lt (Nat.lt_of_lt_of_le E_obj.lt ge_outp)
    have gn_outp : n0 ≤ outp := Nat.le_trans sz0 ge_outp
    replace N0 := NL16 _ N0 N16
    replace sz0 : n0 ≤ h16.size := Nat.le_trans sz0 K16.1
    replace E_obj := E_obj.keep K16
    replace F_obj_writeLowWaterMark := F_obj_writeLowWaterMark.keep K16 nin0
    replace F_obj_writeHighWaterMark := F_obj_writeHighWaterMark.keep K16 nin0
    replace F_obj_minimumReadSize := F_obj_minimumReadSize.keep K16 nin0
    replace F_obj_initialReadSize := F_obj_initialReadSize.keep K16 nin0
    replace F_obj_maximumReadSize := F_obj_maximumReadSize.keep K16 nin0
    have E_outp := E_outp_16; clear E_outp_16
    have F_outp_writeLowWaterMark := F_outp_writeLowWaterMark_16; clear F_outp_writeLowWaterMark_16
    have F_outp_writeHighWaterMark := F_outp_writeHighWaterMark_16; clear F_outp_writeHighWaterMark_16
    have F_outp_minimumReadSize := F_outp_minimumReadSize_16; clear F_outp_minimumReadSize_16
    have F_outp_initialReadSize := F_outp_initialReadSize_16; clear F_outp_initialReadSize_16
    have F_outp_maximumReadSize := F_outp_maximumReadSize_16; clear F_outp_maximumReadSize_16
    refine Go.astore (pc' := 213) at_211 rfl rfl (Ls' := #[.val (.int a), .val (.int b), .val (.int d), .val (.int e), .val (.int f), .val (.int g), .val (.int v1), .val (.int v2), .val (.int low), .val (.int high), .val (.int v3), .val (.int v4), .val (.int v5), .val (.int v6), .val (.int v7), .val (.int v8), .val (.int s1), .val (.int s2), .val (.int s3), .val (.int (1 : Int32)), .val (.ref obj), .val (.int (64 : Int32)), .val (.int (1024 : Int32)), .val (.int (65536 : Int32)), .val (.ref outp)]) rfl ?_
    refine Go.aload (pc' := 215) at_213 rfl rfl rfl ?_
    refine Go.aload (pc' := 217) at_215 rfl rfl rfl ?_
    refine Go.acmp (pc' := 220) (same := false) at_217 rfl rfl (decide_eq_false fun q => (Ne.symm ne_obj_outp) (Value.ref.inj q)) (by decide) (by decide) ?_
    refine Go.aload (pc' := 222) at_220 rfl rfl rfl ?_
    refine Go.callV0 (pc' := 225) (W := 0) (a := outp) (argsL := []) (rest := []) (v0 := some (.int low)) (st2 := [(.int low)]) at_222 rfl (hw _ w43) (hw _ w44) (nf_sel (hw _ w46)) (hw _ w46) (hw _ w45) (hw _ w10) (hw _ w47) E_outp (by decide) (c_g0 hw outp low high (64 : Int32) (1024 : Int32) (65536 : Int32) E_outp F_outp_writeLowWaterMark F_outp_writeHighWaterMark F_outp_minimumReadSize F_outp_initialReadSize F_outp_maximumReadSize) (by decide) (by decide) rfl rfl rfl (by decide) (by decide) rfl pd__28_29I rfl rfl (Nat.le_of_eq rfl) ?_
    refine Go.iload (pc' := 227) at_225 rfl rfl ?_
    refine Go.icmpF (pc' := 230) (X := low.toInt) (Y := low.toInt) at_227 rfl rfl rfl (rfl : low.toInt = low.toInt) ?_
    refine Go.aload (pc' := 232) at_230 rfl rfl rfl ?_
    refine Go.callV0 (pc' := 235) (W := 0) (a := outp) (argsL := []) (rest := []) (v0 := some (.int high)) (st2 := [(.int high)]) at_232 rfl (hw _ w48) (hw _ w49) (nf_sel (hw _ w51)) (hw _ w51) (hw _ w50) (hw _ w10) (hw _ w52) E_outp (by decide) (c_g1 hw outp low high (64 : Int32) (1024 : Int32) (65536 : Int32) E_outp F_outp_writeLowWaterMark F_outp_writeHighWaterMark F_outp_minimumReadSize F_outp_initialReadSize F_outp_maximumReadSize) (by decide) (by decide) rfl rfl rfl (by decide) (by decide) rfl pd__28_29I rfl rfl (Nat.le_of_eq rfl) ?_
    refine Go.iload (pc' := 237) at_235 rfl rfl ?_
    refine Go.icmpF (pc' := 240) (X := high.toInt) (Y := high.toInt) at_237 rfl rfl rfl (rfl : high.toInt = high.toInt) ?_
    refine Go.aload (pc' := 242) at_240 rfl rfl rfl ?_
    refine Go.callV0 (pc' := 245) (W := 0) (a := outp) (argsL := []) (rest := []) (v0 := some (.int (64 : Int32))) (st2 := [(.int (64 : Int32))]) at_242 rfl (hw _ w53) (hw _ w54) (nf_sel (hw _ w56)) (hw _ w56) (hw _ w55) (hw _ w10) (hw _ w57) E_outp (by decide) (c_g2 hw outp low high (64 : Int32) (1024 : Int32) (65536 : Int32) E_outp F_outp_writeLowWaterMark F_outp_writeHighWaterMark F_outp_minimumReadSize F_outp_initialReadSize F_outp_maximumReadSize) (by decide) (by decide) rfl rfl rfl (by decide) (by decide) rfl pd__28_29I rfl rfl (Nat.le_of_eq rfl) ?_
    refine Go.iload (pc' := 247) at_245 rfl rfl ?_
    refine Go.icmpF (pc' := 250) (X := (64 : Int)) (Y := (64 : Int)) at_247 rfl (by decide) (by decide) (by decide : (64 : Int) = (64 : Int)) ?_
    refine Go.aload (pc' := 252) at_250 rfl rfl rfl ?_
    refine Go.callV0 (pc' := 255) (W := 0) (a := outp) (argsL := []) (rest := []) (v0 := some (.int (1024 : Int32))) (st2 := [(.int (1024 : Int32))]) at_252 rfl (hw _ w58) (hw _ w59) (nf_sel (hw _ w61)) (hw _ w61) (hw _ w60) (hw _ w10) (hw _ w62) E_outp (by decide) (c_g3 hw outp low high (64 : Int32) (1024 : Int32) (65536 : Int32) E_outp F_outp_writeLowWaterMark F_outp_writeHighWaterMark F_outp_minimumReadSize F_outp_initialReadSize F_outp_maximumReadSize) (by decide) (by decide) rfl rfl rfl (by decide) (by decide) rfl pd__28_29I rfl rfl (Nat.le_of_eq rfl) ?_
    refine Go.iload (pc' := 257) at_255 rfl rfl ?_
    refine Go.icmpF (pc' := 260) (X := (1024 : Int)) (Y := (1024 : Int)) at_257 rfl (by decide) (by decide) (by decide : (1024 : Int) = (1024 : Int)) ?_
    refine Go.aload (pc' := 262) at_260 rfl rfl rfl ?_
    refine Go.callV0 (pc' := 265) (W := 0) (a := outp) (argsL := []) (rest := []) (v0 := some (.int (65536 : Int32))) (st2 := [(.int (65536 : Int32))]) at_262 rfl (hw _ w63) (hw _ w64) (nf_sel (hw _ w66)) (hw _ w66) (hw _ w65) (hw _ w10) (hw _ w67) E_outp (by decide) (c_g4 hw outp low high (64 : Int32) (1024 : Int32) (65536 : Int32) E_outp F_outp_writeLowWaterMark F_outp_writeHighWaterMark F_outp_minimumReadSize F_outp_initialReadSize F_outp_maximumReadSize) (by decide) (by decide) rfl rfl rfl (by decide) (by decide) rfl pd__28_29I rfl rfl (Nat.le_of_eq rfl) ?_
    refine Go.iload (pc' := 267) at_265 rfl rfl ?_
    refine Go.icmpF (pc' := 270) (X := (65536 : Int)) (Y := (65536 : Int)) at_267 rfl (by decide) (by decide) (by decide : (65536 : Int) = (65536 : Int)) ?_
    refine Go.aload (pc' := 272) at_270 rfl rfl rfl ?_
    refine Go.callV0 (pc' := 275) (W := 0) (a := obj) (argsL := []) (rest := []) (v0 := some (.int (32768 : Int32))) (st2 := [(.int (32768 : Int32))]) at_272 rfl (hw _ w43) (hw _ w44) (nf_sel (hw _ w46)) (hw _ w46) (hw _ w45) (hw _ w10) (hw _ w47) E_obj (by decide) (c_g0 hw obj (32768 : Int32) (65536 : Int32) (64 : Int32) (1024 : Int32) (65536 : Int32) E_obj F_obj_writeLowWaterMark F_obj_writeHighWaterMark F_obj_minimumReadSize F_obj_initialReadSize F_obj_maximumReadSize) (by decide) (by decide) rfl rfl rfl (by decide) (by decide) rfl pd__28_29I rfl rfl (Nat.le_of_eq rfl) ?_
    refine Go.ldcI (pc' := 277) at_275 rfl (hw _ w68) ?_
    refine Go.icmpF (pc' := 280) (X := (32768 : Int)) (Y := (32768 : Int)) at_277 rfl (by decide) (by decide) (by decide : (32768 : Int) = (32768 : Int)) ?_
    refine Go.aload (pc' := 282) at_280 rfl rfl rfl ?_
    refine Go.callV0 (pc' := 285) (W := 0) (a := obj) (argsL := []) (rest := []) (v0 := some (.int (65536 : Int32))) (st2 := [(.int (65536 : Int32))]) at_282 rfl (hw _ w48) (hw _ w49) (nf_sel (hw _ w51)) (hw _ w51) (hw _ w50) (hw _ w10) (hw _ w52) E_obj (by decide) (c_g1 hw obj (32768 : Int32) (65536 : Int32) (64 : Int32) (1024 : Int32) (65536 : Int32) E_obj F_obj_writeLowWaterMark F_obj_writeHighWaterMark F_obj_minimumReadSize F_obj_initialReadSize F_obj_maximumReadSize) (by decide) (by decide) rfl rfl rfl (by decide) (by decide) rfl pd__28_29I rfl rfl (Nat.le_of_eq rfl) ?_
    refine Go.ldcI (pc' := 287) at_285 rfl (hw _ w32) ?_
    refine Go.icmpF (pc' := 290) (X := (65536 : Int)) (Y := (65536 : Int)) at_287 rfl (by decide) (by decide) (by decide : (65536 : Int) = (65536 : Int)) ?_
    refine Go.iconst (pc' := 291) at_290 rfl (z := (1 : Int32)) (by decide) ?_
    refine Go.goto (pc' := 295) at_291 (by decide) ?_
    refine Go.retZ at_295 rfl (by decide) (by decide) (by decide) ?_
    exact ⟨rfl, N0⟩
set_option maxRecDepth 65536 in
set_option maxHeartbeats 40000000 in
theorem comes_1 {Post : Tables → Env → Array Value → State → Outcome → State → Prop} (hpost : ∀ tb e args s v u, (limb_1_1.after args s (.returned v) u = true ∧ limb_1_2.after args s (.returned v) u = true ∧ True) → FrameEnd s (.returned v) u (Jvm.fieldLocs frame_1_writes args s ++ Jvm.arrayLocs frame_1_arrays args s ++ Jvm.staticLocs frame_1_statics s) 16 128 → Post tb e args s (.returned v) u) :
    ArmFor flags0 classFile x code maxLocals ret World_1 tables_1 room_1 Calls_1 rest_1 Pre_1 Post := by
  intro l hfl _ _ p e ha hc hk s m args below hf hA hF happ hP
  obtain ⟨hcalls, hrest, hpre⟩ := hP
  obtain ⟨-, -, -, hnamed, -, -, -, hat⟩ := (Spec.applies_iff hf).mp happ
  obtain ⟨hg, hn⟩ := and_e (Cond.before_iff.mp (show (Jvm.Cond.and given_1 narrow_1).before args s = true from hpre))
  obtain ⟨h1, h2⟩ := and_e hg
  obtain ⟨w0, w1, w2, w3, w4, w5, rfl⟩ : ∃ w0 w1 w2 w3 w4 w5 : Value, args = #[w0, w1, w2, w3, w4, w5] := by
    have hs : args.size = 6 := by simpa [Cond.value, given_1] using h1
    obtain ⟨L⟩ := args
    match L, hs with
    | [w0, w1, w2, w3, w4, w5], _ => exact ⟨w0, w1, w2, w3, w4, w5, rfl⟩
  have hw := fun d (hd : d ∈ tables_1) => atoms_spec (ws := Jvm.Cond.code x code maxLocals ret :: tables_1) hat d (List.mem_cons_of_mem _ hd)
  obtain ⟨q0, h2⟩ := and_e h2
  obtain ⟨i0, e0⟩ := is_v q0
  obtain rfl : w0 = (.int i0) := Option.some.inj e0
  obtain ⟨q1, h2⟩ := and_e h2
  obtain ⟨i1, e1⟩ := is_v q1
  obtain rfl : w1 = (.int i1) := Option.some.inj e1
  obtain ⟨q2, h2⟩ := and_e h2
  obtain ⟨i2, e2⟩ := is_v q2
  obtain rfl : w2 = (.int i2) := Option.some.inj e2
  obtain ⟨q3, h2⟩ := and_e h2
  obtain ⟨i3, e3⟩ := is_v q3
  obtain rfl : w3 = (.int i3) := Option.some.inj e3
  obtain ⟨q4, h2⟩ := and_e h2
  obtain ⟨i4, e4⟩ := is_v q4
  obtain rfl : w4 = (.int i4) := Option.some.inj e4
  have q5 := h2
  obtain ⟨i5, e5⟩ := is_v q5
  obtain rfl : w5 = (.int i5) := Option.some.inj e5
  obtain ⟨n, o, h1, h2, h3, _, L, rfl, ⟨rfl, N⟩, hq⟩ := law_con (l := l) hw (h0 := s.heap) (n0 := s.heap.size) (Nat.le_refl _) i0 i1 i2 i3 i4 i5 p e ha hc hk s m _ below hf ((Spec.applies_iff_loose hf).mp happ).1 ⟨rfl, State.Warmed39.refl s, rfl⟩ trivial
  refine ⟨n, _, h1, h2, h3, hpost _ _ _ _ _ _ ⟨Cond.after_iff.mpr rfl, Cond.after_iff.mpr (eq_i res_at (Term.int_eval (1)) rfl), trivial⟩ ⟨hq.1, hq.2.1, (hq.2.2.sift fun y hy => Or.inr (N y hy)).mono (by decide) (by decide)⟩⟩
theorem main_1_1 : Claimed_1_1 := comes_1 fun _ _ _ _ _ _ h hF => ⟨h.1, hF⟩
theorem main_1_2 : Claimed_1_2 := comes_1 fun _ _ _ _ _ _ h hF => ⟨h.2.1, hF⟩
end Jvm.Pilot.@@N@@
namespace Jvm.Pilot.@@N@@
open Jvm Jvm.ClassFile Sem Op Lib Jvm.Free Jvm.Stand Jvm.Pilot.@@N@@.Jvm.D
/-! MADE BY PROGRAM (witnessworld.py) out of the Statement's table words and the real class files: 12 classes; the members and pool entries that the words name. The judged class is class 1, her method 1. -/
namespace start1
open Jvm.ClassFile
def u (s : String) : CpInfo := .utf8 (stringToUtf16 s)
/-- a pool by its gaps: so many unusable entries, then the entry; so many at the end -/
def gap : Nat → List CpInfo → List CpInfo
  | 0, r => r
  | n + 1, r => .unusable :: gap n r
def poolList (es : List (Nat × CpInfo)) (last : Nat) : List CpInfo := es.foldr (fun e r => gap e.1 (e.2 :: r)) (gap last [])
def pool (es : List (Nat × CpInfo)) (last : Nat) : Array CpInfo := ⟨poolList es last⟩
def fileOf (pool : Array CpInfo) (this : Nat) (attrs : Array Attribute := #[]) (ms : Array MethodInfo := #[]) (fl : Nat := 33) (sup : Nat := 0) (ifs : Array Nat := #[]) (fds : Array FieldInfo := #[]) : ClassFile where
  minorVersion := 0
  majorVersion := 65
  constantPool := pool
  accessFlags := fl
  thisClass := this
  superClass := sup
  interfaces := ifs
  fields := fds
  methods := ms
  attributes := attrs
def plain (name : String) (sup : Option ClassId) : Class where
  name := name
  kind := .ordinary
  loader := none
  accessFlags := 33
  super := sup
  interfaces := #[]
  cf := none
  fields := #[]
  methods := #[]
  instanceTypes := #[]
  staticTypes := #[]
  resolved := #[]
  callSites := []
  init := .initialized
  statics := none
  mirror := none

def pool0 : Array CpInfo := pool [(5, u "<init>"), (0, u "()V"), (1, .class_ 10), (1, u "java/lang/Object")] 113

def k0c0 : Code := { maxStack := 0, maxLocals := 1, code := object_method_1_code, exceptionTable := #[], attributes := #[] }
def k0m0 : Method := { name := "<init>", desc := "()V", sig := { parameters := [], returnType := none }, accessFlags := 1, code := some k0c0 }
/-- java/lang/Object -/
def k0 : Class := { plain "java/lang/Object" none with
  accessFlags := 33
  interfaces := #[]
  cf := some (fileOf pool0 8 #[] #[{ accessFlags := 1, nameIndex := 5, descriptorIndex := 6, attributes := #[] }] 33 0 #[] #[])
  fields := #[]
  methods := #[k0m0]
  instanceTypes := #[]
  staticTypes := #[]
  resolved := Array.replicate 124 none
  statics := none }

def pool1 : Array CpInfo := pool [(2, .class_ 4), (0, .nameAndType 5 6), (0, u "java/lang/Object"), (0, u "<init>"), (0, u "()V"), (0, .integer 2147483647), (0, .methodref 9 10), (0, .class_ 11), (0, .nameAndType 12 13), (0, u "java/lang/Math"), (0, u "min"), (0, u "(II)I"), (0, .methodref 9 15), (0, .nameAndType 16 13), (0, u "max"), (0, .class_ 18), (0, u "com/example/argus/argus/ChannelOptions"), (0, .methodref 17 3), (0, .integer 65536), (0, .methodref 17 22), (0, .nameAndType 23 24), (0, u "withReadSizes"), (0, u "(III)Lcom/example/argus/argus/ChannelOptions;"), (0, .methodref 17 26), (0, .nameAndType 27 28), (0, u "withWriteWaterMarks"), (0, u "(II)Lcom/example/argus/argus/ChannelOptions;"), (0, .methodref 17 30), (0, .nameAndType 31 32), (0, u "writeLowWaterMark"), (0, u "()I"), (0, .methodref 17 34), (0, .nameAndType 35 32), (0, u "writeHighWaterMark"), (0, .methodref 17 37), (0, .nameAndType 38 32), (0, u "minimumReadSize"), (0, .methodref 17 40), (0, .nameAndType 41 32), (0, u "initialReadSize"), (0, .methodref 17 43), (0, .nameAndType 44 32), (0, u "maximumReadSize"), (0, .integer 32768), (0, .class_ 47), (0, u "com/example/argus/argus/ChannelOptionsWithWriteWaterMarksPinLaw"), (2, u "law"), (0, u "(IIIIII)Z")] 3

def k1m0 : Method := { name := "<init>", desc := "()V", sig := { parameters := [], returnType := none }, accessFlags := 1, code := none }
def k1c1 : Code := { maxStack := 4, maxLocals := 25, code := code, exceptionTable := #[], attributes := #[] }
def k1m1 : Method := { name := "law", desc := "(IIIIII)Z", sig := { parameters := [.int, .int, .int, .int, .int, .int], returnType := some .boolean }, accessFlags := 9, code := some k1c1 }
/-- com/example/argus/argus/ChannelOptionsWithWriteWaterMarksPinLaw -/
def k1 : Class := { plain "com/example/argus/argus/ChannelOptionsWithWriteWaterMarksPinLaw" (some 0) with
  accessFlags := 49
  interfaces := #[]
  cf := some (fileOf pool1 46 #[] #[{ accessFlags := 1, nameIndex := 5, descriptorIndex := 6, attributes := #[] }, { accessFlags := 9, nameIndex := 50, descriptorIndex := 51, attributes := #[] }] 49 2 #[] #[])
  fields := #[]
  methods := #[k1m0, k1m1]
  instanceTypes := #[]
  staticTypes := #[]
  resolved := Array.replicate 55 none
  statics := none }

def pool2 : Array CpInfo := pool [(1, .class_ 2), (0, u "java/lang/Math"), (1, .class_ 6), (1, u "java/lang/Object"), (0, u "<init>"), (0, u "()V"), (89, .class_ 100), (1, u "java/lang/Math$RandomNumberGeneratorHolder"), (71, u "negativeZeroFloatBits"), (0, u "J"), (2, u "negativeZeroDoubleBits"), (21, u "max"), (2, u "min"), (43, u "$assertionsDisabled"), (0, u "Z"), (88, u "(II)I"), (2, u "twoToTheDoubleScaleDown"), (0, u "D"), (4, u "twoToTheDoubleScaleUp"), (9, u "E"), (3, u "PI"), (2, u "TAU"), (2, u "DEGREES_TO_RADIANS"), (0, u "RADIANS_TO_DEGREES")] 94

def k2m0 : Method := { name := "<init>", desc := "()V", sig := { parameters := [], returnType := none }, accessFlags := 2, code := none }
def k2c1 : Code := { maxStack := 2, maxLocals := 2, code := jdk_29_method_65_code, exceptionTable := #[], attributes := #[] }
def k2m1 : Method := { name := "max", desc := "(II)I", sig := { parameters := [.int, .int], returnType := some .int }, accessFlags := 9, code := some k2c1 }
def k2c2 : Code := { maxStack := 2, maxLocals := 2, code := jdk_29_method_69_code, exceptionTable := #[], attributes := #[] }
def k2m2 : Method := { name := "min", desc := "(II)I", sig := { parameters := [.int, .int], returnType := some .int }, accessFlags := 9, code := some k2c2 }
/-- java/lang/Math -/
def k2 : Class := { plain "java/lang/Math" (some 0) with
  accessFlags := 49
  interfaces := #[]
  cf := some (fileOf pool2 1 #[.nestMembers #[98]] #[{ accessFlags := 2, nameIndex := 7, descriptorIndex := 8, attributes := #[] }, { accessFlags := 9, nameIndex := 198, descriptorIndex := 335, attributes := #[] }, { accessFlags := 9, nameIndex := 201, descriptorIndex := 335, attributes := #[] }] 49 4 #[] #[{ accessFlags := 25, nameIndex := 354, descriptorIndex := 339, attributes := #[] }, { accessFlags := 25, nameIndex := 358, descriptorIndex := 339, attributes := #[] }, { accessFlags := 25, nameIndex := 361, descriptorIndex := 339, attributes := #[] }, { accessFlags := 26, nameIndex := 364, descriptorIndex := 339, attributes := #[] }, { accessFlags := 26, nameIndex := 365, descriptorIndex := 339, attributes := #[] }, { accessFlags := 26, nameIndex := 172, descriptorIndex := 173, attributes := #[] }, { accessFlags := 26, nameIndex := 176, descriptorIndex := 173, attributes := #[] }, { accessFlags := 8, nameIndex := 344, descriptorIndex := 339, attributes := #[] }, { accessFlags := 8, nameIndex := 338, descriptorIndex := 339, attributes := #[] }, { accessFlags := 4120, nameIndex := 245, descriptorIndex := 246, attributes := #[] }])
  fields := #[{ name := "E", type := .double, accessFlags := 25, slot := 0, constantValue := 0 }, { name := "PI", type := .double, accessFlags := 25, slot := 1, constantValue := 0 }, { name := "TAU", type := .double, accessFlags := 25, slot := 2, constantValue := 0 }, { name := "DEGREES_TO_RADIANS", type := .double, accessFlags := 26, slot := 3, constantValue := 0 }, { name := "RADIANS_TO_DEGREES", type := .double, accessFlags := 26, slot := 4, constantValue := 0 }, { name := "negativeZeroFloatBits", type := .long, accessFlags := 26, slot := 5, constantValue := 0 }, { name := "negativeZeroDoubleBits", type := .long, accessFlags := 26, slot := 6, constantValue := 0 }, { name := "twoToTheDoubleScaleUp", type := .double, accessFlags := 8, slot := 7, constantValue := 0 }, { name := "twoToTheDoubleScaleDown", type := .double, accessFlags := 8, slot := 8, constantValue := 0 }, { name := "$assertionsDisabled", type := .boolean, accessFlags := 4120, slot := 9, constantValue := 0 }]
  methods := #[k2m0, k2m1, k2m2]
  instanceTypes := #[]
  staticTypes := #[.double, .double, .double, .double, .double, .long, .long, .double, .double, .boolean]
  resolved := Array.replicate 460 none
  statics := none }

def pool3 : Array CpInfo := pool [(1, .class_ 2), (0, u "com/example/argus/argus/ChannelOptions"), (0, .integer 32768), (0, .integer 65536), (0, .class_ 6), (0, u "com/example/argus/argus/AdaptiveReadSizer"), (0, .methodref 1 8), (0, .nameAndType 9 10), (0, u "<init>"), (0, u "(IIIII)V"), (0, .methodref 12 13), (0, .class_ 14), (0, .nameAndType 9 15), (0, u "java/lang/Object"), (0, u "()V"), (0, .fieldref 1 17), (0, .nameAndType 18 19), (0, u "writeLowWaterMark"), (0, u "I"), (0, .fieldref 1 21), (0, .nameAndType 22 19), (0, u "writeHighWaterMark"), (0, .fieldref 1 24), (0, .nameAndType 25 19), (0, u "minimumReadSize"), (0, .fieldref 1 27), (0, .nameAndType 28 19), (0, u "initialReadSize"), (0, .fieldref 1 30), (0, .nameAndType 31 19), (0, u "maximumReadSize"), (0, .methodref 33 34), (0, .class_ 35), (0, .nameAndType 36 37), (0, u "com/example/argus/argus/QueuedBytes"), (0, u "checkMarks"), (0, u "(II)V"), (0, .methodref 5 39), (0, .nameAndType 40 41), (0, u "checkSizes"), (0, u "(III)V"), (2, u "withReadSizes"), (0, u "(III)Lcom/example/argus/argus/ChannelOptions;"), (4, u "DEFAULT_LOW_WATER_MARK"), (1, u "DEFAULT_HIGH_WATER_MARK"), (2, u "withWriteWaterMarks"), (0, u "(II)Lcom/example/argus/argus/ChannelOptions;"), (2, u "()I")] 19

def k3c0 : Code := { maxStack := 6, maxLocals := 1, code := prog_5_method_1_code, exceptionTable := #[], attributes := #[] }
def k3m0 : Method := { name := "<init>", desc := "()V", sig := { parameters := [], returnType := none }, accessFlags := 1, code := some k3c0 }
def k3c1 : Code := { maxStack := 2, maxLocals := 6, code := prog_5_method_2_code, exceptionTable := #[], attributes := #[] }
def k3m1 : Method := { name := "<init>", desc := "(IIIII)V", sig := { parameters := [.int, .int, .int, .int, .int], returnType := none }, accessFlags := 2, code := some k3c1 }
def k3c2 : Code := { maxStack := 7, maxLocals := 3, code := prog_5_method_3_code, exceptionTable := #[], attributes := #[] }
def k3m2 : Method := { name := "withWriteWaterMarks", desc := "(II)Lcom/example/argus/argus/ChannelOptions;", sig := { parameters := [.int, .int], returnType := some (.object "com/example/argus/argus/ChannelOptions") }, accessFlags := 1, code := some k3c2 }
def k3c3 : Code := { maxStack := 7, maxLocals := 4, code := prog_5_method_4_code, exceptionTable := #[], attributes := #[] }
def k3m3 : Method := { name := "withReadSizes", desc := "(III)Lcom/example/argus/argus/ChannelOptions;", sig := { parameters := [.int, .int, .int], returnType := some (.object "com/example/argus/argus/ChannelOptions") }, accessFlags := 1, code := some k3c3 }
def k3c4 : Code := { maxStack := 1, maxLocals := 1, code := prog_5_method_6_code, exceptionTable := #[], attributes := #[] }
def k3m4 : Method := { name := "writeLowWaterMark", desc := "()I", sig := { parameters := [], returnType := some .int }, accessFlags := 1, code := some k3c4 }
def k3c5 : Code := { maxStack := 1, maxLocals := 1, code := prog_5_method_7_code, exceptionTable := #[], attributes := #[] }
def k3m5 : Method := { name := "writeHighWaterMark", desc := "()I", sig := { parameters := [], returnType := some .int }, accessFlags := 1, code := some k3c5 }
def k3c6 : Code := { maxStack := 1, maxLocals := 1, code := prog_5_method_8_code, exceptionTable := #[], attributes := #[] }
def k3m6 : Method := { name := "minimumReadSize", desc := "()I", sig := { parameters := [], returnType := some .int }, accessFlags := 1, code := some k3c6 }
def k3c7 : Code := { maxStack := 1, maxLocals := 1, code := prog_5_method_9_code, exceptionTable := #[], attributes := #[] }
def k3m7 : Method := { name := "initialReadSize", desc := "()I", sig := { parameters := [], returnType := some .int }, accessFlags := 1, code := some k3c7 }
def k3c8 : Code := { maxStack := 1, maxLocals := 1, code := prog_5_method_10_code, exceptionTable := #[], attributes := #[] }
def k3m8 : Method := { name := "maximumReadSize", desc := "()I", sig := { parameters := [], returnType := some .int }, accessFlags := 1, code := some k3c8 }
/-- com/example/argus/argus/ChannelOptions -/
def k3 : Class := { plain "com/example/argus/argus/ChannelOptions" (some 0) with
  accessFlags := 33
  interfaces := #[]
  cf := some (fileOf pool3 1 #[] #[{ accessFlags := 1, nameIndex := 9, descriptorIndex := 15, attributes := #[] }, { accessFlags := 2, nameIndex := 9, descriptorIndex := 10, attributes := #[] }, { accessFlags := 1, nameIndex := 55, descriptorIndex := 56, attributes := #[] }, { accessFlags := 1, nameIndex := 44, descriptorIndex := 45, attributes := #[] }, { accessFlags := 1, nameIndex := 18, descriptorIndex := 59, attributes := #[] }, { accessFlags := 1, nameIndex := 22, descriptorIndex := 59, attributes := #[] }, { accessFlags := 1, nameIndex := 25, descriptorIndex := 59, attributes := #[] }, { accessFlags := 1, nameIndex := 28, descriptorIndex := 59, attributes := #[] }, { accessFlags := 1, nameIndex := 31, descriptorIndex := 59, attributes := #[] }] 33 12 #[] #[{ accessFlags := 26, nameIndex := 50, descriptorIndex := 19, attributes := #[] }, { accessFlags := 26, nameIndex := 52, descriptorIndex := 19, attributes := #[] }, { accessFlags := 18, nameIndex := 18, descriptorIndex := 19, attributes := #[] }, { accessFlags := 18, nameIndex := 22, descriptorIndex := 19, attributes := #[] }, { accessFlags := 18, nameIndex := 25, descriptorIndex := 19, attributes := #[] }, { accessFlags := 18, nameIndex := 28, descriptorIndex := 19, attributes := #[] }, { accessFlags := 18, nameIndex := 31, descriptorIndex := 19, attributes := #[] }])
  fields := #[{ name := "DEFAULT_LOW_WATER_MARK", type := .int, accessFlags := 26, slot := 0, constantValue := 0 }, { name := "DEFAULT_HIGH_WATER_MARK", type := .int, accessFlags := 26, slot := 1, constantValue := 0 }, { name := "writeLowWaterMark", type := .int, accessFlags := 18, slot := 0, constantValue := 0 }, { name := "writeHighWaterMark", type := .int, accessFlags := 18, slot := 1, constantValue := 0 }, { name := "minimumReadSize", type := .int, accessFlags := 18, slot := 2, constantValue := 0 }, { name := "initialReadSize", type := .int, accessFlags := 18, slot := 3, constantValue := 0 }, { name := "maximumReadSize", type := .int, accessFlags := 18, slot := 4, constantValue := 0 }]
  methods := #[k3m0, k3m1, k3m2, k3m3, k3m4, k3m5, k3m6, k3m7, k3m8]
  instanceTypes := #[.int, .int, .int, .int, .int]
  staticTypes := #[.int, .int]
  resolved := Array.replicate 79 none
  statics := none }

def pool4 : Array CpInfo := pool [(2, .class_ 4), (1, u "java/lang/Object"), (6, .class_ 13), (1, u "com/example/argus/argus/QueuedBytes"), (0, u "state"), (0, u "Ljava/util/concurrent/atomic/AtomicLong;"), (2, u "checkMarks"), (0, u "(II)V"), (6, u "marks"), (0, u "J"), (23, u "UNWRITABLE")] 27

def k4c0 : Code := { maxStack := 4, maxLocals := 2, code := prog_14_method_2_code, exceptionTable := #[], attributes := #[] }
def k4m0 : Method := { name := "checkMarks", desc := "(II)V", sig := { parameters := [.int, .int], returnType := none }, accessFlags := 8, code := some k4c0 }
/-- com/example/argus/argus/QueuedBytes -/
def k4 : Class := { plain "com/example/argus/argus/QueuedBytes" (some 0) with
  accessFlags := 32
  interfaces := #[]
  cf := some (fileOf pool4 11 #[] #[{ accessFlags := 8, nameIndex := 18, descriptorIndex := 19, attributes := #[] }] 32 2 #[] #[{ accessFlags := 26, nameIndex := 51, descriptorIndex := 27, attributes := #[] }, { accessFlags := 18, nameIndex := 14, descriptorIndex := 15, attributes := #[] }, { accessFlags := 66, nameIndex := 26, descriptorIndex := 27, attributes := #[] }])
  fields := #[{ name := "UNWRITABLE", type := .long, accessFlags := 26, slot := 0, constantValue := 0 }, { name := "state", type := (.object "java/util/concurrent/atomic/AtomicLong"), accessFlags := 18, slot := 0, constantValue := 0 }, { name := "marks", type := .long, accessFlags := 66, slot := 1, constantValue := 0 }]
  methods := #[k4m0]
  instanceTypes := #[(.object "java/util/concurrent/atomic/AtomicLong"), .long]
  staticTypes := #[.long]
  resolved := Array.replicate 79 none
  statics := none }

def pool5 : Array CpInfo := pool [(1, .class_ 2), (0, u "com/example/argus/argus/AdaptiveReadSizer"), (3, u "<init>"), (0, u "(III)V"), (1, .class_ 11), (1, u "java/lang/Object"), (0, u "()V"), (2, u "checkSizes"), (6, u "minimumIndex"), (0, u "I"), (2, u "maximumIndex"), (2, u "index"), (11, u "SIZES"), (0, u "[I"), (11, u "shrinkNext"), (0, u "Z"), (13, u "DEFAULT_MINIMUM"), (2, u "DEFAULT_INITIAL"), (1, u "DEFAULT_MAXIMUM"), (0, u "STEPPED_ENTRIES"), (1, u "DOUBLED_ENTRIES"), (1, u "GROW_STEPS"), (1, u "SMALL_READ_STEPS")] 29

def k5m0 : Method := { name := "<init>", desc := "()V", sig := { parameters := [], returnType := none }, accessFlags := 1, code := none }
def k5c1 : Code := { maxStack := 5, maxLocals := 3, code := prog_1_method_3_code, exceptionTable := #[], attributes := #[] }
def k5m1 : Method := { name := "checkSizes", desc := "(III)V", sig := { parameters := [.int, .int, .int], returnType := none }, accessFlags := 8, code := some k5c1 }
/-- com/example/argus/argus/AdaptiveReadSizer -/
def k5 : Class := { plain "com/example/argus/argus/AdaptiveReadSizer" (some 0) with
  accessFlags := 33
  interfaces := #[]
  cf := some (fileOf pool5 1 #[] #[{ accessFlags := 1, nameIndex := 6, descriptorIndex := 12, attributes := #[] }, { accessFlags := 8, nameIndex := 15, descriptorIndex := 7, attributes := #[] }] 33 9 #[] #[{ accessFlags := 25, nameIndex := 69, descriptorIndex := 23, attributes := #[] }, { accessFlags := 25, nameIndex := 72, descriptorIndex := 23, attributes := #[] }, { accessFlags := 25, nameIndex := 74, descriptorIndex := 23, attributes := #[] }, { accessFlags := 26, nameIndex := 75, descriptorIndex := 23, attributes := #[] }, { accessFlags := 26, nameIndex := 77, descriptorIndex := 23, attributes := #[] }, { accessFlags := 26, nameIndex := 41, descriptorIndex := 42, attributes := #[] }, { accessFlags := 26, nameIndex := 79, descriptorIndex := 23, attributes := #[] }, { accessFlags := 26, nameIndex := 81, descriptorIndex := 23, attributes := #[] }, { accessFlags := 18, nameIndex := 22, descriptorIndex := 23, attributes := #[] }, { accessFlags := 18, nameIndex := 26, descriptorIndex := 23, attributes := #[] }, { accessFlags := 2, nameIndex := 29, descriptorIndex := 23, attributes := #[] }, { accessFlags := 2, nameIndex := 54, descriptorIndex := 55, attributes := #[] }])
  fields := #[{ name := "DEFAULT_MINIMUM", type := .int, accessFlags := 25, slot := 0, constantValue := 0 }, { name := "DEFAULT_INITIAL", type := .int, accessFlags := 25, slot := 1, constantValue := 0 }, { name := "DEFAULT_MAXIMUM", type := .int, accessFlags := 25, slot := 2, constantValue := 0 }, { name := "STEPPED_ENTRIES", type := .int, accessFlags := 26, slot := 3, constantValue := 0 }, { name := "DOUBLED_ENTRIES", type := .int, accessFlags := 26, slot := 4, constantValue := 0 }, { name := "SIZES", type := (.array .int), accessFlags := 26, slot := 5, constantValue := 0 }, { name := "GROW_STEPS", type := .int, accessFlags := 26, slot := 6, constantValue := 0 }, { name := "SMALL_READ_STEPS", type := .int, accessFlags := 26, slot := 7, constantValue := 0 }, { name := "minimumIndex", type := .int, accessFlags := 18, slot := 0, constantValue := 0 }, { name := "maximumIndex", type := .int, accessFlags := 18, slot := 1, constantValue := 0 }, { name := "index", type := .int, accessFlags := 2, slot := 2, constantValue := 0 }, { name := "shrinkNext", type := .boolean, accessFlags := 2, slot := 3, constantValue := 0 }]
  methods := #[k5m0, k5m1]
  instanceTypes := #[.int, .int, .int, .boolean]
  staticTypes := #[.int, .int, .int, .int, .int, (.array .int), .int, .int]
  resolved := Array.replicate 111 none
  statics := none }

def pool6 : Array CpInfo := pool [(1, u "java/lang/Cloneable"), (0, .class_ 1), (0, u "java/lang/Object"), (0, .class_ 3)] 3

/-- java/lang/Cloneable -/
def k6 : Class := { plain "java/lang/Cloneable" (some 0) with
  accessFlags := 1537
  interfaces := #[]
  cf := some (fileOf pool6 2 #[] #[] 1537 4 #[] #[])
  fields := #[]
  methods := #[]
  instanceTypes := #[]
  staticTypes := #[]
  resolved := Array.replicate 8 none
  statics := none }

def pool7 : Array CpInfo := pool [(1, u "java/io/Serializable"), (0, .class_ 1), (0, u "java/lang/Object"), (0, .class_ 3)] 3

/-- java/io/Serializable -/
def k7 : Class := { plain "java/io/Serializable" (some 0) with
  accessFlags := 1537
  interfaces := #[]
  cf := some (fileOf pool7 2 #[] #[] 1537 4 #[] #[])
  fields := #[]
  methods := #[]
  instanceTypes := #[]
  staticTypes := #[]
  resolved := Array.replicate 8 none
  statics := none }

/-- the primitive byte -/
def k8 : Class := { plain "byte" none with kind := .primitive 'B', accessFlags := 0x411 }
/-- [B -/
def k9 : Class := { plain "[B" (some 0) with kind := .array 8 .byte, interfaces := #[6, 7], accessFlags := 1041 }

/-- the primitive int -/
def k10 : Class := { plain "int" none with kind := .primitive 'I', accessFlags := 0x411 }
/-- [I -/
def k11 : Class := { plain "[I" (some 0) with kind := .array 10 .int, interfaces := #[6, 7], accessFlags := 1041 }

def heap : Heap := #[]
def classes : Array Class := #[k0, k1, k2, k3, k4, k5, k6, k7, k8, k9, k10, k11]
def interned : List (Array UInt16 × Addr) := []
def slotsUsed : Nat := 0
def theMethod : MethodId := ⟨1, 1⟩
def args0 : Array Value := #[.int 3, .int 4, .int 5, .int 6, .int 7, .int 8]
def aboutOver (below : List Frame) : State where
  vm := { classes := classes, interned := interned.toArray }
  heap := heap
  slotsUsed := slotsUsed
  threads := #[{ frames := .invoking theMethod args0 :: below }]
def below0 : List Frame := [.native { method := ⟨0, 0⟩, args := #[] }]
def about1 : State := aboutOver below0
def p0 : Program := .bare "" "" ""
def e0 : Env := launch0.env 0 0 0
theorem w_frames : about1.frames = Frame.invoking theMethod args0 :: below0 := rfl
set_option maxRecDepth 65536 in
theorem w_args : argsFit about1.vm theMethod args0 = true := by decide +kernel
set_option maxRecDepth 65536 in
theorem w_heap : heapFits about1 = true := by decide +kernel
set_option maxRecDepth 65536 in
theorem w_runnable : about1.curStatus? = some .runnable := by decide +kernel
set_option maxRecDepth 65536 in
theorem w_alone : about1.alone = true := by decide +kernel
set_option maxRecDepth 65536 in
theorem w_named : about1.methodNamed? x = some theMethod := by decide +kernel
set_option maxRecDepth 65536 in
theorem w_hears : about1.hears theMethod below0 = true := by decide +kernel
set_option maxRecDepth 65536 in
theorem w_ripe : about1.ripe theMethod args0 below0 = true := by decide +kernel
theorem w_running : about1.status = .running := rfl
set_option maxRecDepth 65536 in
theorem w_room : about1.hasRoom e0.platform room_1 = true :=
  launch0.hasRoom_least _ room_1 (by decide +kernel) (by decide +kernel) (by decide +kernel) (by decide +kernel) (by decide +kernel) (by decide +kernel)
theorem allAtoms_all (ts : List Jvm.Cond) (a : Array Jvm.Value) (st : Jvm.State) : (allAtoms ts).before a st = ts.all (fun c => c.before a st) := by
  induction ts with
  | nil => rfl
  | cons c t ih =>
    show (Jvm.Cond.and c (allAtoms t)).before a st = _
    rw [Jvm.Cond.before_and, ih, List.all_cons]
def words1 : List Jvm.Cond := Jvm.Cond.code x code maxLocals ret :: tables_1
/-- a 'code' word, met by the world's own term for the bytes: nothing is compared byte by byte -/
theorem code_word {y : MethodName} {bytes : ByteArray} {mx : Nat} {rt : Option FieldType} {a : Array Value} {s : State} {m : MethodId} {meth : Method} {c : Code} (h1 : s.methodNamed? y = some m) (h2 : s.vm.method? m = some meth) (h3 : meth.code = some c) (h4 : c.code = bytes)
    (h5 : (c.maxLocals == mx && c.exceptionTable.isEmpty && decide (c.maxStack ≤ mostOperands) && decide (meth.sig.returnType = rt) && !meth.locks && decide (parseMethodDescriptor y.desc = some meth.sig)) = true) : (Jvm.Cond.code y bytes mx rt).before a s = true := by
  simp only [Bool.and_eq_true, beq_iff_eq, Bool.not_eq_true', decide_eq_true_eq] at h5
  obtain ⟨⟨⟨⟨⟨g1, g2⟩, g3⟩, g4⟩, g5⟩, g6⟩ := h5
  simp [Cond.before, Cond.holds, Cond.value, h1, h2, h3, h4, g1, g2, g3, g4, g5, g6]
def isCode : Jvm.Cond → Bool
  | .code _ _ _ _ => true
  | _ => false
theorem all_split {L : List Jvm.Cond} {P : Jvm.Cond → Bool} (h1 : L.all (fun c => isCode c || P c) = true) (h2 : ∀ c ∈ L.filter isCode, P c = true) : L.all P = true := by
  refine List.all_eq_true.mpr fun c hc => ?_
  have h := List.all_eq_true.mp h1 c hc
  rcases Bool.eq_false_or_eq_true (isCode c) with hi | hi
  · exact h2 c (List.mem_filter.mpr ⟨hc, hi⟩)
  · simpa [hi] using h
set_option maxRecDepth 65536 in
theorem w_c0 : (Jvm.Cond.code x code maxLocals ret).before args0 about1 = true := code_word (m := ⟨1, 1⟩) (meth := k1m1) (c := k1c1) (by decide +kernel) rfl rfl rfl (by decide +kernel)
set_option maxRecDepth 65536 in
theorem w_c1 : (Jvm.Cond.code ({ cls := "java/lang/Math", name := "min", desc := "(II)I" } : Jvm.MethodName) jdk_29_method_69_code (2 : Nat) (Option.some Jvm.ClassFile.FieldType.int)).before args0 about1 = true := code_word (m := ⟨2, 2⟩) (meth := k2m2) (c := k2c2) (by decide +kernel) rfl rfl rfl (by decide +kernel)
set_option maxRecDepth 65536 in
theorem w_c2 : (Jvm.Cond.code ({ cls := "java/lang/Math", name := "max", desc := "(II)I" } : Jvm.MethodName) jdk_29_method_65_code (2 : Nat) (Option.some Jvm.ClassFile.FieldType.int)).before args0 about1 = true := code_word (m := ⟨2, 1⟩) (meth := k2m1) (c := k2c1) (by decide +kernel) rfl rfl rfl (by decide +kernel)
set_option maxRecDepth 65536 in
theorem w_c3 : (Jvm.Cond.code ({ cls := "com/example/argus/argus/ChannelOptions", name := "<init>", desc := "()V" } : Jvm.MethodName) prog_5_method_1_code (1 : Nat) (Option.none : Option Jvm.ClassFile.FieldType)).before args0 about1 = true := code_word (m := ⟨3, 0⟩) (meth := k3m0) (c := k3c0) (by decide +kernel) rfl rfl rfl (by decide +kernel)
set_option maxRecDepth 65536 in
theorem w_c4 : (Jvm.Cond.code ({ cls := "com/example/argus/argus/ChannelOptions", name := "<init>", desc := "(IIIII)V" } : Jvm.MethodName) prog_5_method_2_code (6 : Nat) (Option.none : Option Jvm.ClassFile.FieldType)).before args0 about1 = true := code_word (m := ⟨3, 1⟩) (meth := k3m1) (c := k3c1) (by decide +kernel) rfl rfl rfl (by decide +kernel)
set_option maxRecDepth 65536 in
theorem w_c5 : (Jvm.Cond.code ({ cls := "java/lang/Object", name := "<init>", desc := "()V" } : Jvm.MethodName) object_method_1_code (1 : Nat) (Option.none : Option Jvm.ClassFile.FieldType)).before args0 about1 = true := code_word (m := ⟨0, 0⟩) (meth := k0m0) (c := k0c0) (by decide +kernel) rfl rfl rfl (by decide +kernel)
set_option maxRecDepth 65536 in
theorem w_c6 : (Jvm.Cond.code ({ cls := "com/example/argus/argus/ChannelOptions", name := "withWriteWaterMarks", desc := "(II)Lcom/example/argus/argus/ChannelOptions;" } : Jvm.MethodName) prog_5_method_3_code (3 : Nat) (Option.some (Jvm.ClassFile.FieldType.object "com/example/argus/argus/ChannelOptions"))).before args0 about1 = true := code_word (m := ⟨3, 2⟩) (meth := k3m2) (c := k3c2) (by decide +kernel) rfl rfl rfl (by decide +kernel)
set_option maxRecDepth 65536 in
theorem w_c7 : (Jvm.Cond.code ({ cls := "com/example/argus/argus/QueuedBytes", name := "checkMarks", desc := "(II)V" } : Jvm.MethodName) prog_14_method_2_code (2 : Nat) (Option.none : Option Jvm.ClassFile.FieldType)).before args0 about1 = true := code_word (m := ⟨4, 0⟩) (meth := k4m0) (c := k4c0) (by decide +kernel) rfl rfl rfl (by decide +kernel)
set_option maxRecDepth 65536 in
theorem w_c8 : (Jvm.Cond.code ({ cls := "com/example/argus/argus/ChannelOptions", name := "writeLowWaterMark", desc := "()I" } : Jvm.MethodName) prog_5_method_6_code (1 : Nat) (Option.some Jvm.ClassFile.FieldType.int)).before args0 about1 = true := code_word (m := ⟨3, 4⟩) (meth := k3m4) (c := k3c4) (by decide +kernel) rfl rfl rfl (by decide +kernel)
set_option maxRecDepth 65536 in
theorem w_c9 : (Jvm.Cond.code ({ cls := "com/example/argus/argus/ChannelOptions", name := "writeHighWaterMark", desc := "()I" } : Jvm.MethodName) prog_5_method_7_code (1 : Nat) (Option.some Jvm.ClassFile.FieldType.int)).before args0 about1 = true := code_word (m := ⟨3, 5⟩) (meth := k3m5) (c := k3c5) (by decide +kernel) rfl rfl rfl (by decide +kernel)
set_option maxRecDepth 65536 in
theorem w_c10 : (Jvm.Cond.code ({ cls := "com/example/argus/argus/ChannelOptions", name := "minimumReadSize", desc := "()I" } : Jvm.MethodName) prog_5_method_8_code (1 : Nat) (Option.some Jvm.ClassFile.FieldType.int)).before args0 about1 = true := code_word (m := ⟨3, 6⟩) (meth := k3m6) (c := k3c6) (by decide +kernel) rfl rfl rfl (by decide +kernel)
set_option maxRecDepth 65536 in
theorem w_c11 : (Jvm.Cond.code ({ cls := "com/example/argus/argus/ChannelOptions", name := "initialReadSize", desc := "()I" } : Jvm.MethodName) prog_5_method_9_code (1 : Nat) (Option.some Jvm.ClassFile.FieldType.int)).before args0 about1 = true := code_word (m := ⟨3, 7⟩) (meth := k3m7) (c := k3c7) (by decide +kernel) rfl rfl rfl (by decide +kernel)
set_option maxRecDepth 65536 in
theorem w_c12 : (Jvm.Cond.code ({ cls := "com/example/argus/argus/ChannelOptions", name := "maximumReadSize", desc := "()I" } : Jvm.MethodName) prog_5_method_10_code (1 : Nat) (Option.some Jvm.ClassFile.FieldType.int)).before args0 about1 = true := code_word (m := ⟨3, 8⟩) (meth := k3m8) (c := k3c8) (by decide +kernel) rfl rfl rfl (by decide +kernel)
set_option maxRecDepth 65536 in
theorem w_c13 : (Jvm.Cond.code ({ cls := "com/example/argus/argus/ChannelOptions", name := "withReadSizes", desc := "(III)Lcom/example/argus/argus/ChannelOptions;" } : Jvm.MethodName) prog_5_method_4_code (4 : Nat) (Option.some (Jvm.ClassFile.FieldType.object "com/example/argus/argus/ChannelOptions"))).before args0 about1 = true := code_word (m := ⟨3, 3⟩) (meth := k3m3) (c := k3c3) (by decide +kernel) rfl rfl rfl (by decide +kernel)
set_option maxRecDepth 65536 in
theorem w_c14 : (Jvm.Cond.code ({ cls := "com/example/argus/argus/AdaptiveReadSizer", name := "checkSizes", desc := "(III)V" } : Jvm.MethodName) prog_1_method_3_code (3 : Nat) (Option.none : Option Jvm.ClassFile.FieldType)).before args0 about1 = true := code_word (m := ⟨5, 1⟩) (meth := k5m1) (c := k5c1) (by decide +kernel) rfl rfl rfl (by decide +kernel)
def codes1 : List Jvm.Cond := [Jvm.Cond.code x code maxLocals ret, Jvm.Cond.code ({ cls := "java/lang/Math", name := "min", desc := "(II)I" } : Jvm.MethodName) jdk_29_method_69_code (2 : Nat) (Option.some Jvm.ClassFile.FieldType.int), Jvm.Cond.code ({ cls := "java/lang/Math", name := "max", desc := "(II)I" } : Jvm.MethodName) jdk_29_method_65_code (2 : Nat) (Option.some Jvm.ClassFile.FieldType.int), Jvm.Cond.code ({ cls := "com/example/argus/argus/ChannelOptions", name := "<init>", desc := "()V" } : Jvm.MethodName) prog_5_method_1_code (1 : Nat) (Option.none : Option Jvm.ClassFile.FieldType), Jvm.Cond.code ({ cls := "com/example/argus/argus/ChannelOptions", name := "<init>", desc := "(IIIII)V" } : Jvm.MethodName) prog_5_method_2_code (6 : Nat) (Option.none : Option Jvm.ClassFile.FieldType), Jvm.Cond.code ({ cls := "java/lang/Object", name := "<init>", desc := "()V" } : Jvm.MethodName) object_method_1_code (1 : Nat) (Option.none : Option Jvm.ClassFile.FieldType), Jvm.Cond.code ({ cls := "com/example/argus/argus/ChannelOptions", name := "withWriteWaterMarks", desc := "(II)Lcom/example/argus/argus/ChannelOptions;" } : Jvm.MethodName) prog_5_method_3_code (3 : Nat) (Option.some (Jvm.ClassFile.FieldType.object "com/example/argus/argus/ChannelOptions")), Jvm.Cond.code ({ cls := "com/example/argus/argus/QueuedBytes", name := "checkMarks", desc := "(II)V" } : Jvm.MethodName) prog_14_method_2_code (2 : Nat) (Option.none : Option Jvm.ClassFile.FieldType), Jvm.Cond.code ({ cls := "com/example/argus/argus/ChannelOptions", name := "writeLowWaterMark", desc := "()I" } : Jvm.MethodName) prog_5_method_6_code (1 : Nat) (Option.some Jvm.ClassFile.FieldType.int), Jvm.Cond.code ({ cls := "com/example/argus/argus/ChannelOptions", name := "writeHighWaterMark", desc := "()I" } : Jvm.MethodName) prog_5_method_7_code (1 : Nat) (Option.some Jvm.ClassFile.FieldType.int), Jvm.Cond.code ({ cls := "com/example/argus/argus/ChannelOptions", name := "minimumReadSize", desc := "()I" } : Jvm.MethodName) prog_5_method_8_code (1 : Nat) (Option.some Jvm.ClassFile.FieldType.int), Jvm.Cond.code ({ cls := "com/example/argus/argus/ChannelOptions", name := "initialReadSize", desc := "()I" } : Jvm.MethodName) prog_5_method_9_code (1 : Nat) (Option.some Jvm.ClassFile.FieldType.int), Jvm.Cond.code ({ cls := "com/example/argus/argus/ChannelOptions", name := "maximumReadSize", desc := "()I" } : Jvm.MethodName) prog_5_method_10_code (1 : Nat) (Option.some Jvm.ClassFile.FieldType.int), Jvm.Cond.code ({ cls := "com/example/argus/argus/ChannelOptions", name := "withReadSizes", desc := "(III)Lcom/example/argus/argus/ChannelOptions;" } : Jvm.MethodName) prog_5_method_4_code (4 : Nat) (Option.some (Jvm.ClassFile.FieldType.object "com/example/argus/argus/ChannelOptions")), Jvm.Cond.code ({ cls := "com/example/argus/argus/AdaptiveReadSizer", name := "checkSizes", desc := "(III)V" } : Jvm.MethodName) prog_1_method_3_code (3 : Nat) (Option.none : Option Jvm.ClassFile.FieldType)]
set_option maxRecDepth 65536 in
theorem codes_eq : words1.filter isCode = codes1 := rfl
theorem w_codes : ∀ c ∈ words1.filter isCode, c.before args0 about1 = true := by
  rw [codes_eq]
  intro c hc
  simp only [codes1, List.mem_cons, List.not_mem_nil, or_false] at hc
  rcases hc with rfl | rfl | rfl | rfl | rfl | rfl | rfl | rfl | rfl | rfl | rfl | rfl | rfl | rfl | rfl
  · exact w_c0
  · exact w_c1
  · exact w_c2
  · exact w_c3
  · exact w_c4
  · exact w_c5
  · exact w_c6
  · exact w_c7
  · exact w_c8
  · exact w_c9
  · exact w_c10
  · exact w_c11
  · exact w_c12
  · exact w_c13
  · exact w_c14
set_option maxRecDepth 65536 in
theorem w_t1 : (words1.take 24).all (fun c => isCode c || c.before args0 about1) = true := by decide +kernel
set_option maxRecDepth 65536 in
theorem w_t2 : ((words1.drop 24).take 24).all (fun c => isCode c || c.before args0 about1) = true := by decide +kernel
set_option maxRecDepth 65536 in
theorem w_t3 : (((words1.drop 24).drop 24).take 24).all (fun c => isCode c || c.before args0 about1) = true := by decide +kernel
set_option maxRecDepth 65536 in
theorem w_t4 : (((words1.drop 24).drop 24).drop 24).all (fun c => isCode c || c.before args0 about1) = true := by decide +kernel
theorem w_tables : (allAtoms (Jvm.Cond.code x code maxLocals ret :: tables_1)).before args0 about1 = true := by
  rw [allAtoms_all]
  show words1.all (fun c => c.before args0 about1) = true
  refine all_split ?_ w_codes
  rw [← List.take_append_drop 24 words1, List.all_append, w_t1, ← List.take_append_drop 24 (words1.drop 24), List.all_append, w_t2, ← List.take_append_drop 24 ((words1.drop 24).drop 24), List.all_append, w_t3, w_t4]
  rfl
set_option maxRecDepth 65536 in
theorem w_case : (Jvm.Cond.and given_1 narrow_1).before args0 about1 = true := by decide +kernel
theorem w_applies : (headSpec (Jvm.Cond.code x code maxLocals ret :: tables_1) room_1).applies x e0.platform about1 = true :=
  (Spec.applies_iff w_frames).mpr ⟨w_running, w_runnable, w_alone, w_named, w_hears, w_ripe, w_room, w_tables⟩
theorem atStart : AtStart classFile x code maxLocals ret World_1 tables_1 room_1 Calls_1 rest_1 Pre_1 launch0 p0 e0 about1 theMethod args0 below0 :=
  ⟨lists_1, trivial, launch0.admits_env _ _ _, launch0.least_env, fairChoices_fair.cas, fairChoices_fair.clock, w_frames, w_args, w_heap, w_applies, trivial, trivial, w_case⟩
end start1
theorem witness_1 : WitnessClaimed_1 := ⟨start1.p0, start1.e0, start1.about1, start1.theMethod, start1.args0, start1.below0, start1.atStart⟩
end Jvm.Pilot.@@N@@
