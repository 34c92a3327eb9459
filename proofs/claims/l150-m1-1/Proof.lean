import JvmDerived
import JvmDerived.Pilot.@@N@@Statement
import JvmDerived.Pilot.@@N@@Code
set_option linter.unusedVariables false
set_option linter.unusedSimpArgs false
namespace Jvm.OwnKit
open Sem ClassFile Op Lib Jvm.Stand Jvm.Free Jvm.LawKit Jvm.RoadKit
/-- from this pc, with these locals, this stack and this heap, the body returns and Q holds -/
def Go (Z : State) (l : Launch) (R : Room) (B : ByteArray) (ml : Nat) (own : String) (rt : Option FieldType) (mn : String) (pc : Nat) (Ls : Array Slot) (st : List Value) (h : Heap) (L : List Loc) (k n : Nat) (Q : Option Value → Heap → List Loc → Prop) : Prop :=
  ∀ (p : Program) (e : Env) (s : State) (m : MethodId) (args : Array Value) (below : List Frame) (meth : Method) (c : Code) (T : State),
    Stand p l e R s m args below meth c T L k n → p.tables.exec = Jvm.exec → Z.Warmed39 s.vm → c.code = B → c.maxLocals = ml → s.vm.findClass own = some m.cls → meth.sig.returnType = rt → meth.locks = false → meth.name = mn → T.heap = h →
    ∃ s₂ o, Steps p.tables e below (T.setTop (mkF m pc Ls st)) s₂ ∧ s₂.status = .running ∧ Ended s₂ below o ∧ ∃ v L', o = .returned v ∧ Q v s₂.heap L' ∧ FrameEnd s o s₂ L' R.cells R.slots
/-- a callee's contract at these arguments and this heap -/
def Con (l : Launch) (Z : State) (y : MethodName) (B : ByteArray) (ml : Nat) (rt : Option FieldType) (R : Room) (ws : List Jvm.Cond) (as' : Array Value) (h0 : Heap) (Q : Option Value → Heap → List Loc → Prop) : Prop :=
  MetFree l y (head1 (Jvm.Cond.code y B ml rt :: ws) R) (fun a U => a = as' ∧ Z.Warmed39 U.vm ∧ U.heap = h0) (fun _ _ _ _ _ => True) (fun _ U o U' => ∃ v L, o = .returned v ∧ Q v U'.heap L ∧ FrameEnd U o U' L R.cells R.slots)
/-- the law returns true, and nothing old was written -/
def LawQ (n0 : Nat) (v : Option Value) (_ : Heap) (L : List Loc) : Prop := v = some (.int (1 : Int32)) ∧ Fr n0 L
/-- it returns v0, and nothing was written or made -/
def PQ (h0 : Heap) (v0 : Option Value) (v : Option Value) (h : Heap) (L : List Loc) : Prop := v = v0 ∧ h = h0 ∧ L = []
theorem con_of {l : Launch} {Z : State} {y : MethodName} {B : ByteArray} {ml : Nat} {rt : Option FieldType} {R : Room} {ws : List Jvm.Cond} {as' : Array Value} {h0 : Heap} {Q : Option Value → Heap → List Loc → Prop} {Ls : Array Slot}
    (hp : plainFor y = true) (ef : ∀ m, entryFrame m as' ml = mkF m 0 Ls []) (g : Go Z l R B ml y.cls rt y.name 0 Ls [] h0 [] 0 0 Q) : Con l Z y B ml rt R ws as' h0 Q := by
  refine MetFree.of_bodySF hp hisR ?_
  intro p e s m args below meth c s₁ Bd hml0 hP hK
  obtain ⟨rfl, hZ, hh⟩ := hP
  have e0 : s₁.heap = h0 := by rw [← hh, Bd.state]; rfl
  obtain ⟨s₂, o, h1, h2⟩ := g p e s m _ below meth c s₁ (Stand.of_body Bd) Bd.exec hZ Bd.bytes hml0 (findClass_of_methodNamed Bd.named) Bd.returns (BodyLoose.notSynchronized Bd) (name_of_methodNamed Bd.named Bd.method).1 e0
  exact ⟨s₂, o, castTop (ef m) h1, h2⟩
theorem Con.mono {l : Launch} {Z : State} {y : MethodName} {B : ByteArray} {ml : Nat} {rt : Option FieldType} {R : Room} {ws : List Jvm.Cond} {as' : Array Value} {h0 : Heap} {Q Q' : Option Value → Heap → List Loc → Prop} (c : Con l Z y B ml rt R ws as' h0 Q) (q : ∀ v h L, Q v h L → Q' v h L) : Con l Z y B ml rt R ws as' h0 Q' := by
  intro p e ha hc hk s m args below hf happ hP hK
  obtain ⟨n, o, h1, h2, h3, v, L, h4, h5, h6⟩ := c p e ha hc hk s m args below hf happ hP hK
  exact ⟨n, o, h1, h2, h3, v, L, h4, q _ _ _ h5, h6⟩
theorem fr_one {q : Nat} {L : List Loc} {a : Addr} {sl : Nat} (N : Fr q L) (g : q ≤ a) : Fr q (L ++ [⟨a, sl⟩]) := N.app fun y hy => by cases List.mem_singleton.mp hy; exact g
section Rules
variable {Z : State} {l : Launch} {R : Room} {B : ByteArray} {ml : Nat} {own : String} {rt : Option FieldType} {mn : String} {pc pc' : Nat} {Ls : Array Slot} {h : Heap} {L : List Loc} {k n : Nat} {Q : Option Value → Heap → List Loc → Prop} {rest : List Value}
theorem Go.mono {st : List Value} {Q' : Option Value → Heap → List Loc → Prop} (q : ∀ v h L, Q v h L → Q' v h L) (g : Go Z l R B ml own rt mn pc Ls st h L k n Q) : Go Z l R B ml own rt mn pc Ls st h L k n Q' := by
  intro p e s m args below meth c T X hx hZ hby hml hown hrt hlk hnm eT
  obtain ⟨s₂, o, h1, h2, h3, v, L', h4, h5, h6⟩ := g p e s m args below meth c T X hx hZ hby hml hown hrt hlk hnm eT
  exact ⟨s₂, o, h1, h2, h3, v, L', h4, q _ _ _ h5, h6⟩
theorem Go.pure {st st' : List Value} {Ls' : Array Slot} (step : ∀ (p : Program) (e : Env) (below : List Frame) (T : State) (m : MethodId) (c : Code) (target : State), At T m c below → p.tables.exec = Jvm.exec → c.code = B → Steps p.tables e below (T.setTop (mkF m pc' Ls' st')) target → Steps p.tables e below (T.setTop (mkF m pc Ls st)) target)
    (g : Go Z l R B ml own rt mn pc' Ls' st' h L k n Q) : Go Z l R B ml own rt mn pc Ls st h L k n Q := by
  intro p e s m args below meth c T X hx hZ hby hml hown hrt hlk hnm eT
  obtain ⟨s₂, o, h1, h2⟩ := g p e s m args below meth c T X hx hZ hby hml hown hrt hlk hnm eT
  exact ⟨s₂, o, step p e below T m c s₂ X.here hx hby h1, h2⟩
theorem Go.iload {st : List Value} {i : Nat} {v : Int32} (hd : decode B pc = .ok (.iload i, 2)) (hp : pc + 2 = pc') (hl : Ls[i]? = some (.val (.int v))) (g : Go Z l R B ml own rt mn pc' Ls (.int v :: st) h L k n Q) : Go Z l R B ml own rt mn pc Ls st h L k n Q := by
  subst hp; exact Go.pure (fun p e below T m c t hA hx hB hr => XS.iload hA hx rfl (hb hB hd) hl hr) g
theorem Go.iloadN {st : List Value} {i : Fin 4} {v : Int32} (hd : decode B pc = .ok (.iload_n i, 1)) (hp : pc + 1 = pc') (hl : Ls[i.val]? = some (.val (.int v))) (g : Go Z l R B ml own rt mn pc' Ls (.int v :: st) h L k n Q) : Go Z l R B ml own rt mn pc Ls st h L k n Q := by
  subst hp; exact Go.pure (fun p e below T m c t hA hx hB hr => XS.iloadN hA hx rfl (hb hB hd) hl hr) g
theorem Go.lload {st : List Value} {i : Nat} {v : Int64} (hd : decode B pc = .ok (.lload i, 2)) (hp : pc + 2 = pc') (hl : Ls[i]? = some (.val (.long v))) (g : Go Z l R B ml own rt mn pc' Ls (.long v :: st) h L k n Q) : Go Z l R B ml own rt mn pc Ls st h L k n Q := by
  subst hp; exact Go.pure (fun p e below T m c t hA hx hB hr => XS.lload hA hx rfl (hb hB hd) hl hr) g
theorem Go.lloadN {st : List Value} {i : Fin 4} {v : Int64} (hd : decode B pc = .ok (.lload_n i, 1)) (hp : pc + 1 = pc') (hl : Ls[i.val]? = some (.val (.long v))) (g : Go Z l R B ml own rt mn pc' Ls (.long v :: st) h L k n Q) : Go Z l R B ml own rt mn pc Ls st h L k n Q := by
  subst hp; exact Go.pure (fun p e below T m c t hA hx hB hr => XS.lloadN hA hx rfl (hb hB hd) hl hr) g
theorem Go.aload {st : List Value} {i : Nat} {v : Value} (hd : decode B pc = .ok (.aload i, 2)) (hp : pc + 2 = pc') (hl : Ls[i]? = some (.val v)) (hv : v.isRef = true) (g : Go Z l R B ml own rt mn pc' Ls (v :: st) h L k n Q) : Go Z l R B ml own rt mn pc Ls st h L k n Q := by
  subst hp; exact Go.pure (fun p e below T m c t hA hx hB hr => XS.aload hA hx rfl (hb hB hd) hl hv hr) g
theorem Go.aloadN {st : List Value} {i : Fin 4} {v : Value} (hd : decode B pc = .ok (.aload_n i, 1)) (hp : pc + 1 = pc') (hl : Ls[i.val]? = some (.val v)) (hv : v.isRef = true) (g : Go Z l R B ml own rt mn pc' Ls (v :: st) h L k n Q) : Go Z l R B ml own rt mn pc Ls st h L k n Q := by
  subst hp; exact Go.pure (fun p e below T m c t hA hx hB hr => XS.aloadN hA hx rfl (hb hB hd) hl hv hr) g
theorem Go.istore {i : Nat} {v : Int32} {Ls' : Array Slot} (hd : decode B pc = .ok (.istore i, 2)) (hp : pc + 2 = pc') (hl : storeLocals Ls i (.int v) = some Ls') (g : Go Z l R B ml own rt mn pc' Ls' rest h L k n Q) : Go Z l R B ml own rt mn pc Ls (.int v :: rest) h L k n Q := by
  subst hp; exact Go.pure (fun p e below T m c t hA hx hB hr => XS.istore hA hx rfl (hb hB hd) rfl hl hr) g
theorem Go.istoreN {i : Fin 4} {v : Int32} {Ls' : Array Slot} (hd : decode B pc = .ok (.istore_n i, 1)) (hp : pc + 1 = pc') (hl : storeLocals Ls i.val (.int v) = some Ls') (g : Go Z l R B ml own rt mn pc' Ls' rest h L k n Q) : Go Z l R B ml own rt mn pc Ls (.int v :: rest) h L k n Q := by
  subst hp; exact Go.pure (fun p e below T m c t hA hx hB hr => XS.istoreN hA hx rfl (hb hB hd) rfl hl hr) g
theorem Go.lstore {i : Nat} {v : Int64} {Ls' : Array Slot} (hd : decode B pc = .ok (.lstore i, 2)) (hp : pc + 2 = pc') (hl : storeLocals Ls i (.long v) = some Ls') (g : Go Z l R B ml own rt mn pc' Ls' rest h L k n Q) : Go Z l R B ml own rt mn pc Ls (.long v :: rest) h L k n Q := by
  subst hp; exact Go.pure (fun p e below T m c t hA hx hB hr => XS.lstore hA hx rfl (hb hB hd) rfl hl hr) g
theorem Go.lstoreN {i : Fin 4} {v : Int64} {Ls' : Array Slot} (hd : decode B pc = .ok (.lstore_n i, 1)) (hp : pc + 1 = pc') (hl : storeLocals Ls i.val (.long v) = some Ls') (g : Go Z l R B ml own rt mn pc' Ls' rest h L k n Q) : Go Z l R B ml own rt mn pc Ls (.long v :: rest) h L k n Q := by
  subst hp; exact Go.pure (fun p e below T m c t hA hx hB hr => XS.lstoreN hA hx rfl (hb hB hd) rfl hl hr) g
theorem Go.astore {i : Nat} {v : Value} {Ls' : Array Slot} (hd : decode B pc = .ok (.astore i, 2)) (hp : pc + 2 = pc') (hv : v.isRef = true) (hl : storeLocals Ls i v = some Ls') (g : Go Z l R B ml own rt mn pc' Ls' rest h L k n Q) : Go Z l R B ml own rt mn pc Ls (v :: rest) h L k n Q := by
  subst hp; exact Go.pure (fun p e below T m c t hA hx hB hr => XS.astore hA hx rfl (hb hB hd) rfl hv hl hr) g
theorem Go.astoreN {i : Fin 4} {v : Value} {Ls' : Array Slot} (hd : decode B pc = .ok (.astore_n i, 1)) (hp : pc + 1 = pc') (hv : v.isRef = true) (hl : storeLocals Ls i.val v = some Ls') (g : Go Z l R B ml own rt mn pc' Ls' rest h L k n Q) : Go Z l R B ml own rt mn pc Ls (v :: rest) h L k n Q := by
  subst hp; exact Go.pure (fun p e below T m c t hA hx hB hr => XS.astoreN hA hx rfl (hb hB hd) rfl hv hl hr) g
theorem Go.iinc {st : List Value} {i : Nat} {cst : Int} {x z : Int32} {Ls' : Array Slot} (hd : decode B pc = .ok (.iinc i cst, 3)) (hp : pc + 3 = pc') (hv : Ls[i]? = some (.val (.int x))) (hz : x + Int32.ofInt cst = z) (hl : storeLocals Ls i (.int z) = some Ls') (g : Go Z l R B ml own rt mn pc' Ls' st h L k n Q) : Go Z l R B ml own rt mn pc Ls st h L k n Q := by
  subst hz; subst hp; exact Go.pure (fun p e below T m c t hA hx hB hr => XS.iinc hA hx rfl (hb hB hd) hv hl hr) g
theorem Go.iconst {st : List Value} {i : Int} {z : Int32} (hd : decode B pc = .ok (.iconst i, 1)) (hp : pc + 1 = pc') (hz : Int32.ofInt i = z) (g : Go Z l R B ml own rt mn pc' Ls (.int z :: st) h L k n Q) : Go Z l R B ml own rt mn pc Ls st h L k n Q := by
  subst hz; subst hp; exact Go.pure (fun p e below T m c t hA hx hB hr => XS.iconst hA hx rfl (hb hB hd) hr) g
theorem Go.bipush {st : List Value} {i : Int} {z : Int32} (hd : decode B pc = .ok (.bipush i, 2)) (hp : pc + 2 = pc') (hz : (Int8.ofInt i).toInt32 = z) (g : Go Z l R B ml own rt mn pc' Ls (.int z :: st) h L k n Q) : Go Z l R B ml own rt mn pc Ls st h L k n Q := by
  subst hz; subst hp; exact Go.pure (fun p e below T m c t hA hx hB hr => XS.bipush hA hx rfl (hb hB hd) hr) g
theorem Go.sipush {st : List Value} {i : Int} {z : Int32} (hd : decode B pc = .ok (.sipush i, 3)) (hp : pc + 3 = pc') (hz : (Int16.ofInt i).toInt32 = z) (g : Go Z l R B ml own rt mn pc' Ls (.int z :: st) h L k n Q) : Go Z l R B ml own rt mn pc Ls st h L k n Q := by
  subst hz; subst hp; exact Go.pure (fun p e below T m c t hA hx hB hr => XS.sipush hA hx rfl (hb hB hd) hr) g
theorem Go.lconst {st : List Value} {i : Fin 2} {z : Int64} (hd : decode B pc = .ok (.lconst i, 1)) (hp : pc + 1 = pc') (hz : Int64.ofNat i = z) (g : Go Z l R B ml own rt mn pc' Ls (.long z :: st) h L k n Q) : Go Z l R B ml own rt mn pc Ls st h L k n Q := by
  subst hz; subst hp; exact Go.pure (fun p e below T m c t hA hx hB hr => XS.lconst hA hx rfl (hb hB hd) hr) g
theorem Go.aconstNull {st : List Value} (hd : decode B pc = .ok (.aconst_null, 1)) (hp : pc + 1 = pc') (g : Go Z l R B ml own rt mn pc' Ls (.null :: st) h L k n Q) : Go Z l R B ml own rt mn pc Ls st h L k n Q := by
  subst hp; exact Go.pure (fun p e below T m c t hA hx hB hr => XS.aconstNull hA hx rfl (hb hB hd) hr) g
theorem Go.iadd {x y z : Int32} (hd : decode B pc = .ok (.iadd, 1)) (hp : pc + 1 = pc') (hz : x + y = z) (g : Go Z l R B ml own rt mn pc' Ls (.int z :: rest) h L k n Q) : Go Z l R B ml own rt mn pc Ls (.int y :: .int x :: rest) h L k n Q := by
  subst hz; subst hp; exact Go.pure (fun p e below T m c t hA hx hB hr => XS.iadd hA hx rfl (hb hB hd) rfl hr) g
theorem Go.ladd {x y z : Int64} (hd : decode B pc = .ok (.ladd, 1)) (hp : pc + 1 = pc') (hz : x + y = z) (g : Go Z l R B ml own rt mn pc' Ls (.long z :: rest) h L k n Q) : Go Z l R B ml own rt mn pc Ls (.long y :: .long x :: rest) h L k n Q := by
  subst hz; subst hp; exact Go.pure (fun p e below T m c t hA hx hB hr => XS.ladd hA hx rfl (hb hB hd) rfl hr) g
theorem Go.isub {x y z : Int32} (hd : decode B pc = .ok (.isub, 1)) (hp : pc + 1 = pc') (hz : x - y = z) (g : Go Z l R B ml own rt mn pc' Ls (.int z :: rest) h L k n Q) : Go Z l R B ml own rt mn pc Ls (.int y :: .int x :: rest) h L k n Q := by
  subst hz; subst hp; exact Go.pure (fun p e below T m c t hA hx hB hr => XS.isub hA hx rfl (hb hB hd) rfl hr) g
theorem Go.lsub {x y z : Int64} (hd : decode B pc = .ok (.lsub, 1)) (hp : pc + 1 = pc') (hz : x - y = z) (g : Go Z l R B ml own rt mn pc' Ls (.long z :: rest) h L k n Q) : Go Z l R B ml own rt mn pc Ls (.long y :: .long x :: rest) h L k n Q := by
  subst hz; subst hp; exact Go.pure (fun p e below T m c t hA hx hB hr => XS.lsub hA hx rfl (hb hB hd) rfl hr) g
theorem Go.imul {x y z : Int32} (hd : decode B pc = .ok (.imul, 1)) (hp : pc + 1 = pc') (hz : x * y = z) (g : Go Z l R B ml own rt mn pc' Ls (.int z :: rest) h L k n Q) : Go Z l R B ml own rt mn pc Ls (.int y :: .int x :: rest) h L k n Q := by
  subst hz; subst hp; exact Go.pure (fun p e below T m c t hA hx hB hr => XS.imul hA hx rfl (hb hB hd) rfl hr) g
theorem Go.lmul {x y z : Int64} (hd : decode B pc = .ok (.lmul, 1)) (hp : pc + 1 = pc') (hz : x * y = z) (g : Go Z l R B ml own rt mn pc' Ls (.long z :: rest) h L k n Q) : Go Z l R B ml own rt mn pc Ls (.long y :: .long x :: rest) h L k n Q := by
  subst hz; subst hp; exact Go.pure (fun p e below T m c t hA hx hB hr => XS.lmul hA hx rfl (hb hB hd) rfl hr) g
theorem Go.iand {x y z : Int32} (hd : decode B pc = .ok (.iand, 1)) (hp : pc + 1 = pc') (hz : x &&& y = z) (g : Go Z l R B ml own rt mn pc' Ls (.int z :: rest) h L k n Q) : Go Z l R B ml own rt mn pc Ls (.int y :: .int x :: rest) h L k n Q := by
  subst hz; subst hp; exact Go.pure (fun p e below T m c t hA hx hB hr => XS.iand hA hx rfl (hb hB hd) rfl hr) g
theorem Go.land {x y z : Int64} (hd : decode B pc = .ok (.land, 1)) (hp : pc + 1 = pc') (hz : x &&& y = z) (g : Go Z l R B ml own rt mn pc' Ls (.long z :: rest) h L k n Q) : Go Z l R B ml own rt mn pc Ls (.long y :: .long x :: rest) h L k n Q := by
  subst hz; subst hp; exact Go.pure (fun p e below T m c t hA hx hB hr => XS.land hA hx rfl (hb hB hd) rfl hr) g
theorem Go.ior {x y z : Int32} (hd : decode B pc = .ok (.ior, 1)) (hp : pc + 1 = pc') (hz : x ||| y = z) (g : Go Z l R B ml own rt mn pc' Ls (.int z :: rest) h L k n Q) : Go Z l R B ml own rt mn pc Ls (.int y :: .int x :: rest) h L k n Q := by
  subst hz; subst hp; exact Go.pure (fun p e below T m c t hA hx hB hr => XS.ior hA hx rfl (hb hB hd) rfl hr) g
theorem Go.lor {x y z : Int64} (hd : decode B pc = .ok (.lor, 1)) (hp : pc + 1 = pc') (hz : x ||| y = z) (g : Go Z l R B ml own rt mn pc' Ls (.long z :: rest) h L k n Q) : Go Z l R B ml own rt mn pc Ls (.long y :: .long x :: rest) h L k n Q := by
  subst hz; subst hp; exact Go.pure (fun p e below T m c t hA hx hB hr => XS.lor hA hx rfl (hb hB hd) rfl hr) g
theorem Go.ixor {x y z : Int32} (hd : decode B pc = .ok (.ixor, 1)) (hp : pc + 1 = pc') (hz : x ^^^ y = z) (g : Go Z l R B ml own rt mn pc' Ls (.int z :: rest) h L k n Q) : Go Z l R B ml own rt mn pc Ls (.int y :: .int x :: rest) h L k n Q := by
  subst hz; subst hp; exact Go.pure (fun p e below T m c t hA hx hB hr => XS.ixor hA hx rfl (hb hB hd) rfl hr) g
theorem Go.lxor {x y z : Int64} (hd : decode B pc = .ok (.lxor, 1)) (hp : pc + 1 = pc') (hz : x ^^^ y = z) (g : Go Z l R B ml own rt mn pc' Ls (.long z :: rest) h L k n Q) : Go Z l R B ml own rt mn pc Ls (.long y :: .long x :: rest) h L k n Q := by
  subst hz; subst hp; exact Go.pure (fun p e below T m c t hA hx hB hr => XS.lxor hA hx rfl (hb hB hd) rfl hr) g
theorem Go.idiv {x y z : Int32} (hd : decode B pc = .ok (.idiv, 1)) (hp : pc + 1 = pc') (hy : y ≠ 0) (hz : x / y = z) (g : Go Z l R B ml own rt mn pc' Ls (.int z :: rest) h L k n Q) : Go Z l R B ml own rt mn pc Ls (.int y :: .int x :: rest) h L k n Q := by
  subst hz; subst hp; exact Go.pure (fun p e below T m c t hA hx hB hr => XS.idiv hA hx rfl (hb hB hd) rfl hy hr) g
theorem Go.ldiv {x y z : Int64} (hd : decode B pc = .ok (.ldiv, 1)) (hp : pc + 1 = pc') (hy : y ≠ 0) (hz : x / y = z) (g : Go Z l R B ml own rt mn pc' Ls (.long z :: rest) h L k n Q) : Go Z l R B ml own rt mn pc Ls (.long y :: .long x :: rest) h L k n Q := by
  subst hz; subst hp; exact Go.pure (fun p e below T m c t hA hx hB hr => XS.ldiv hA hx rfl (hb hB hd) rfl hy hr) g
theorem Go.irem {x y z : Int32} (hd : decode B pc = .ok (.irem, 1)) (hp : pc + 1 = pc') (hy : y ≠ 0) (hz : x % y = z) (g : Go Z l R B ml own rt mn pc' Ls (.int z :: rest) h L k n Q) : Go Z l R B ml own rt mn pc Ls (.int y :: .int x :: rest) h L k n Q := by
  subst hz; subst hp; exact Go.pure (fun p e below T m c t hA hx hB hr => XS.irem hA hx rfl (hb hB hd) rfl hy (by rw [show x - x / y * y = x % y from irem_eq_mod x y]; exact hr)) g
theorem Go.lrem {x y z : Int64} (hd : decode B pc = .ok (.lrem, 1)) (hp : pc + 1 = pc') (hy : y ≠ 0) (hz : x % y = z) (g : Go Z l R B ml own rt mn pc' Ls (.long z :: rest) h L k n Q) : Go Z l R B ml own rt mn pc Ls (.long y :: .long x :: rest) h L k n Q := by
  subst hz; subst hp; exact Go.pure (fun p e below T m c t hA hx hB hr => XS.lrem hA hx rfl (hb hB hd) rfl hy (by rw [show x - x / y * y = x % y from lrem_mod x y]; exact hr)) g
theorem Go.ishl {x y z : Int32} (hd : decode B pc = .ok (.ishl, 1)) (hp : pc + 1 = pc') (hz : x <<< (y &&& 31) = z) (g : Go Z l R B ml own rt mn pc' Ls (.int z :: rest) h L k n Q) : Go Z l R B ml own rt mn pc Ls (.int y :: .int x :: rest) h L k n Q := by
  subst hz; subst hp; exact Go.pure (fun p e below T m c t hA hx hB hr => XS.ishl hA hx rfl (hb hB hd) rfl hr) g
theorem Go.ishr {x y z : Int32} (hd : decode B pc = .ok (.ishr, 1)) (hp : pc + 1 = pc') (hz : x >>> (y &&& 31) = z) (g : Go Z l R B ml own rt mn pc' Ls (.int z :: rest) h L k n Q) : Go Z l R B ml own rt mn pc Ls (.int y :: .int x :: rest) h L k n Q := by
  subst hz; subst hp; exact Go.pure (fun p e below T m c t hA hx hB hr => XS.ishr hA hx rfl (hb hB hd) rfl hr) g
theorem Go.iushr {x y z : Int32} (hd : decode B pc = .ok (.iushr, 1)) (hp : pc + 1 = pc') (hz : (x.toUInt32 >>> (y &&& 31).toUInt32).toInt32 = z) (g : Go Z l R B ml own rt mn pc' Ls (.int z :: rest) h L k n Q) : Go Z l R B ml own rt mn pc Ls (.int y :: .int x :: rest) h L k n Q := by
  subst hz; subst hp; exact Go.pure (fun p e below T m c t hA hx hB hr => XS.iushr hA hx rfl (hb hB hd) rfl hr) g
theorem Go.lshl {x z : Int64} {y : Int32} (hd : decode B pc = .ok (.lshl, 1)) (hp : pc + 1 = pc') (hz : x <<< (y &&& 0x3f).toInt64 = z) (g : Go Z l R B ml own rt mn pc' Ls (.long z :: rest) h L k n Q) : Go Z l R B ml own rt mn pc Ls (.int y :: .long x :: rest) h L k n Q := by
  subst hz; subst hp; exact Go.pure (fun p e below T m c t hA hx hB hr => XS.lshl hA hx rfl (hb hB hd) rfl hr) g
theorem Go.lshr {x z : Int64} {y : Int32} (hd : decode B pc = .ok (.lshr, 1)) (hp : pc + 1 = pc') (hz : x >>> (y &&& 0x3f).toInt64 = z) (g : Go Z l R B ml own rt mn pc' Ls (.long z :: rest) h L k n Q) : Go Z l R B ml own rt mn pc Ls (.int y :: .long x :: rest) h L k n Q := by
  subst hz; subst hp; exact Go.pure (fun p e below T m c t hA hx hB hr => XS.lshr hA hx rfl (hb hB hd) rfl hr) g
theorem Go.lushr {x z : Int64} {y : Int32} (hd : decode B pc = .ok (.lushr, 1)) (hp : pc + 1 = pc') (hz : (x.toUInt64 >>> (y &&& 0x3f).toInt64.toUInt64).toInt64 = z) (g : Go Z l R B ml own rt mn pc' Ls (.long z :: rest) h L k n Q) : Go Z l R B ml own rt mn pc Ls (.int y :: .long x :: rest) h L k n Q := by
  subst hz; subst hp; exact Go.pure (fun p e below T m c t hA hx hB hr => XS.lushr hA hx rfl (hb hB hd) rfl hr) g
theorem Go.ineg {x : Int32} {z : Int32} (hd : decode B pc = .ok (.ineg, 1)) (hp : pc + 1 = pc') (hz : -x = z) (g : Go Z l R B ml own rt mn pc' Ls (.int z :: rest) h L k n Q) : Go Z l R B ml own rt mn pc Ls (.int x :: rest) h L k n Q := by
  subst hz; subst hp; exact Go.pure (fun p e below T m c t hA hx hB hr => XS.ineg hA hx rfl (hb hB hd) rfl hr) g
theorem Go.lneg {x : Int64} {z : Int64} (hd : decode B pc = .ok (.lneg, 1)) (hp : pc + 1 = pc') (hz : -x = z) (g : Go Z l R B ml own rt mn pc' Ls (.long z :: rest) h L k n Q) : Go Z l R B ml own rt mn pc Ls (.long x :: rest) h L k n Q := by
  subst hz; subst hp; exact Go.pure (fun p e below T m c t hA hx hB hr => XS.lneg hA hx rfl (hb hB hd) rfl hr) g
theorem Go.i2l {x : Int32} {z : Int64} (hd : decode B pc = .ok (.i2l, 1)) (hp : pc + 1 = pc') (hz : x.toInt64 = z) (g : Go Z l R B ml own rt mn pc' Ls (.long z :: rest) h L k n Q) : Go Z l R B ml own rt mn pc Ls (.int x :: rest) h L k n Q := by
  subst hz; subst hp; exact Go.pure (fun p e below T m c t hA hx hB hr => XS.i2l hA hx rfl (hb hB hd) rfl hr) g
theorem Go.l2i {x : Int64} {z : Int32} (hd : decode B pc = .ok (.l2i, 1)) (hp : pc + 1 = pc') (hz : x.toInt32 = z) (g : Go Z l R B ml own rt mn pc' Ls (.int z :: rest) h L k n Q) : Go Z l R B ml own rt mn pc Ls (.long x :: rest) h L k n Q := by
  subst hz; subst hp; exact Go.pure (fun p e below T m c t hA hx hB hr => XS.l2i hA hx rfl (hb hB hd) rfl hr) g
theorem Go.i2b {x : Int32} {z : Int32} (hd : decode B pc = .ok (.i2b, 1)) (hp : pc + 1 = pc') (hz : x.toInt8.toInt32 = z) (g : Go Z l R B ml own rt mn pc' Ls (.int z :: rest) h L k n Q) : Go Z l R B ml own rt mn pc Ls (.int x :: rest) h L k n Q := by
  subst hz; subst hp; exact Go.pure (fun p e below T m c t hA hx hB hr => XS.i2b hA hx rfl (hb hB hd) rfl hr) g
theorem Go.i2s {x : Int32} {z : Int32} (hd : decode B pc = .ok (.i2s, 1)) (hp : pc + 1 = pc') (hz : x.toInt16.toInt32 = z) (g : Go Z l R B ml own rt mn pc' Ls (.int z :: rest) h L k n Q) : Go Z l R B ml own rt mn pc Ls (.int x :: rest) h L k n Q := by
  subst hz; subst hp; exact Go.pure (fun p e below T m c t hA hx hB hr => XS.i2s hA hx rfl (hb hB hd) rfl hr) g
theorem Go.i2c {x : Int32} {z : Int32} (hd : decode B pc = .ok (.i2c, 1)) (hp : pc + 1 = pc') (hz : x.toUInt32.toUInt16.toUInt32.toInt32 = z) (g : Go Z l R B ml own rt mn pc' Ls (.int z :: rest) h L k n Q) : Go Z l R B ml own rt mn pc Ls (.int x :: rest) h L k n Q := by
  subst hz; subst hp; exact Go.pure (fun p e below T m c t hA hx hB hr => XS.i2c hA hx rfl (hb hB hd) rfl hr) g
theorem Go.dup {x : Value} (hd : decode B pc = .ok (.dup, 1)) (hp : pc + 1 = pc') (hc : x.category = 1) (g : Go Z l R B ml own rt mn pc' Ls (x :: x :: rest) h L k n Q) : Go Z l R B ml own rt mn pc Ls (x :: rest) h L k n Q := by
  subst hp; exact Go.pure (fun p e below T m c t hA hx hB hr => XS.dup hA hx rfl (hb hB hd) rfl hc hr) g
theorem Go.dupX1 {x y : Value} (hd : decode B pc = .ok (.dup_x1, 1)) (hp : pc + 1 = pc') (hc : x.category = 1) (hc' : y.category = 1) (g : Go Z l R B ml own rt mn pc' Ls (x :: y :: x :: rest) h L k n Q) : Go Z l R B ml own rt mn pc Ls (x :: y :: rest) h L k n Q := by
  subst hp; exact Go.pure (fun p e below T m c t hA hx hB hr => XS.dupX1 hA hx rfl (hb hB hd) rfl hc hc' hr) g
theorem Go.pop {x : Value} (hd : decode B pc = .ok (.pop, 1)) (hp : pc + 1 = pc') (hc : x.category = 1) (g : Go Z l R B ml own rt mn pc' Ls rest h L k n Q) : Go Z l R B ml own rt mn pc Ls (x :: rest) h L k n Q := by
  subst hp; exact Go.pure (fun p e below T m c t hA hx hB hr => XS.pop hA hx rfl (hb hB hd) rfl hc hr) g
theorem Go.dup2 {x y : Value} (hd : decode B pc = .ok (.dup2, 1)) (hp : pc + 1 = pc') (hc : x.category = 1) (hc' : y.category = 1) (g : Go Z l R B ml own rt mn pc' Ls (x :: y :: x :: y :: rest) h L k n Q) : Go Z l R B ml own rt mn pc Ls (x :: y :: rest) h L k n Q := by
  subst hp; exact Go.pure (fun p e below T m c t hA hx hB hr => XT.dup2 hA hx rfl (hb hB hd) rfl hc hc' hr) g
theorem Go.dup2L {x : Int64} (hd : decode B pc = .ok (.dup2, 1)) (hp : pc + 1 = pc') (g : Go Z l R B ml own rt mn pc' Ls (.long x :: .long x :: rest) h L k n Q) : Go Z l R B ml own rt mn pc Ls (.long x :: rest) h L k n Q := by
  subst hp; exact Go.pure (fun p e below T m c t hA hx hB hr => XT.dup2L hA hx rfl (hb hB hd) rfl hr) g
theorem Go.goto {st : List Value} {o : Int} (hd : decode B pc = .ok (.goto o, 3)) (hp : (pc : Int) + o = (pc' : Int)) (g : Go Z l R B ml own rt mn pc' Ls st h L k n Q) : Go Z l R B ml own rt mn pc Ls st h L k n Q :=
  Go.pure (fun p e below T m c t hA hx hB hr => XS.goto hA hx rfl rfl (hb hB hd) (by rw [hp]; omega) (by rw [hp]; rfl) hr) g
/-- what a branch says when it is taken, and when it isn't -/
def cT : ClassFile.Cond → Int → Int → Prop
  | .lt, x, y => x < y | .ge, x, y => ¬ x < y | .gt, x, y => y < x | .le, x, y => ¬ y < x | .eq, x, y => x = y | .ne, x, y => ¬ x = y
def cF : ClassFile.Cond → Int → Int → Prop
  | .lt, x, y => ¬ x < y | .ge, x, y => x < y | .gt, x, y => ¬ y < x | .le, x, y => y < x | .eq, x, y => ¬ x = y | .ne, x, y => x = y
theorem icT {cd : ClassFile.Cond} {x y : Int32} (q : cT cd x.toInt y.toInt) : if_icmp.holds cd x y = true := by
  cases cd <;> simp only [cT] at q <;> first
    | exact (teq (Int32.toInt_inj.mp q)).1
    | exact (feq (fun r => q (congrArg _ r))).2
    | exact (tlt (Int32.lt_iff_toInt_lt.mpr q)).1
    | exact (flt (fun r => q (Int32.lt_iff_toInt_lt.mp r))).2.1
    | exact (tlt (Int32.lt_iff_toInt_lt.mpr q)).2.2.1
    | exact (flt (fun r => q (Int32.lt_iff_toInt_lt.mp r))).2.2.2
theorem icF {cd : ClassFile.Cond} {x y : Int32} (q : cF cd x.toInt y.toInt) : if_icmp.holds cd x y = false := by
  cases cd <;> simp only [cF] at q <;> first
    | exact (feq (fun r => q (congrArg _ r))).1
    | exact (teq (Int32.toInt_inj.mp q)).2
    | exact (flt (fun r => q (Int32.lt_iff_toInt_lt.mp r))).1
    | exact (tlt (Int32.lt_iff_toInt_lt.mpr q)).2.1
    | exact (flt (fun r => q (Int32.lt_iff_toInt_lt.mp r))).2.2.1
    | exact (tlt (Int32.lt_iff_toInt_lt.mpr q)).2.2.2
theorem lcT {cd : ClassFile.Cond} {x y : Int64} (q : cT cd x.toInt y.toInt) : ifCond.holds cd (lcmpW x y) = true := by
  rw [if0]; refine icT ?_
  have := c_lcmp x y
  have z0 : (0 : Int32).toInt = 0 := rfl
  cases cd <;> simp only [cT, z0] at q ⊢ <;> omega
theorem lcF {cd : ClassFile.Cond} {x y : Int64} (q : cF cd x.toInt y.toInt) : ifCond.holds cd (lcmpW x y) = false := by
  rw [if0]; refine icF ?_
  have := c_lcmp x y
  have z0 : (0 : Int32).toInt = 0 := rfl
  cases cd <;> simp only [cF, z0] at q ⊢ <;> omega
theorem Go.icmpT {cd : ClassFile.Cond} {x y : Int32} {X Y : Int} {o : Int} (hd : decode B pc = .ok (.if_icmp cd o, 3)) (hp : (pc : Int) + o = (pc' : Int)) (hX : x.toInt = X) (hY : y.toInt = Y) (hc : cT cd X Y) (g : Go Z l R B ml own rt mn pc' Ls rest h L k n Q) : Go Z l R B ml own rt mn pc Ls (.int y :: .int x :: rest) h L k n Q := by
  subst hX hY
  exact Go.pure (fun p e below T m c t hA hx hB hr => XS.icmpYes hA hx rfl rfl (hb hB hd) rfl (icT hc) (by rw [hp]; omega) (by rw [hp]; rfl) hr) g
theorem Go.icmpF {cd : ClassFile.Cond} {x y : Int32} {X Y : Int} {o : Int} (hd : decode B pc = .ok (.if_icmp cd o, 3)) (hp : pc + 3 = pc') (hX : x.toInt = X) (hY : y.toInt = Y) (hc : cF cd X Y) (g : Go Z l R B ml own rt mn pc' Ls rest h L k n Q) : Go Z l R B ml own rt mn pc Ls (.int y :: .int x :: rest) h L k n Q := by
  subst hX hY hp
  exact Go.pure (fun p e below T m c t hA hx hB hr => XS.icmpNo hA hx rfl (hb hB hd) rfl (icF hc) hr) g
theorem Go.ifT {cd : ClassFile.Cond} {x : Int32} {X : Int} {o : Int} (hd : decode B pc = .ok (.ifCond cd o, 3)) (hp : (pc : Int) + o = (pc' : Int)) (hX : x.toInt = X) (hc : cT cd X 0) (g : Go Z l R B ml own rt mn pc' Ls rest h L k n Q) : Go Z l R B ml own rt mn pc Ls (.int x :: rest) h L k n Q := by
  subst hX
  exact Go.pure (fun p e below T m c t hA hx hB hr => XS.ifYes hA hx rfl rfl (hb hB hd) rfl ((if0 _ _).trans (icT hc)) (by rw [hp]; omega) (by rw [hp]; rfl) hr) g
theorem Go.ifF {cd : ClassFile.Cond} {x : Int32} {X : Int} {o : Int} (hd : decode B pc = .ok (.ifCond cd o, 3)) (hp : pc + 3 = pc') (hX : x.toInt = X) (hc : cF cd X 0) (g : Go Z l R B ml own rt mn pc' Ls rest h L k n Q) : Go Z l R B ml own rt mn pc Ls (.int x :: rest) h L k n Q := by
  subst hX hp
  exact Go.pure (fun p e below T m c t hA hx hB hr => XS.ifNo hA hx rfl (hb hB hd) rfl ((if0 _ _).trans (icF hc)) hr) g
/-- lcmp and the branch behind it, in one -/
theorem Go.lcmpT {cd : ClassFile.Cond} {x y : Int64} {X Y : Int} {o : Int} {pc1 : Nat} (hd : decode B pc = .ok (.lcmp, 1)) (hd' : decode B pc1 = .ok (.ifCond cd o, 3)) (hp1 : pc + 1 = pc1) (hp : (pc1 : Int) + o = (pc' : Int)) (hX : x.toInt = X) (hY : y.toInt = Y) (hc : cT cd X Y) (g : Go Z l R B ml own rt mn pc' Ls rest h L k n Q) : Go Z l R B ml own rt mn pc Ls (.long y :: .long x :: rest) h L k n Q := by
  subst hX hY hp1
  exact Go.pure (fun p e below T m c t hA hx hB hr => XS.lcmp hA hx rfl (hb hB hd) rfl hr) (Go.pure (pc := pc + 1) (fun p e below T m c t hA hx hB hr => XS.ifYes hA hx rfl rfl (hb hB hd') rfl (lcT hc) (by rw [hp]; omega) (by rw [hp]; rfl) hr) g)
theorem Go.lcmpF {cd : ClassFile.Cond} {x y : Int64} {X Y : Int} {o : Int} {pc1 : Nat} (hd : decode B pc = .ok (.lcmp, 1)) (hd' : decode B pc1 = .ok (.ifCond cd o, 3)) (hp1 : pc + 1 = pc1) (hp : pc1 + 3 = pc') (hX : x.toInt = X) (hY : y.toInt = Y) (hc : cF cd X Y) (g : Go Z l R B ml own rt mn pc' Ls rest h L k n Q) : Go Z l R B ml own rt mn pc Ls (.long y :: .long x :: rest) h L k n Q := by
  subst hX hY hp1 hp
  exact Go.pure (fun p e below T m c t hA hx hB hr => XS.lcmp hA hx rfl (hb hB hd) rfl hr) (Go.pure (pc := pc + 1) (fun p e below T m c t hA hx hB hr => XS.ifNo hA hx rfl (hb hB hd') rfl (lcF hc) hr) g)
/-- one step that asks where the walk stands -/
theorem Go.stand {st st' : List Value} {Ls' : Array Slot} (step : ∀ (p : Program) (e : Env) (s : State) (m : MethodId) (args : Array Value) (below : List Frame) (meth : Method) (c : Code) (T : State) (target : State), Stand p l e R s m args below meth c T L k n → p.tables.exec = Jvm.exec → Z.Warmed39 s.vm → c.code = B → s.vm.findClass own = some m.cls → T.heap = h →
      Steps p.tables e below (T.setTop (mkF m pc' Ls' st')) target → Steps p.tables e below (T.setTop (mkF m pc Ls st)) target)
    (g : Go Z l R B ml own rt mn pc' Ls' st' h L k n Q) : Go Z l R B ml own rt mn pc Ls st h L k n Q := by
  intro p e s m args below meth c T X hx hZ hby hml hown hrt hlk hnm eT
  obtain ⟨s₂, o, h1, h2⟩ := g p e s m args below meth c T X hx hZ hby hml hown hrt hlk hnm eT
  exact ⟨s₂, o, step p e s m args below meth c T s₂ X hx hZ hby hown eT h1, h2⟩
theorem Go.acmp {cd : ACond} {x y : Value} {o : Int} {same : Bool} (hd : decode B pc = .ok (.if_acmp cd o, 3)) (h1 : x.isRef = true) (h2 : y.isRef = true) (hq : decide (x = y) = same) (ho : 0 ≤ (pc : Int) + o) (hp : pc' = if acV cd same = true then ((pc : Int) + o).toNat else pc + 3) (g : Go Z l R B ml own rt mn pc' Ls rest h L k n Q) : Go Z l R B ml own rt mn pc Ls (y :: x :: rest) h L k n Q :=
  Go.stand (fun p e s m args below meth c T t X hx hZ hB hown eT hr => Jvm.RoadKit.acmp (g := mkF m pc Ls (y :: x :: rest)) X hx rfl h1 h2 (pc0 := pc) (pc' := pc') (same := same) rfl (hb hB hd) rfl hq ho hp hr) g
theorem Go.ldcI {a0 : Array Value} {st : List Value} {i : Nat} {v : Int32} (hd : decode B pc = .ok (.ldc i, 2)) (hp : pc + 2 = pc') (w : (Jvm.Cond.constant own i v).before a0 Z = true) (g : Go Z l R B ml own rt mn pc' Ls (.int v :: st) h L k n Q) : Go Z l R B ml own rt mn pc Ls st h L k n Q := by
  subst hp
  exact Go.stand (fun p e s m args below meth c T t X hx hZ hB hown eT hr => X.ldcInt hx hown (mvT hZ w) (g := mkF m pc Ls st) rfl (hb hB hd) _ hr) g
theorem Go.ldcF {a0 : Array Value} {st : List Value} {i : Nat} {v : UInt32} (hd : decode B pc = .ok (.ldc i, 2)) (hp : pc + 2 = pc') (w : (Jvm.Cond.constantFloat own i v).before a0 Z = true) (g : Go Z l R B ml own rt mn pc' Ls (.float v :: st) h L k n Q) : Go Z l R B ml own rt mn pc Ls st h L k n Q := by
  subst hp
  exact Go.stand (fun p e s m args below meth c T t X hx hZ hB hown eT hr => X.ldcFloatC hx hown (mvT hZ w) (g := mkF m pc Ls st) rfl (hb hB hd) _ hr) g
theorem Go.ldc2 {a0 : Array Value} {st : List Value} {i : Nat} {v : Int64} (hd : decode B pc = .ok (.ldc2_w i, 3)) (hp : pc + 3 = pc') (w : (Jvm.Cond.constantLong own i v).before a0 Z = true) (g : Go Z l R B ml own rt mn pc' Ls (.long v :: st) h L k n Q) : Go Z l R B ml own rt mn pc Ls st h L k n Q := by
  subst hp
  exact Go.stand (fun p e s m args below meth c T t X hx hZ hB hown eT hr => X.ldc2Long hx hown (mvT hZ w) (g := mkF m pc Ls st) rfl (hb hB hd) _ hr) g
theorem Go.retI {z : Int32} (hd : decode B pc = .ok (.ireturn, 1)) (hrt' : rt = some .int) (hk : k ≤ R.cells) (hn : n ≤ R.slots) (q : Q (some (.int z)) h L) : Go Z l R B ml own rt mn pc Ls ((.int z) :: rest) h L k n Q := by
  intro p e s m args below meth c T X hx hZ hby hml hown hrt hlk hnm eT
  obtain ⟨fs, hr, hrun, hended, hW, hsame⟩ := X.leave (v := some (.int z)) (fun r => by rw [hrt, hrt'] at r; cases r)
  refine ⟨_, _, retOut X hx (hrt.trans hrt') (show narrow .int (.int z) = .int z from rfl) (Or.inl ⟨rfl, Or.inl rfl, _, rfl⟩) (hb hby hd) hr, hrun, hended, _, _, rfl, ?_, ⟨_, rfl⟩, hW, hsame.mono hk hn⟩
  show Q _ T.heap _
  rw [eT]; exact q
theorem Go.retZ {z : Int32} (hd : decode B pc = .ok (.ireturn, 1)) (hrt' : rt = some .boolean) (hz : z = 0 ∨ z = 1) (hk : k ≤ R.cells) (hn : n ≤ R.slots) (q : Q (some (.int z)) h L) : Go Z l R B ml own rt mn pc Ls ((.int z) :: rest) h L k n Q := by
  intro p e s m args below meth c T X hx hZ hby hml hown hrt hlk hnm eT
  obtain ⟨fs, hr, hrun, hended, hW, hsame⟩ := X.leave (v := some (.int z)) (fun r => by rw [hrt, hrt'] at r; cases r)
  refine ⟨_, _, retOut X hx (hrt.trans hrt') (show narrow .boolean (.int z) = .int z by rcases hz with rfl | rfl <;> rfl) (Or.inl ⟨rfl, Or.inr (Or.inl rfl), _, rfl⟩) (hb hby hd) hr, hrun, hended, _, _, rfl, ?_, ⟨_, rfl⟩, hW, hsame.mono hk hn⟩
  show Q _ T.heap _
  rw [eT]; exact q
theorem Go.retB {z : Int32} (hd : decode B pc = .ok (.ireturn, 1)) (hrt' : rt = some .byte) (hz : z.toInt8.toInt32 = z) (hk : k ≤ R.cells) (hn : n ≤ R.slots) (q : Q (some (.int z)) h L) : Go Z l R B ml own rt mn pc Ls ((.int z) :: rest) h L k n Q := by
  intro p e s m args below meth c T X hx hZ hby hml hown hrt hlk hnm eT
  obtain ⟨fs, hr, hrun, hended, hW, hsame⟩ := X.leave (v := some (.int z)) (fun r => by rw [hrt, hrt'] at r; cases r)
  refine ⟨_, _, retOut X hx (hrt.trans hrt') (show narrow .byte (.int z) = .int z from congrArg Value.int hz) (Or.inl ⟨rfl, Or.inr (Or.inr (Or.inl rfl)), _, rfl⟩) (hb hby hd) hr, hrun, hended, _, _, rfl, ?_, ⟨_, rfl⟩, hW, hsame.mono hk hn⟩
  show Q _ T.heap _
  rw [eT]; exact q
theorem Go.retJ {z : Int64} (hd : decode B pc = .ok (.lreturn, 1)) (hrt' : rt = some .long) (hk : k ≤ R.cells) (hn : n ≤ R.slots) (q : Q (some (.long z)) h L) : Go Z l R B ml own rt mn pc Ls ((.long z) :: rest) h L k n Q := by
  intro p e s m args below meth c T X hx hZ hby hml hown hrt hlk hnm eT
  obtain ⟨fs, hr, hrun, hended, hW, hsame⟩ := X.leave (v := some (.long z)) (fun r => by rw [hrt, hrt'] at r; cases r)
  refine ⟨_, _, retOut X hx (hrt.trans hrt') (show narrow .long (.long z) = .long z from rfl) (Or.inr (Or.inl ⟨rfl, rfl, _, rfl⟩)) (hb hby hd) hr, hrun, hended, _, _, rfl, ?_, ⟨_, rfl⟩, hW, hsame.mono hk hn⟩
  show Q _ T.heap _
  rw [eT]; exact q
theorem Go.retA {z : Value} {t : FieldType} (hd : decode B pc = .ok (.areturn, 1)) (hrt' : rt = some t) (ht : t.isReference = true) (hz : z.isRef = true) (hk : k ≤ R.cells) (hn : n ≤ R.slots) (q : Q (some z) h L) : Go Z l R B ml own rt mn pc Ls (z :: rest) h L k n Q := by
  intro p e s m args below meth c T X hx hZ hby hml hown hrt hlk hnm eT
  obtain ⟨fs, hr, hrun, hended, hW, hsame⟩ := X.leave (v := some z) (fun r => by rw [hrt, hrt'] at r; cases r)
  refine ⟨_, _, retOut X hx (hrt.trans hrt') (show narrow t z = z by rcases ref_cases hz with rfl | ⟨a, rfl⟩ <;> cases t <;> first | rfl | (simp [FieldType.isReference] at ht)) (Or.inr (Or.inr (Or.inr (Or.inr ⟨rfl, ht, hz⟩)))) (hb hby hd) hr, hrun, hended, _, _, rfl, ?_, ⟨_, rfl⟩, hW, hsame.mono hk hn⟩
  show Q _ T.heap _
  rw [eT]; exact q
theorem Go.retV (hd : decode B pc = .ok (.return_, 1)) (hrt' : rt = none) (hk : k ≤ R.cells) (hn : n ≤ R.slots) (q : Q none h L) : Go Z l R B ml own rt mn pc Ls [] h L k n Q := by
  intro p e s m args below meth c T X hx hZ hby hml hown hrt hlk hnm eT
  obtain ⟨fs, hr, hrun, hended, hW, hsame⟩ := X.leave (v := none) (fun _ => rfl)
  refine ⟨_, _, X.returnOut hx (hrt.trans hrt') (hb hby hd) hr, hrun, hended, _, _, rfl, ?_, ⟨_, rfl⟩, hW, hsame.mono hk hn⟩
  show Q _ T.heap _
  rw [eT]; exact q
theorem sel_priv {a0 args : Array Value} {s : State} {y : MethodName} {kk : Nat} (hZ : Z.Warmed39 s.vm) (wi : (Jvm.Cond.instantiable y.cls kk).before a0 Z = true) (wp : (Jvm.Cond.privateMethod y).before a0 Z = true) (w2 : (Jvm.Cond.instanceMethod y).before a0 Z = true) (hy : y.cls ≠ "java/lang/invoke/MethodHandle" ∧ y.cls ≠ "java/lang/invoke/VarHandle") : (Jvm.Cond.selects y.cls y y).before args s = true := by
  have wi' : (Jvm.Cond.instantiable y.cls kk).before args s = true := mvT hZ wi
  obtain ⟨cI, kI, i1, i2, -, i4, -⟩ := Cond.instantiable_spec wi'
  exact selects_self_of_private i1 i2 (Bool.or_eq_false_iff.mp i4).1 (Cond.privateMethod_at (mvP hZ wp (args := #[]))) (mvT hZ w2) hy
theorem Go.callS {a0 : Array Value} {i : Nat} {y : MethodName} {B' : ByteArray} {ml' : Nat} {rt' : Option FieldType} {R' : Room} {Q' : Option Value → Heap → List Loc → Prop} {W : Nat} {argsL : List Value} {st : List Value} {ps : List FieldType} {r : Option FieldType}
    (hd : decode B pc = .ok (.invokestatic i, 3)) (hp : pc + 3 = pc') (w1 : (Jvm.Cond.methodLink own i y).before a0 Z = true) (w2 : (Jvm.Cond.static y).before a0 Z = true) (w3 : (Jvm.Cond.initialized y.cls).before a0 Z = true) (w4 : (Jvm.Cond.code y B' ml' rt').before a0 Z = true) (hy : y.cls ≠ "java/lang/invoke/MethodHandle" ∧ y.cls ≠ "java/lang/invoke/VarHandle")
    (con : Con l Z y B' ml' rt' R' [] argsL.toArray h Q') (hf : R'.frames + 1 ≤ R.frames) (hl : W + (ml' + 11) + R'.locals ≤ R.locals) {k' n' : Nat} (hc : k + R'.cells ≤ R.cells) (hn : n + R'.slots ≤ R.slots) (hk' : k + R'.cells = k') (hn' : n + R'.slots = n') (hsz : Ls.size = ml) (hpd : parseMethodDescriptor y.desc = some ⟨ps, r⟩) (hlen : argsL.length = ps.length) (hst : st = argsL.reverse ++ rest) (hW : (rest.map fun v => v.category).sum ≤ W)
    (g : ∀ v h' L' L'', (∀ q, Fr q L → Fr q L' → Fr q L'') → Q' v h' L' → Go Z l R B ml own rt mn pc' Ls (v.toList ++ rest) h' L'' k' n' Q) : Go Z l R B ml own rt mn pc Ls st h L k n Q := by
  subst hp hk' hn'
  intro p e s m args below meth c T X hx hZ hby hml hown hrt hlk hnm eT
  obtain ⟨v, _, ⟨U, ls, cc, sl⟩, -, X', ⟨Lc, hQ, l1, y1, z1⟩, stp⟩ := Jvm.LawKit.callS X hx (y := y) hown (mvT hZ w1) (mvT hZ w2) (mvT hZ w3) (mvT hZ w4) hy (backOf (W := W) con hZ w4 w3 hf hl) (g := mkF m pc Ls st) rfl (hsz.trans hml.symm) (argsL := argsL) (rest := rest) (lenOf hpd hlen) hst (by show 2 * 0 + _ ≤ _; omega) (hb hby hd) (fun _ _ => ⟨rfl, eT, hc, hn⟩)
  dsimp only [Pt.U, Pt.locs, Pt.cells, Pt.slots] at X' hQ l1 y1 z1 stp
  subst l1 y1 z1
  obtain ⟨s₂, o, h1, h2⟩ := g v U.heap Lc _ (fun q a b => a.app b) hQ p e s m args below meth c U X' hx hZ hby hml hown hrt hlk hnm rfl
  exact ⟨s₂, o, stp _ h1, h2⟩
theorem Go.callS0 {a0 : Array Value} {i : Nat} {y : MethodName} {B' : ByteArray} {ml' : Nat} {rt' : Option FieldType} {R' : Room} {v0 : Option Value} {W : Nat} {argsL : List Value} {st : List Value} {ps : List FieldType} {r : Option FieldType}
    (hd : decode B pc = .ok (.invokestatic i, 3)) (hp : pc + 3 = pc') (w1 : (Jvm.Cond.methodLink own i y).before a0 Z = true) (w2 : (Jvm.Cond.static y).before a0 Z = true) (w3 : (Jvm.Cond.initialized y.cls).before a0 Z = true) (w4 : (Jvm.Cond.code y B' ml' rt').before a0 Z = true) (hy : y.cls ≠ "java/lang/invoke/MethodHandle" ∧ y.cls ≠ "java/lang/invoke/VarHandle")
    (con : Con l Z y B' ml' rt' R' [] argsL.toArray h (PQ h v0)) (hf : R'.frames + 1 ≤ R.frames) (hl : W + (ml' + 11) + R'.locals ≤ R.locals) {st2 : List Value} (hs2 : v0.toList ++ rest = st2) (hc : R'.cells = 0) (hn : R'.slots = 0) (hk : k ≤ R.cells) (hn2 : n ≤ R.slots) (hsz : Ls.size = ml) (hpd : parseMethodDescriptor y.desc = some ⟨ps, r⟩) (hlen : argsL.length = ps.length) (hst : st = argsL.reverse ++ rest) (hW : (rest.map fun v => v.category).sum ≤ W)
    (g : Go Z l R B ml own rt mn pc' Ls st2 h L k n Q) : Go Z l R B ml own rt mn pc Ls st h L k n Q := by
  subst hp hs2
  intro p e s m args below meth c T X hx hZ hby hml hown hrt hlk hnm eT
  obtain ⟨v, _, ⟨U, ls, cc, sl⟩, -, X', ⟨Lc, hQ, l1, y1, z1⟩, stp⟩ := Jvm.LawKit.callS X hx (y := y) hown (mvT hZ w1) (mvT hZ w2) (mvT hZ w3) (mvT hZ w4) hy (backOf (W := W) con hZ w4 w3 hf hl) (g := mkF m pc Ls st) rfl (hsz.trans hml.symm) (argsL := argsL) (rest := rest) (lenOf hpd hlen) hst (by show 2 * 0 + _ ≤ _; omega) (hb hby hd) (fun _ _ => ⟨rfl, eT, (by rw [hc]; exact hk), (by rw [hn]; exact hn2)⟩)
  dsimp only [Pt.U, Pt.locs, Pt.cells, Pt.slots] at X' hQ l1 y1 z1 stp
  obtain ⟨q1, q2, q3⟩ := hQ
  rw [q3, List.append_nil] at l1
  rw [hc, Nat.add_zero] at y1
  rw [hn, Nat.add_zero] at z1
  subst l1 y1 z1
  rw [q1] at stp
  obtain ⟨s₂, o, h1, h2⟩ := g p e s m args below meth c U X' hx hZ hby hml hown hrt hlk hnm q2
  exact ⟨s₂, o, stp _ h1, h2⟩
theorem Go.callI {a0 : Array Value} {i : Nat} {y : MethodName} {B' : ByteArray} {ml' : Nat} {R' : Room} {Q' : Option Value → Heap → List Loc → Prop} {W : Nat} {a : Addr} {argsL : List Value} {st : List Value} {ps : List FieldType} {r : Option FieldType}
    (hd : decode B pc = .ok (.invokespecial i, 3)) (hp : pc + 3 = pc') (hy1 : y.name = "<init>") (w1 : (Jvm.Cond.methodLink own i y).before a0 Z = true) (w2 : (Jvm.Cond.instanceMethod y).before a0 Z = true) (w3 : (Jvm.Cond.initialized y.cls).before a0 Z = true) (w4 : (Jvm.Cond.code y B' ml' none).before a0 Z = true) (hy : y.cls ≠ "java/lang/invoke/MethodHandle" ∧ y.cls ≠ "java/lang/invoke/VarHandle")
    (con : Con l Z y B' ml' none R' [] (.ref a :: argsL).toArray h Q') (hf : R'.frames + 1 ≤ R.frames) (hl : W + (ml' + 11) + R'.locals ≤ R.locals) {k' n' : Nat} (hc : k + R'.cells ≤ R.cells) (hn : n + R'.slots ≤ R.slots) (hk' : k + R'.cells = k') (hn' : n + R'.slots = n') (hsz : Ls.size = ml) (hpd : parseMethodDescriptor y.desc = some ⟨ps, r⟩) (hlen : argsL.length = ps.length) (hst : st = argsL.reverse ++ .ref a :: rest) (hW : (rest.map fun v => v.category).sum ≤ W)
    (g : ∀ v h' L' L'', (∀ q, Fr q L → Fr q L' → Fr q L'') → Q' v h' L' → Go Z l R B ml own rt mn pc' Ls (v.toList ++ rest) h' L'' k' n' Q) : Go Z l R B ml own rt mn pc Ls st h L k n Q := by
  subst hp hk' hn'
  intro p e s m args below meth c T X hx hZ hby hml hown hrt hlk hnm eT
  obtain ⟨v, _, ⟨U, ls, cc, sl⟩, -, X', ⟨Lc, hQ, l1, y1, z1⟩, stp⟩ := X.specialBack hx (y := y) hy1 hown (mvT hZ w1) (mvT hZ w2) (mvT hZ w4) hy (backOf (W := W) con hZ w4 w3 hf hl) (g := mkF m pc Ls st) rfl (hsz.trans hml.symm) (Steps.refl _) (a := a) (argsL := argsL) (rest := rest) (lenOf hpd hlen) hst (by show 2 * 0 + _ ≤ _; omega) (hb hby hd) (fun _ _ => ⟨rfl, eT, hc, hn⟩)
  dsimp only [Pt.U, Pt.locs, Pt.cells, Pt.slots] at X' hQ l1 y1 z1 stp
  subst l1 y1 z1
  obtain ⟨s₂, o, h1, h2⟩ := g v U.heap Lc _ (fun q a b => a.app b) hQ p e s m args below meth c U X' hx hZ hby hml hown hrt hlk hnm rfl
  exact ⟨s₂, o, stp.trans h1, h2⟩
theorem Go.callI0 {a0 : Array Value} {i : Nat} {y : MethodName} {B' : ByteArray} {ml' : Nat} {R' : Room} {v0 : Option Value} {W : Nat} {a : Addr} {argsL : List Value} {st : List Value} {ps : List FieldType} {r : Option FieldType}
    (hd : decode B pc = .ok (.invokespecial i, 3)) (hp : pc + 3 = pc') (hy1 : y.name = "<init>") (w1 : (Jvm.Cond.methodLink own i y).before a0 Z = true) (w2 : (Jvm.Cond.instanceMethod y).before a0 Z = true) (w3 : (Jvm.Cond.initialized y.cls).before a0 Z = true) (w4 : (Jvm.Cond.code y B' ml' none).before a0 Z = true) (hy : y.cls ≠ "java/lang/invoke/MethodHandle" ∧ y.cls ≠ "java/lang/invoke/VarHandle")
    (con : Con l Z y B' ml' none R' [] (.ref a :: argsL).toArray h (PQ h v0)) (hf : R'.frames + 1 ≤ R.frames) (hl : W + (ml' + 11) + R'.locals ≤ R.locals) {st2 : List Value} (hs2 : v0.toList ++ rest = st2) (hc : R'.cells = 0) (hn : R'.slots = 0) (hk : k ≤ R.cells) (hn2 : n ≤ R.slots) (hsz : Ls.size = ml) (hpd : parseMethodDescriptor y.desc = some ⟨ps, r⟩) (hlen : argsL.length = ps.length) (hst : st = argsL.reverse ++ .ref a :: rest) (hW : (rest.map fun v => v.category).sum ≤ W)
    (g : Go Z l R B ml own rt mn pc' Ls st2 h L k n Q) : Go Z l R B ml own rt mn pc Ls st h L k n Q := by
  subst hp hs2
  intro p e s m args below meth c T X hx hZ hby hml hown hrt hlk hnm eT
  obtain ⟨v, _, ⟨U, ls, cc, sl⟩, -, X', ⟨Lc, hQ, l1, y1, z1⟩, stp⟩ := X.specialBack hx (y := y) hy1 hown (mvT hZ w1) (mvT hZ w2) (mvT hZ w4) hy (backOf (W := W) con hZ w4 w3 hf hl) (g := mkF m pc Ls st) rfl (hsz.trans hml.symm) (Steps.refl _) (a := a) (argsL := argsL) (rest := rest) (lenOf hpd hlen) hst (by show 2 * 0 + _ ≤ _; omega) (hb hby hd) (fun _ _ => ⟨rfl, eT, (by rw [hc]; exact hk), (by rw [hn]; exact hn2)⟩)
  dsimp only [Pt.U, Pt.locs, Pt.cells, Pt.slots] at X' hQ l1 y1 z1 stp
  obtain ⟨q1, q2, q3⟩ := hQ
  rw [q3, List.append_nil] at l1
  rw [hc, Nat.add_zero] at y1
  rw [hn, Nat.add_zero] at z1
  subst l1 y1 z1
  rw [q1] at stp
  obtain ⟨s₂, o, h1, h2⟩ := g p e s m args below meth c U X' hx hZ hby hml hown hrt hlk hnm q2
  exact ⟨s₂, o, stp.trans h1, h2⟩
theorem Go.callV {a0 : Array Value} {i : Nat} {C : String} {y z : MethodName} {B' : ByteArray} {ml' : Nat} {rt' : Option FieldType} {R' : Room} {Q' : Option Value → Heap → List Loc → Prop} {W : Nat} {a : Addr} {argsL : List Value} {st : List Value} {ps : List FieldType} {r : Option FieldType}
    (hd : decode B pc = .ok (.invokevirtual i, 3)) (hp : pc + 3 = pc') (w1 : (Jvm.Cond.methodLink own i y).before a0 Z = true) (w2 : (Jvm.Cond.declares y).before a0 Z = true) (nf : ∀ (s : State) (args : Array Value), Z.Warmed39 s.vm → NotFace s y) (w5 : (Jvm.Cond.selects C y z).before a0 Z = true) (w6 : (Jvm.Cond.instanceMethod z).before a0 Z = true) (w3 : (Jvm.Cond.initialized z.cls).before a0 Z = true) (w4 : (Jvm.Cond.code z B' ml' rt').before a0 Z = true) (E : Exa Z h a C) (hy : y.cls ≠ "java/lang/invoke/MethodHandle" ∧ y.cls ≠ "java/lang/invoke/VarHandle")
    (con : Con l Z z B' ml' rt' R' [] (.ref a :: argsL).toArray h Q') (hf : R'.frames + 1 ≤ R.frames) (hl : W + (ml' + 11) + R'.locals ≤ R.locals) {k' n' : Nat} (hc : k + R'.cells ≤ R.cells) (hn : n + R'.slots ≤ R.slots) (hk' : k + R'.cells = k') (hn' : n + R'.slots = n') (hsz : Ls.size = ml) (hpd : parseMethodDescriptor y.desc = some ⟨ps, r⟩) (hlen : argsL.length = ps.length) (hst : st = argsL.reverse ++ .ref a :: rest) (hW : (rest.map fun v => v.category).sum ≤ W)
    (g : ∀ v h' L' L'', (∀ q, Fr q L → Fr q L' → Fr q L'') → Q' v h' L' → Go Z l R B ml own rt mn pc' Ls (v.toList ++ rest) h' L'' k' n' Q) : Go Z l R B ml own rt mn pc Ls st h L k n Q := by
  subst hp hk' hn'
  intro p e s m args below meth c T X hx hZ hby hml hown hrt hlk hnm eT
  obtain ⟨cq, kq, qa, qb, qc⟩ := isOf hZ eT E
  obtain ⟨v, _, ⟨U, ls, cc, sl⟩, -, X', ⟨Lc, hQ, l1, y1, z1⟩, stp⟩ := X.virtualBack hx (y := y) (z := z) hown (mvT hZ w1) (mvT hZ w2) (nf s args hZ) (mvT hZ w5) (mvT hZ w6) hy (backOf (W := W) con hZ w4 w3 hf hl) qa qc (g := mkF m pc Ls st) rfl (hsz.trans hml.symm) (Steps.refl _) (argsL := argsL) (rest := rest) (lenOf hpd hlen) hst (by show 2 * 0 + _ ≤ _; omega) (hb hby hd) (fun _ _ => ⟨rfl, eT, hc, hn⟩)
  dsimp only [Pt.U, Pt.locs, Pt.cells, Pt.slots] at X' hQ l1 y1 z1 stp
  subst l1 y1 z1
  obtain ⟨s₂, o, h1, h2⟩ := g v U.heap Lc _ (fun q a b => a.app b) hQ p e s m args below meth c U X' hx hZ hby hml hown hrt hlk hnm rfl
  exact ⟨s₂, o, stp.trans h1, h2⟩
theorem Go.callV0 {a0 : Array Value} {i : Nat} {C : String} {y z : MethodName} {B' : ByteArray} {ml' : Nat} {rt' : Option FieldType} {R' : Room} {v0 : Option Value} {W : Nat} {a : Addr} {argsL : List Value} {st : List Value} {ps : List FieldType} {r : Option FieldType}
    (hd : decode B pc = .ok (.invokevirtual i, 3)) (hp : pc + 3 = pc') (w1 : (Jvm.Cond.methodLink own i y).before a0 Z = true) (w2 : (Jvm.Cond.declares y).before a0 Z = true) (nf : ∀ (s : State) (args : Array Value), Z.Warmed39 s.vm → NotFace s y) (w5 : (Jvm.Cond.selects C y z).before a0 Z = true) (w6 : (Jvm.Cond.instanceMethod z).before a0 Z = true) (w3 : (Jvm.Cond.initialized z.cls).before a0 Z = true) (w4 : (Jvm.Cond.code z B' ml' rt').before a0 Z = true) (E : Exa Z h a C) (hy : y.cls ≠ "java/lang/invoke/MethodHandle" ∧ y.cls ≠ "java/lang/invoke/VarHandle")
    (con : Con l Z z B' ml' rt' R' [] (.ref a :: argsL).toArray h (PQ h v0)) (hf : R'.frames + 1 ≤ R.frames) (hl : W + (ml' + 11) + R'.locals ≤ R.locals) {st2 : List Value} (hs2 : v0.toList ++ rest = st2) (hc : R'.cells = 0) (hn : R'.slots = 0) (hk : k ≤ R.cells) (hn2 : n ≤ R.slots) (hsz : Ls.size = ml) (hpd : parseMethodDescriptor y.desc = some ⟨ps, r⟩) (hlen : argsL.length = ps.length) (hst : st = argsL.reverse ++ .ref a :: rest) (hW : (rest.map fun v => v.category).sum ≤ W)
    (g : Go Z l R B ml own rt mn pc' Ls st2 h L k n Q) : Go Z l R B ml own rt mn pc Ls st h L k n Q := by
  subst hp hs2
  intro p e s m args below meth c T X hx hZ hby hml hown hrt hlk hnm eT
  obtain ⟨cq, kq, qa, qb, qc⟩ := isOf hZ eT E
  obtain ⟨v, _, ⟨U, ls, cc, sl⟩, -, X', ⟨Lc, hQ, l1, y1, z1⟩, stp⟩ := X.virtualBack hx (y := y) (z := z) hown (mvT hZ w1) (mvT hZ w2) (nf s args hZ) (mvT hZ w5) (mvT hZ w6) hy (backOf (W := W) con hZ w4 w3 hf hl) qa qc (g := mkF m pc Ls st) rfl (hsz.trans hml.symm) (Steps.refl _) (argsL := argsL) (rest := rest) (lenOf hpd hlen) hst (by show 2 * 0 + _ ≤ _; omega) (hb hby hd) (fun _ _ => ⟨rfl, eT, (by rw [hc]; exact hk), (by rw [hn]; exact hn2)⟩)
  dsimp only [Pt.U, Pt.locs, Pt.cells, Pt.slots] at X' hQ l1 y1 z1 stp
  obtain ⟨q1, q2, q3⟩ := hQ
  rw [q3, List.append_nil] at l1
  rw [hc, Nat.add_zero] at y1
  rw [hn, Nat.add_zero] at z1
  subst l1 y1 z1
  rw [q1] at stp
  obtain ⟨s₂, o, h1, h2⟩ := g p e s m args below meth c U X' hx hZ hby hml hown hrt hlk hnm q2
  exact ⟨s₂, o, stp.trans h1, h2⟩
theorem Go.callP {a0 : Array Value} {i : Nat} {C : String} {kk : Nat} {y : MethodName} {B' : ByteArray} {ml' : Nat} {rt' : Option FieldType} {R' : Room} {Q' : Option Value → Heap → List Loc → Prop} {W : Nat} {a : Addr} {argsL : List Value} {st : List Value} {ps : List FieldType} {r : Option FieldType}
    (hd : decode B pc = .ok (.invokevirtual i, 3)) (hp : pc + 3 = pc') (w1 : (Jvm.Cond.methodLink own i y).before a0 Z = true) (w2 : (Jvm.Cond.instanceMethod y).before a0 Z = true) (w5 : (Jvm.Cond.instantiable y.cls kk).before a0 Z = true) (w6 : (Jvm.Cond.privateMethod y).before a0 Z = true) (w3 : (Jvm.Cond.initialized y.cls).before a0 Z = true) (w4 : (Jvm.Cond.code y B' ml' rt').before a0 Z = true) (E : Exa Z h a C) (hy : y.cls ≠ "java/lang/invoke/MethodHandle" ∧ y.cls ≠ "java/lang/invoke/VarHandle")
    (con : Con l Z y B' ml' rt' R' [] (.ref a :: argsL).toArray h Q') (hf : R'.frames + 1 ≤ R.frames) (hl : W + (ml' + 11) + R'.locals ≤ R.locals) {k' n' : Nat} (hc : k + R'.cells ≤ R.cells) (hn : n + R'.slots ≤ R.slots) (hk' : k + R'.cells = k') (hn' : n + R'.slots = n') (hsz : Ls.size = ml) (hpd : parseMethodDescriptor y.desc = some ⟨ps, r⟩) (hlen : argsL.length = ps.length) (hst : st = argsL.reverse ++ .ref a :: rest) (hW : (rest.map fun v => v.category).sum ≤ W)
    (g : ∀ v h' L' L'', (∀ q, Fr q L → Fr q L' → Fr q L'') → Q' v h' L' → Go Z l R B ml own rt mn pc' Ls (v.toList ++ rest) h' L'' k' n' Q) : Go Z l R B ml own rt mn pc Ls st h L k n Q := by
  subst hp hk' hn'
  intro p e s m args below meth c T X hx hZ hby hml hown hrt hlk hnm eT
  obtain ⟨cq, q1, q2⟩ := E.cell
  obtain ⟨v, _, ⟨U, ls, cc, sl⟩, -, X', ⟨Lc, hQ, l1, y1, z1⟩, stp⟩ := X.privateBack hx (y := y) hown (mvT hZ w1) (mvT hZ w2) (sel_priv hZ w5 w6 w2 hy) (Cond.privateMethod_at (mvP hZ w6 (args := #[]))) (mvT hZ w4) hy (backOf (W := W) con hZ w4 w3 hf hl) (g := mkF m pc Ls st) rfl (hsz.trans hml.symm) (Steps.refl _) (a := a) (by rw [eT]; exact q1) q2 (argsL := argsL) (rest := rest) (lenOf hpd hlen) hst (by show 2 * 0 + _ ≤ _; omega) (hb hby hd) (fun _ _ => ⟨rfl, eT, hc, hn⟩)
  dsimp only [Pt.U, Pt.locs, Pt.cells, Pt.slots] at X' hQ l1 y1 z1 stp
  subst l1 y1 z1
  obtain ⟨s₂, o, h1, h2⟩ := g v U.heap Lc _ (fun q a b => a.app b) hQ p e s m args below meth c U X' hx hZ hby hml hown hrt hlk hnm rfl
  exact ⟨s₂, o, stp.trans h1, h2⟩
theorem Go.callP0 {a0 : Array Value} {i : Nat} {C : String} {kk : Nat} {y : MethodName} {B' : ByteArray} {ml' : Nat} {rt' : Option FieldType} {R' : Room} {v0 : Option Value} {W : Nat} {a : Addr} {argsL : List Value} {st : List Value} {ps : List FieldType} {r : Option FieldType}
    (hd : decode B pc = .ok (.invokevirtual i, 3)) (hp : pc + 3 = pc') (w1 : (Jvm.Cond.methodLink own i y).before a0 Z = true) (w2 : (Jvm.Cond.instanceMethod y).before a0 Z = true) (w5 : (Jvm.Cond.instantiable y.cls kk).before a0 Z = true) (w6 : (Jvm.Cond.privateMethod y).before a0 Z = true) (w3 : (Jvm.Cond.initialized y.cls).before a0 Z = true) (w4 : (Jvm.Cond.code y B' ml' rt').before a0 Z = true) (E : Exa Z h a C) (hy : y.cls ≠ "java/lang/invoke/MethodHandle" ∧ y.cls ≠ "java/lang/invoke/VarHandle")
    (con : Con l Z y B' ml' rt' R' [] (.ref a :: argsL).toArray h (PQ h v0)) (hf : R'.frames + 1 ≤ R.frames) (hl : W + (ml' + 11) + R'.locals ≤ R.locals) {st2 : List Value} (hs2 : v0.toList ++ rest = st2) (hc : R'.cells = 0) (hn : R'.slots = 0) (hk : k ≤ R.cells) (hn2 : n ≤ R.slots) (hsz : Ls.size = ml) (hpd : parseMethodDescriptor y.desc = some ⟨ps, r⟩) (hlen : argsL.length = ps.length) (hst : st = argsL.reverse ++ .ref a :: rest) (hW : (rest.map fun v => v.category).sum ≤ W)
    (g : Go Z l R B ml own rt mn pc' Ls st2 h L k n Q) : Go Z l R B ml own rt mn pc Ls st h L k n Q := by
  subst hp hs2
  intro p e s m args below meth c T X hx hZ hby hml hown hrt hlk hnm eT
  obtain ⟨cq, q1, q2⟩ := E.cell
  obtain ⟨v, _, ⟨U, ls, cc, sl⟩, -, X', ⟨Lc, hQ, l1, y1, z1⟩, stp⟩ := X.privateBack hx (y := y) hown (mvT hZ w1) (mvT hZ w2) (sel_priv hZ w5 w6 w2 hy) (Cond.privateMethod_at (mvP hZ w6 (args := #[]))) (mvT hZ w4) hy (backOf (W := W) con hZ w4 w3 hf hl) (g := mkF m pc Ls st) rfl (hsz.trans hml.symm) (Steps.refl _) (a := a) (by rw [eT]; exact q1) q2 (argsL := argsL) (rest := rest) (lenOf hpd hlen) hst (by show 2 * 0 + _ ≤ _; omega) (hb hby hd) (fun _ _ => ⟨rfl, eT, (by rw [hc]; exact hk), (by rw [hn]; exact hn2)⟩)
  dsimp only [Pt.U, Pt.locs, Pt.cells, Pt.slots] at X' hQ l1 y1 z1 stp
  obtain ⟨q1, q2, q3⟩ := hQ
  rw [q3, List.append_nil] at l1
  rw [hc, Nat.add_zero] at y1
  rw [hn, Nat.add_zero] at z1
  subst l1 y1 z1
  rw [q1] at stp
  obtain ⟨s₂, o, h1, h2⟩ := g p e s m args below meth c U X' hx hZ hby hml hown hrt hlk hnm q2
  exact ⟨s₂, o, stp.trans h1, h2⟩
theorem nf_sel {a0 : Array Value} {C : String} {y : MethodName} (w : (Jvm.Cond.selects C y y).before a0 Z = true) : ∀ (s : State) (args : Array Value), Z.Warmed39 s.vm → NotFace s y := fun s args hZ => notFace_of_selects (args := args) (mvT hZ w)
theorem Go.initO {a0 : Array Value} {i : Nat} {W : Nat} {a : Addr} (hd : decode B pc = .ok (.invokespecial i, 3)) (hp : pc + 3 = pc') (w1 : (Jvm.Cond.methodLink own i Lib.objectInit).before a0 Z = true) (w2 : (Jvm.Cond.instanceMethod Lib.objectInit).before a0 Z = true) (w3 : (Jvm.Cond.code Lib.objectInit ⟨#[0xb1]⟩ 1 none).before a0 Z = true) (hf : 1 ≤ R.frames) (hl : W + 12 ≤ R.locals) (hsz : Ls.size = ml) (hW : (rest.map fun v => v.category).sum ≤ W)
    (g : Go Z l R B ml own rt mn pc' Ls rest h L k n Q) : Go Z l R B ml own rt mn pc Ls (.ref a :: rest) h L k n Q := by
  subst hp
  intro p e s m args below meth c T X hx hZ hby hml hown hrt hlk hnm eT
  obtain ⟨T', X', e', stp⟩ := Jvm.RoadKit.initO X hx hZ hown w1 w2 w3 eT (g := mkF m pc Ls (.ref a :: rest)) rfl (hsz.trans hml.symm) rfl (hb hby hd) hf (W := W) (by show 2 * 0 + _ ≤ _; omega) hl
  obtain ⟨s₂, o, h1, h2⟩ := g p e s m args below meth c T' X' hx hZ hby hml hown hrt hlk hnm e'
  exact ⟨s₂, o, stp _ h1, h2⟩
/-! objects -/
theorem Go.newO {a0 : Array Value} {st : List Value} {i sz : Nat} {C : String} {k' n' : Nat} (hd : decode B pc = .ok (.new i, 3)) (hp : pc + 3 = pc') (w : (Jvm.Cond.classLink own i C).before a0 Z = true) (wi : (Jvm.Cond.instantiable C sz).before a0 Z = true) (wz : (Jvm.Cond.initialized C).before a0 Z = true) (hc : k + 1 ≤ R.cells) (hl : n + sz ≤ R.slots) (hk' : k + 1 = k') (hn' : n + sz = n')
    (g : ∀ h' a, a = h.size → Ext h h' → Exa Z h' a C → (∀ {O nm d : String} {ty : FieldType}, Laid Z a0 C O nm d → parseFieldDescriptor d = some ty → Fld Z h' a O nm d (defaultValue ty)) → Go Z l R B ml own rt mn pc' Ls (.ref a :: st) h' L k' n' Q) : Go Z l R B ml own rt mn pc Ls st h L k n Q := by
  subst hp hk' hn'
  intro p e s m args below meth c T X hx hZ hby hml hown hrt hlk hnm eT
  obtain ⟨T', h', X', e', E', A', D', -, stp⟩ := Jvm.RoadKit.newO X hx hZ hown w wi wz eT (g := mkF m pc Ls st) rfl (hb hby hd) hc hl
  obtain ⟨s₂, o, h1, h2⟩ := g h' _ rfl E' A' D' p e s m args below meth c T' X' hx hZ hby hml hown hrt hlk hnm e'
  exact ⟨s₂, o, stp _ h1, h2⟩
theorem Go.getF {a0 : Array Value} {i : Nat} {R0 O f d : String} {a : Addr} {v : Value} (hd : decode B pc = .ok (.getfield i, 3)) (hp : pc + 3 = pc') (w : (Jvm.Cond.fieldLink own i R0 f d).before a0 Z = true) (via : Via Z R0 O f d) (F : Fld Z h a O f d v) (g : Go Z l R B ml own rt mn pc' Ls (v :: rest) h L k n Q) : Go Z l R B ml own rt mn pc Ls (.ref a :: rest) h L k n Q := by
  subst hp
  intro p e s m args below meth c T X hx hZ hby hml hown hrt hlk hnm eT
  obtain ⟨T', X', e', stp⟩ := Jvm.RoadKit.getF X hx hZ hown (host := "") (Or.inl w) via eT F (g := mkF m pc Ls (.ref a :: rest)) rfl rfl (hb hby hd)
  obtain ⟨s₂, o, h1, h2⟩ := g p e s m args below meth c T' X' hx hZ hby hml hown hrt hlk hnm e'
  exact ⟨s₂, o, stp _ h1, h2⟩
theorem Go.putF {a0 : Array Value} {i kk : Nat} {R0 O f d C : String} {a : Addr} {v old : Value} {ty : FieldType} (hd : decode B pc = .ok (.putfield i, 3)) (hp : pc + 3 = pc') (w : (Jvm.Cond.fieldLink own i R0 f d).before a0 Z = true) (via : Via Z R0 O f d) (F : Fld Z h a O f d old) (E : Exa Z h a C) (lw : (Jvm.Cond.lays C O f d).before a0 Z = true ∨ ((Jvm.Cond.laysFinal C O f d).before a0 Z = true ∧ own = O ∧ mn = "<init>")) (wi : (Jvm.Cond.instantiable C kk).before a0 Z = true)
    (hty : parseFieldDescriptor d = some ty) (hn : narrow ty v = v) (hf : fits ty v = true) (g : ∀ h' L', (∀ q, Fr q L → q ≤ a → Fr q L') → Wr h h' a (Jvm.RoadKit.slotOf Z O f d) v → Go Z l R B ml own rt mn pc' Ls rest h' L' k n Q) : Go Z l R B ml own rt mn pc Ls (v :: .ref a :: rest) h L k n Q := by
  subst hp
  intro p e s m args below meth c T X hx hZ hby hml hown hrt hlk hnm eT
  obtain ⟨T', h', X', e', W', stp⟩ := Jvm.RoadKit.putF X hx hZ hown (host := "") (Or.inl w) via eT F E (lw.imp id fun q => ⟨q.1, q.2.1, hnm.trans q.2.2⟩) wi hty hn hf (g := mkF m pc Ls (v :: .ref a :: rest)) rfl rfl (hb hby hd)
  obtain ⟨s₂, o, h1, h2⟩ := g h' _ (fun q N r => fr_one N r) W' p e s m args below meth c T' X' hx hZ hby hml hown hrt hlk hnm e'
  exact ⟨s₂, o, stp _ h1, h2⟩
/-! arrays: the very list of values -/
def Al (Z : State) (h : Heap) (a : Addr) (ty : FieldType) (vs : List Value) : Prop := vs.length < 2 ^ 31 ∧ ∃ c : Cell, Arr Z h a c ty ∧ c.slots = vs.toArray
theorem Al.lt {a : Addr} {ty : FieldType} {vs : List Value} (A : Al Z h a ty vs) : a < h.size := by obtain ⟨-, c, A, -⟩ := A; exact A.lt
theorem Al.ext {h' : Heap} {a : Addr} {ty : FieldType} {vs : List Value} (A : Al Z h a ty vs) (E : Ext h h') : Al Z h' a ty vs := by obtain ⟨q, c, A, r⟩ := A; exact ⟨q, c, A.ext E, r⟩
theorem Al.other {h' : Heap} {a b : Addr} {sl : Nat} {v : Value} {ty : FieldType} {vs : List Value} (A : Al Z h b ty vs) (W : Wr h h' a sl v) (ne : b ≠ a) : Al Z h' b ty vs := by obtain ⟨q, c, A, r⟩ := A; exact ⟨q, c, A.other W ne, r⟩
theorem Al.keep {h' : Heap} {a : Addr} {ty : FieldType} {vs : List Value} {ws : List Addr} (A : Al Z h a ty vs) (K : Keep h h' ws) (q : a ∉ ws) : Al Z h' a ty vs := by obtain ⟨q0, c, A, r⟩ := A; exact ⟨q0, c, ⟨K.2.1 a c A.1 q, A.2⟩, r⟩
theorem Al.set {h' : Heap} {a : Addr} {ty : FieldType} {vs : List Value} {i : Nat} {v : Value} (A : Al Z h a ty vs) (W : Wr h h' a i v) : Al Z h' a ty (vs.set i v) := by
  obtain ⟨q, c, A, r⟩ := A
  refine ⟨by simpa using q, c.setSlot i v, A.same W, ?_⟩
  simp [Cell.setSlot, r]
theorem Al.new {a : Addr} {ty : FieldType} {kc : ClassId} {z : Int32} {N : Nat} (A : Arr Z h a (newA kc ty z) ty) (hz : z.toInt = (N : Int)) : Al Z h a ty (List.replicate N (defaultValue ty)) := by
  have h1 : z.toNatClampNeg = N := by show z.toInt.toNat = N; omega
  have h2 := z.toInt_lt
  refine ⟨by simp; omega, _, A, ?_⟩
  simp [newA, h1]
theorem ne_al {a0 : Array Value} {a b : Addr} {C : String} {kk : Nat} {ty : FieldType} {vs : List Value} (F : Exa Z h a C) (wi : (Jvm.Cond.instantiable C kk).before a0 Z = true) (A : Al Z h b ty vs) : a ≠ b := by obtain ⟨-, c, A, -⟩ := A; exact ne_arr F wi A
theorem in_of {c : Cell} {vs : List Value} {j : Int32} {i : Nat} (r : c.slots = vs.toArray) (hj : j.toInt = (i : Int)) (hi : i < vs.length) : ¬ (j < 0 ∨ c.slots.size ≤ j.toNatClampNeg) := by
  have h1 : j.toNatClampNeg = i := by show j.toInt.toNat = i; omega
  rw [h1, r, Int32.lt_iff_toInt_lt]
  have z0 : (0 : Int32).toInt = 0 := rfl
  rw [z0]
  intro q
  rcases q with q | q
  · omega
  · rw [List.size_toArray] at q; omega
theorem at_of {c : Cell} {vs : List Value} {j : Int32} {i : Nat} {v : Value} (r : c.slots = vs.toArray) (hj : j.toInt = (i : Int)) (hv : vs[i]? = some v) : c.slots[j.toNatClampNeg]? = some v := by
  have h1 : j.toNatClampNeg = i := by show j.toInt.toNat = i; omega
  rw [h1, r]; simpa using hv
theorem Go.iaload {a : Addr} {vs : List Value} {j : Int32} {i : Nat} {v : Value} (hd : decode B pc = .ok (.iaload, 1)) (hp : pc + 1 = pc') (A : Al Z h a .int vs) (hj : j.toInt = (i : Int)) (hv : vs[i]? = some v) (g : Go Z l R B ml own rt mn pc' Ls (v :: rest) h L k n Q) : Go Z l R B ml own rt mn pc Ls (.int j :: .ref a :: rest) h L k n Q := by
  obtain ⟨q, c, A, r⟩ := A
  subst hp
  exact Go.stand (fun p e s m args below meth c' T t X hx hZ hB hown eT hr => X.iaload hx (j := j) (v := v) (by rw [eT]; exact A.1) (State.isArrayOf_alike hZ.alike A.2.1) A.2.2 (in_of r hj (List.getElem?_eq_some_iff.mp hv).1) (at_of r hj hv) (g := mkF m pc Ls (.int j :: .ref a :: rest)) rfl rfl (hb hB hd) _ hr) g
theorem Go.laload {a : Addr} {vs : List Value} {j : Int32} {i : Nat} {v : Value} (hd : decode B pc = .ok (.laload, 1)) (hp : pc + 1 = pc') (A : Al Z h a .long vs) (hj : j.toInt = (i : Int)) (hv : vs[i]? = some v) (g : Go Z l R B ml own rt mn pc' Ls (v :: rest) h L k n Q) : Go Z l R B ml own rt mn pc Ls (.int j :: .ref a :: rest) h L k n Q := by
  obtain ⟨q, c, A, r⟩ := A
  subst hp
  exact Go.stand (fun p e s m args below meth c' T t X hx hZ hB hown eT hr => X.laload hx (j := j) (v := v) (by rw [eT]; exact A.1) (State.isArrayOf_alike hZ.alike A.2.1) A.2.2 (in_of r hj (List.getElem?_eq_some_iff.mp hv).1) (at_of r hj hv) (g := mkF m pc Ls (.int j :: .ref a :: rest)) rfl rfl (hb hB hd) _ hr) g
theorem Go.baloadB {a : Addr} {vs : List Value} {j : Int32} {i : Nat} {v : Value} (hd : decode B pc = .ok (.baload, 1)) (hp : pc + 1 = pc') (A : Al Z h a .byte vs) (hj : j.toInt = (i : Int)) (hv : vs[i]? = some v) (g : Go Z l R B ml own rt mn pc' Ls (v :: rest) h L k n Q) : Go Z l R B ml own rt mn pc Ls (.int j :: .ref a :: rest) h L k n Q := by
  obtain ⟨q, c, A, r⟩ := A
  subst hp
  exact Go.stand (fun p e s m args below meth c' T t X hx hZ hB hown eT hr => X.baloadBytes hx (j := j) (v := v) (by rw [eT]; exact A.1) (State.isArrayOf_alike hZ.alike A.2.1) A.2.2 (in_of r hj (List.getElem?_eq_some_iff.mp hv).1) (at_of r hj hv) (g := mkF m pc Ls (.int j :: .ref a :: rest)) rfl rfl (hb hB hd) _ hr) g
theorem Go.baloadZ {a : Addr} {vs : List Value} {j : Int32} {i : Nat} {v : Value} (hd : decode B pc = .ok (.baload, 1)) (hp : pc + 1 = pc') (A : Al Z h a .boolean vs) (hj : j.toInt = (i : Int)) (hv : vs[i]? = some v) (g : Go Z l R B ml own rt mn pc' Ls (v :: rest) h L k n Q) : Go Z l R B ml own rt mn pc Ls (.int j :: .ref a :: rest) h L k n Q := by
  obtain ⟨q, c, A, r⟩ := A
  subst hp
  exact Go.stand (fun p e s m args below meth c' T t X hx hZ hB hown eT hr => X.baloadBooleans hx (j := j) (v := v) (by rw [eT]; exact A.1) (State.isArrayOf_alike hZ.alike A.2.1) A.2.2 (in_of r hj (List.getElem?_eq_some_iff.mp hv).1) (at_of r hj hv) (g := mkF m pc Ls (.int j :: .ref a :: rest)) rfl rfl (hb hB hd) _ hr) g
theorem Go.iastore {a : Addr} {vs vs' : List Value} {j : Int32} {x : Int32} {i : Nat} {v : Value} (hd : decode B pc = .ok (.iastore, 1)) (hp : pc + 1 = pc') (A : Al Z h a .int vs) (hj : j.toInt = (i : Int)) (hi : i < vs.length) (hv : .int x = v) (hs : vs.set i v = vs') (g : ∀ h' L', (∀ q, Fr q L → q ≤ a → Fr q L') → Wr h h' a i v → Al Z h' a .int vs' → Go Z l R B ml own rt mn pc' Ls rest h' L' k n Q) : Go Z l R B ml own rt mn pc Ls (.int x :: .int j :: .ref a :: rest) h L k n Q := by
  have A' := A
  obtain ⟨q, c, A, r⟩ := A
  subst hp hs
  intro p e s m args below meth c' T X hx hZ hby hml hown hrt hlk hnm eT
  obtain ⟨T', h', X', e', W', stp⟩ := stI X hx hZ eT A (j := j) (in_of r hj hi) (g := mkF m pc Ls (.int x :: .int j :: .ref a :: rest)) rfl rfl (hb hby hd)
  have h1 : j.toNatClampNeg = i := by show j.toInt.toNat = i; omega
  rw [h1] at X' W'
  subst hv
  obtain ⟨s₂, o, h1, h2⟩ := g h' _ (fun q N r => fr_one N r) W' (A'.set W') p e s m args below meth c' T' X' hx hZ hby hml hown hrt hlk hnm e'
  exact ⟨s₂, o, stp _ h1, h2⟩
theorem Go.lastore {a : Addr} {vs vs' : List Value} {j : Int32} {x : Int64} {i : Nat} {v : Value} (hd : decode B pc = .ok (.lastore, 1)) (hp : pc + 1 = pc') (A : Al Z h a .long vs) (hj : j.toInt = (i : Int)) (hi : i < vs.length) (hv : .long x = v) (hs : vs.set i v = vs') (g : ∀ h' L', (∀ q, Fr q L → q ≤ a → Fr q L') → Wr h h' a i v → Al Z h' a .long vs' → Go Z l R B ml own rt mn pc' Ls rest h' L' k n Q) : Go Z l R B ml own rt mn pc Ls (.long x :: .int j :: .ref a :: rest) h L k n Q := by
  have A' := A
  obtain ⟨q, c, A, r⟩ := A
  subst hp hs
  intro p e s m args below meth c' T X hx hZ hby hml hown hrt hlk hnm eT
  obtain ⟨T', h', X', e', W', stp⟩ := stJ X hx hZ eT A (j := j) (in_of r hj hi) (g := mkF m pc Ls (.long x :: .int j :: .ref a :: rest)) rfl rfl (hb hby hd)
  have h1 : j.toNatClampNeg = i := by show j.toInt.toNat = i; omega
  rw [h1] at X' W'
  subst hv
  obtain ⟨s₂, o, h1, h2⟩ := g h' _ (fun q N r => fr_one N r) W' (A'.set W') p e s m args below meth c' T' X' hx hZ hby hml hown hrt hlk hnm e'
  exact ⟨s₂, o, stp _ h1, h2⟩
theorem Go.bastoreB {a : Addr} {vs vs' : List Value} {j : Int32} {x : Int32} {i : Nat} {v : Value} (hd : decode B pc = .ok (.bastore, 1)) (hp : pc + 1 = pc') (A : Al Z h a .byte vs) (hj : j.toInt = (i : Int)) (hi : i < vs.length) (hv : .int (nar .byte x) = v) (hs : vs.set i v = vs') (g : ∀ h' L', (∀ q, Fr q L → q ≤ a → Fr q L') → Wr h h' a i v → Al Z h' a .byte vs' → Go Z l R B ml own rt mn pc' Ls rest h' L' k n Q) : Go Z l R B ml own rt mn pc Ls (.int x :: .int j :: .ref a :: rest) h L k n Q := by
  have A' := A
  obtain ⟨q, c, A, r⟩ := A
  subst hp hs
  intro p e s m args below meth c' T X hx hZ hby hml hown hrt hlk hnm eT
  obtain ⟨T', h', X', e', W', stp⟩ := stB X hx hZ eT A (j := j) (in_of r hj hi) (g := mkF m pc Ls (.int x :: .int j :: .ref a :: rest)) rfl rfl (hb hby hd)
  have h1 : j.toNatClampNeg = i := by show j.toInt.toNat = i; omega
  rw [h1] at X' W'
  subst hv
  obtain ⟨s₂, o, h1, h2⟩ := g h' _ (fun q N r => fr_one N r) W' (A'.set W') p e s m args below meth c' T' X' hx hZ hby hml hown hrt hlk hnm e'
  exact ⟨s₂, o, stp _ h1, h2⟩
theorem Go.bastoreZ {a : Addr} {vs vs' : List Value} {j : Int32} {x : Int32} {i : Nat} {v : Value} (hd : decode B pc = .ok (.bastore, 1)) (hp : pc + 1 = pc') (A : Al Z h a .boolean vs) (hj : j.toInt = (i : Int)) (hi : i < vs.length) (hv : .int (nar .boolean x) = v) (hs : vs.set i v = vs') (g : ∀ h' L', (∀ q, Fr q L → q ≤ a → Fr q L') → Wr h h' a i v → Al Z h' a .boolean vs' → Go Z l R B ml own rt mn pc' Ls rest h' L' k n Q) : Go Z l R B ml own rt mn pc Ls (.int x :: .int j :: .ref a :: rest) h L k n Q := by
  have A' := A
  obtain ⟨q, c, A, r⟩ := A
  subst hp hs
  intro p e s m args below meth c' T X hx hZ hby hml hown hrt hlk hnm eT
  obtain ⟨T', h', X', e', W', stp⟩ := stZ X hx hZ eT A (j := j) (in_of r hj hi) (g := mkF m pc Ls (.int x :: .int j :: .ref a :: rest)) rfl rfl (hb hby hd)
  have h1 : j.toNatClampNeg = i := by show j.toInt.toNat = i; omega
  rw [h1] at X' W'
  subst hv
  obtain ⟨s₂, o, h1, h2⟩ := g h' _ (fun q N r => fr_one N r) W' (A'.set W') p e s m args below meth c' T' X' hx hZ hby hml hown hrt hlk hnm e'
  exact ⟨s₂, o, stp _ h1, h2⟩
theorem Go.arraylength {a : Addr} {ty : FieldType} {vs : List Value} {z : Int32} (hd : decode B pc = .ok (.arraylength, 1)) (hp : pc + 1 = pc') (A : Al Z h a ty vs) (hz : vs.length.toInt32 = z) (g : Go Z l R B ml own rt mn pc' Ls (.int z :: rest) h L k n Q) : Go Z l R B ml own rt mn pc Ls (.ref a :: rest) h L k n Q := by
  obtain ⟨q, c, A, r⟩ := A
  subst hp hz
  refine Go.stand (fun p e s m args below meth c' T t X hx hZ hB hown eT hr => X.arraylength hx (by rw [eT]; exact A.1) (State.isArrayOf_alike hZ.alike A.2.1) (g := mkF m pc Ls (.ref a :: rest)) rfl rfl (hb hB hd) _ ?_) g
  rw [r]; simpa using hr
theorem Go.new_int {a0 : Array Value} {z : Int32} {N : Nat} {k' n' : Nat} {vs : List Value} (hd : decode B pc = .ok (.newarray .int, 2)) (hp : pc + 2 = pc') (w : (Jvm.Cond.arrayClass (.int)).before a0 Z = true) (hz : z.toInt = (N : Int)) (hvs : List.replicate N (defaultValue .int) = vs) (cap : Nat) (hcap : N ≤ cap) (h8 : cap * 8 ≤ 536870912) (hc : k + 1 ≤ R.cells) (hl : n + cap ≤ R.slots) (hk' : k + 1 = k') (hn' : n + cap = n')
    (g : ∀ h' a, a = h.size → Ext h h' → Al Z h' a .int vs → Go Z l R B ml own rt mn pc' Ls (.ref a :: rest) h' L k' n' Q) : Go Z l R B ml own rt mn pc Ls (.int z :: rest) h L k n Q := by
  subst hp hk' hn' hvs
  intro p e s m args below meth c T X hx hZ hby hml hown hrt hlk hnm eT
  have hz0 : ¬ z < 0 := by
    rw [Int32.lt_iff_toInt_lt]; have z0 : (0 : Int32).toInt = 0 := rfl
    omega
  obtain ⟨T', h', cA, X', e', E', A', stp⟩ := newP X hx hZ (aty := .int) w eT (g := mkF m pc Ls (.int z :: rest)) rfl (hb hby hd) rfl hz0 (cap := cap) (by show z.toInt.toNat ≤ cap; omega) h8 hc hl
  obtain ⟨s₂, o, h1, h2⟩ := g h' _ rfl E' (Al.new A' hz) p e s m args below meth c T' X' hx hZ hby hml hown hrt hlk hnm e'
  exact ⟨s₂, o, stp _ h1, h2⟩
theorem Go.new_long {a0 : Array Value} {z : Int32} {N : Nat} {k' n' : Nat} {vs : List Value} (hd : decode B pc = .ok (.newarray .long, 2)) (hp : pc + 2 = pc') (w : (Jvm.Cond.arrayClass (.long)).before a0 Z = true) (hz : z.toInt = (N : Int)) (hvs : List.replicate N (defaultValue .long) = vs) (cap : Nat) (hcap : N ≤ cap) (h8 : cap * 8 ≤ 536870912) (hc : k + 1 ≤ R.cells) (hl : n + cap ≤ R.slots) (hk' : k + 1 = k') (hn' : n + cap = n')
    (g : ∀ h' a, a = h.size → Ext h h' → Al Z h' a .long vs → Go Z l R B ml own rt mn pc' Ls (.ref a :: rest) h' L k' n' Q) : Go Z l R B ml own rt mn pc Ls (.int z :: rest) h L k n Q := by
  subst hp hk' hn' hvs
  intro p e s m args below meth c T X hx hZ hby hml hown hrt hlk hnm eT
  have hz0 : ¬ z < 0 := by
    rw [Int32.lt_iff_toInt_lt]; have z0 : (0 : Int32).toInt = 0 := rfl
    omega
  obtain ⟨T', h', cA, X', e', E', A', stp⟩ := newP X hx hZ (aty := .long) w eT (g := mkF m pc Ls (.int z :: rest)) rfl (hb hby hd) rfl hz0 (cap := cap) (by show z.toInt.toNat ≤ cap; omega) h8 hc hl
  obtain ⟨s₂, o, h1, h2⟩ := g h' _ rfl E' (Al.new A' hz) p e s m args below meth c T' X' hx hZ hby hml hown hrt hlk hnm e'
  exact ⟨s₂, o, stp _ h1, h2⟩
theorem Go.new_byte {a0 : Array Value} {z : Int32} {N : Nat} {k' n' : Nat} {vs : List Value} (hd : decode B pc = .ok (.newarray .byte, 2)) (hp : pc + 2 = pc') (w : (Jvm.Cond.arrayClass (.byte)).before a0 Z = true) (hz : z.toInt = (N : Int)) (hvs : List.replicate N (defaultValue .byte) = vs) (cap : Nat) (hcap : N ≤ cap) (h8 : cap * 8 ≤ 536870912) (hc : k + 1 ≤ R.cells) (hl : n + cap ≤ R.slots) (hk' : k + 1 = k') (hn' : n + cap = n')
    (g : ∀ h' a, a = h.size → Ext h h' → Al Z h' a .byte vs → Go Z l R B ml own rt mn pc' Ls (.ref a :: rest) h' L k' n' Q) : Go Z l R B ml own rt mn pc Ls (.int z :: rest) h L k n Q := by
  subst hp hk' hn' hvs
  intro p e s m args below meth c T X hx hZ hby hml hown hrt hlk hnm eT
  have hz0 : ¬ z < 0 := by
    rw [Int32.lt_iff_toInt_lt]; have z0 : (0 : Int32).toInt = 0 := rfl
    omega
  obtain ⟨T', h', cA, X', e', E', A', stp⟩ := newP X hx hZ (aty := .byte) w eT (g := mkF m pc Ls (.int z :: rest)) rfl (hb hby hd) rfl hz0 (cap := cap) (by show z.toInt.toNat ≤ cap; omega) h8 hc hl
  obtain ⟨s₂, o, h1, h2⟩ := g h' _ rfl E' (Al.new A' hz) p e s m args below meth c T' X' hx hZ hby hml hown hrt hlk hnm e'
  exact ⟨s₂, o, stp _ h1, h2⟩
theorem Go.new_boolean {a0 : Array Value} {z : Int32} {N : Nat} {k' n' : Nat} {vs : List Value} (hd : decode B pc = .ok (.newarray .boolean, 2)) (hp : pc + 2 = pc') (w : (Jvm.Cond.arrayClass (.boolean)).before a0 Z = true) (hz : z.toInt = (N : Int)) (hvs : List.replicate N (defaultValue .boolean) = vs) (cap : Nat) (hcap : N ≤ cap) (h8 : cap * 8 ≤ 536870912) (hc : k + 1 ≤ R.cells) (hl : n + cap ≤ R.slots) (hk' : k + 1 = k') (hn' : n + cap = n')
    (g : ∀ h' a, a = h.size → Ext h h' → Al Z h' a .boolean vs → Go Z l R B ml own rt mn pc' Ls (.ref a :: rest) h' L k' n' Q) : Go Z l R B ml own rt mn pc Ls (.int z :: rest) h L k n Q := by
  subst hp hk' hn' hvs
  intro p e s m args below meth c T X hx hZ hby hml hown hrt hlk hnm eT
  have hz0 : ¬ z < 0 := by
    rw [Int32.lt_iff_toInt_lt]; have z0 : (0 : Int32).toInt = 0 := rfl
    omega
  obtain ⟨T', h', cA, X', e', E', A', stp⟩ := newP X hx hZ (aty := .boolean) w eT (g := mkF m pc Ls (.int z :: rest)) rfl (hb hby hd) rfl hz0 (cap := cap) (by show z.toInt.toNat ≤ cap; omega) h8 hc hl
  obtain ⟨s₂, o, h1, h2⟩ := g h' _ rfl E' (Al.new A' hz) p e s m args below meth c T' X' hx hZ hby hml hown hrt hlk hnm e'
  exact ⟨s₂, o, stp _ h1, h2⟩
theorem iadd_eq {x y : Int32} (h1 : -2147483648 ≤ x.toInt + y.toInt) (h2 : x.toInt + y.toInt < 2147483648) : (x + y).toInt = x.toInt + y.toInt := by
  have e := c_iadd x y
  have r := rng32 (x + y)
  omega
theorem isub_eq {x y : Int32} (h1 : -2147483648 ≤ x.toInt - y.toInt) (h2 : x.toInt - y.toInt < 2147483648) : (x - y).toInt = x.toInt - y.toInt := by
  have e := c_isub x y
  have r := rng32 (x - y)
  omega
theorem ladd_eq {x y : Int64} (h1 : -9223372036854775808 ≤ x.toInt + y.toInt) (h2 : x.toInt + y.toInt < 9223372036854775808) : (x + y).toInt = x.toInt + y.toInt := by
  have e := c_ladd x y
  have r := rng64 (x + y)
  omega
theorem lsub_eq {x y : Int64} (h1 : -9223372036854775808 ≤ x.toInt - y.toInt) (h2 : x.toInt - y.toInt < 9223372036854775808) : (x - y).toInt = x.toInt - y.toInt := by
  have e := c_lsub x y
  have r := rng64 (x - y)
  omega
theorem irem_bd {x y : Int32} (h1 : 0 ≤ x.toInt) (h2 : 0 < y.toInt) : 0 ≤ (x % y).toInt ∧ (x % y).toInt < y.toInt ∧ (x % y).toInt ≤ x.toInt := by
  have q := (c_iremV x y).1 h1 h2
  exact ⟨q.1, q.2.1, q.2.2.1⟩
theorem mask31 (x : Int32) : 0 ≤ (x &&& (2147483647 : Int32)).toInt ∧ (x &&& (2147483647 : Int32)).toInt ≤ 2147483647 := by
  have q := c_and x (2147483647 : Int32) (by decide)
  have k : (2147483647 : Int32).toInt = 2147483647 := by decide
  omega
theorem nar_b8 (x : Int32) : nar .byte x.toInt8.toInt32 = x.toInt8.toInt32 := by
  show x.toInt8.toInt32.toInt8.toInt32 = x.toInt8.toInt32
  rw [Int8.toInt8_toInt32]
end Rules
end Jvm.OwnKit
namespace Jvm.Pilot.@@N@@
open Jvm Jvm.ClassFile Sem Op Lib Jvm.Free Jvm.Stand Jvm.LawKit Jvm.RoadKit Jvm.OwnKit Bundle Jvm.Pilot.@@N@@.Jvm.D
theorem w0 : (Jvm.Cond.arrayClass Jvm.ClassFile.FieldType.byte) ∈ tables_1 := List.mem_of_getElem? (i := 0) rfl
theorem w1 : (Jvm.Cond.constant "com/example/mixed_urn/mixedurn/index/ByteReaderHasRemainingPinLaw" (7 : Nat) (1073741823 : Int32)) ∈ tables_1 := List.mem_of_getElem? (i := 1) rfl
theorem w2 : (Jvm.Cond.classLink "com/example/mixed_urn/mixedurn/index/ByteReaderHasRemainingPinLaw" (14 : Nat) "com/example/mixed_urn/mixedurn/index/ByteReader") ∈ tables_1 := List.mem_of_getElem? (i := 2) rfl
theorem w3 : (Jvm.Cond.instantiable "com/example/mixed_urn/mixedurn/index/ByteReader" (3 : Nat)) ∈ tables_1 := List.mem_of_getElem? (i := 3) rfl
theorem w4 : (Jvm.Cond.initialized "com/example/mixed_urn/mixedurn/index/ByteReader") ∈ tables_1 := List.mem_of_getElem? (i := 4) rfl
theorem w5 : (Jvm.Cond.methodLink "com/example/mixed_urn/mixedurn/index/ByteReaderHasRemainingPinLaw" (16 : Nat) ({ cls := "com/example/mixed_urn/mixedurn/index/ByteReader", name := "<init>", desc := "([BII)V" } : Jvm.MethodName)) ∈ tables_1 := List.mem_of_getElem? (i := 5) rfl
theorem w6 : (Jvm.Cond.instanceMethod ({ cls := "com/example/mixed_urn/mixedurn/index/ByteReader", name := "<init>", desc := "([BII)V" } : Jvm.MethodName)) ∈ tables_1 := List.mem_of_getElem? (i := 6) rfl
theorem w7 : (Jvm.Cond.code ({ cls := "com/example/mixed_urn/mixedurn/index/ByteReader", name := "<init>", desc := "([BII)V" } : Jvm.MethodName) prog_29_method_1_code (4 : Nat) (Option.none : Option Jvm.ClassFile.FieldType)) ∈ tables_1 := List.mem_of_getElem? (i := 7) rfl
theorem w8 : (Jvm.Cond.methodLink "com/example/mixed_urn/mixedurn/index/ByteReader" (1 : Nat) ({ cls := "java/lang/Object", name := "<init>", desc := "()V" } : Jvm.MethodName)) ∈ tables_1 := List.mem_of_getElem? (i := 8) rfl
theorem w9 : (Jvm.Cond.instanceMethod ({ cls := "java/lang/Object", name := "<init>", desc := "()V" } : Jvm.MethodName)) ∈ tables_1 := List.mem_of_getElem? (i := 9) rfl
theorem w10 : (Jvm.Cond.code ({ cls := "java/lang/Object", name := "<init>", desc := "()V" } : Jvm.MethodName) object_method_1_code (1 : Nat) (Option.none : Option Jvm.ClassFile.FieldType)) ∈ tables_1 := List.mem_of_getElem? (i := 10) rfl
theorem w11 : (Jvm.Cond.fieldLink "com/example/mixed_urn/mixedurn/index/ByteReader" (7 : Nat) "com/example/mixed_urn/mixedurn/index/ByteReader" "bytes" "[B") ∈ tables_1 := List.mem_of_getElem? (i := 11) rfl
theorem w12 : (Jvm.Cond.laysFinal "com/example/mixed_urn/mixedurn/index/ByteReader" "com/example/mixed_urn/mixedurn/index/ByteReader" "bytes" "[B") ∈ tables_1 := List.mem_of_getElem? (i := 12) rfl
theorem w13 : (Jvm.Cond.fieldLink "com/example/mixed_urn/mixedurn/index/ByteReader" (13 : Nat) "com/example/mixed_urn/mixedurn/index/ByteReader" "position" "I") ∈ tables_1 := List.mem_of_getElem? (i := 13) rfl
theorem w14 : (Jvm.Cond.lays "com/example/mixed_urn/mixedurn/index/ByteReader" "com/example/mixed_urn/mixedurn/index/ByteReader" "position" "I") ∈ tables_1 := List.mem_of_getElem? (i := 14) rfl
theorem w15 : (Jvm.Cond.fieldLink "com/example/mixed_urn/mixedurn/index/ByteReader" (17 : Nat) "com/example/mixed_urn/mixedurn/index/ByteReader" "end" "I") ∈ tables_1 := List.mem_of_getElem? (i := 15) rfl
theorem w16 : (Jvm.Cond.laysFinal "com/example/mixed_urn/mixedurn/index/ByteReader" "com/example/mixed_urn/mixedurn/index/ByteReader" "end" "I") ∈ tables_1 := List.mem_of_getElem? (i := 16) rfl
theorem w17 : (Jvm.Cond.methodLink "com/example/mixed_urn/mixedurn/index/ByteReaderHasRemainingPinLaw" (19 : Nat) ({ cls := "com/example/mixed_urn/mixedurn/index/ByteReader", name := "hasRemaining", desc := "()Z" } : Jvm.MethodName)) ∈ tables_1 := List.mem_of_getElem? (i := 17) rfl
theorem w18 : (Jvm.Cond.declares ({ cls := "com/example/mixed_urn/mixedurn/index/ByteReader", name := "hasRemaining", desc := "()Z" } : Jvm.MethodName)) ∈ tables_1 := List.mem_of_getElem? (i := 18) rfl
theorem w19 : (Jvm.Cond.instanceMethod ({ cls := "com/example/mixed_urn/mixedurn/index/ByteReader", name := "hasRemaining", desc := "()Z" } : Jvm.MethodName)) ∈ tables_1 := List.mem_of_getElem? (i := 19) rfl
theorem w20 : (Jvm.Cond.selects "com/example/mixed_urn/mixedurn/index/ByteReader" ({ cls := "com/example/mixed_urn/mixedurn/index/ByteReader", name := "hasRemaining", desc := "()Z" } : Jvm.MethodName) ({ cls := "com/example/mixed_urn/mixedurn/index/ByteReader", name := "hasRemaining", desc := "()Z" } : Jvm.MethodName)) ∈ tables_1 := List.mem_of_getElem? (i := 20) rfl
theorem w21 : (Jvm.Cond.code ({ cls := "com/example/mixed_urn/mixedurn/index/ByteReader", name := "hasRemaining", desc := "()Z" } : Jvm.MethodName) prog_29_method_3_code (1 : Nat) (Option.some Jvm.ClassFile.FieldType.boolean)) ∈ tables_1 := List.mem_of_getElem? (i := 21) rfl
theorem w22 : (Jvm.Cond.methodLink "com/example/mixed_urn/mixedurn/index/ByteReaderHasRemainingPinLaw" (23 : Nat) ({ cls := "com/example/mixed_urn/mixedurn/index/ByteReader", name := "skip", desc := "(I)V" } : Jvm.MethodName)) ∈ tables_1 := List.mem_of_getElem? (i := 22) rfl
theorem w23 : (Jvm.Cond.declares ({ cls := "com/example/mixed_urn/mixedurn/index/ByteReader", name := "skip", desc := "(I)V" } : Jvm.MethodName)) ∈ tables_1 := List.mem_of_getElem? (i := 23) rfl
theorem w24 : (Jvm.Cond.instanceMethod ({ cls := "com/example/mixed_urn/mixedurn/index/ByteReader", name := "skip", desc := "(I)V" } : Jvm.MethodName)) ∈ tables_1 := List.mem_of_getElem? (i := 24) rfl
theorem w25 : (Jvm.Cond.selects "com/example/mixed_urn/mixedurn/index/ByteReader" ({ cls := "com/example/mixed_urn/mixedurn/index/ByteReader", name := "skip", desc := "(I)V" } : Jvm.MethodName) ({ cls := "com/example/mixed_urn/mixedurn/index/ByteReader", name := "skip", desc := "(I)V" } : Jvm.MethodName)) ∈ tables_1 := List.mem_of_getElem? (i := 25) rfl
theorem w26 : (Jvm.Cond.code ({ cls := "com/example/mixed_urn/mixedurn/index/ByteReader", name := "skip", desc := "(I)V" } : Jvm.MethodName) prog_29_method_4_code (2 : Nat) (Option.none : Option Jvm.ClassFile.FieldType)) ∈ tables_1 := List.mem_of_getElem? (i := 26) rfl
theorem w27 : (Jvm.Cond.methodLink "com/example/mixed_urn/mixedurn/index/ByteReader" (20 : Nat) ({ cls := "com/example/mixed_urn/mixedurn/index/ByteReader", name := "require", desc := "(J)V" } : Jvm.MethodName)) ∈ tables_1 := List.mem_of_getElem? (i := 27) rfl
theorem w28 : (Jvm.Cond.instanceMethod ({ cls := "com/example/mixed_urn/mixedurn/index/ByteReader", name := "require", desc := "(J)V" } : Jvm.MethodName)) ∈ tables_1 := List.mem_of_getElem? (i := 28) rfl
theorem w29 : (Jvm.Cond.privateMethod ({ cls := "com/example/mixed_urn/mixedurn/index/ByteReader", name := "require", desc := "(J)V" } : Jvm.MethodName)) ∈ tables_1 := List.mem_of_getElem? (i := 29) rfl
theorem w30 : (Jvm.Cond.code ({ cls := "com/example/mixed_urn/mixedurn/index/ByteReader", name := "require", desc := "(J)V" } : Jvm.MethodName) prog_29_method_13_code (3 : Nat) (Option.none : Option Jvm.ClassFile.FieldType)) ∈ tables_1 := List.mem_of_getElem? (i := 30) rfl
theorem w31 : (Jvm.Cond.methodLink "com/example/mixed_urn/mixedurn/index/ByteReaderHasRemainingPinLaw" (8 : Nat) ({ cls := "java/lang/Math", name := "max", desc := "(II)I" } : Jvm.MethodName)) ∈ tables_1 := List.mem_of_getElem? (i := 31) rfl
theorem w32 : (Jvm.Cond.static ({ cls := "java/lang/Math", name := "max", desc := "(II)I" } : Jvm.MethodName)) ∈ tables_1 := List.mem_of_getElem? (i := 32) rfl
theorem w33 : (Jvm.Cond.initialized "java/lang/Math") ∈ tables_1 := List.mem_of_getElem? (i := 33) rfl
theorem w34 : (Jvm.Cond.code ({ cls := "java/lang/Math", name := "max", desc := "(II)I" } : Jvm.MethodName) jdk_29_method_65_code (2 : Nat) (Option.some Jvm.ClassFile.FieldType.int)) ∈ tables_1 := List.mem_of_getElem? (i := 34) rfl
theorem d1_0 : decode prog_29_method_1_code 0 = .ok (.aload_n 0, 1) := by decide +kernel
theorem d1_1 : decode prog_29_method_1_code 1 = .ok (.invokespecial 1, 3) := by decide +kernel
theorem d1_4 : decode prog_29_method_1_code 4 = .ok (.aload_n 0, 1) := by decide +kernel
theorem d1_5 : decode prog_29_method_1_code 5 = .ok (.aload_n 1, 1) := by decide +kernel
theorem d1_6 : decode prog_29_method_1_code 6 = .ok (.putfield 7, 3) := by decide +kernel
theorem d1_9 : decode prog_29_method_1_code 9 = .ok (.aload_n 0, 1) := by decide +kernel
theorem d1_10 : decode prog_29_method_1_code 10 = .ok (.iload_n 2, 1) := by decide +kernel
theorem d1_11 : decode prog_29_method_1_code 11 = .ok (.putfield 13, 3) := by decide +kernel
theorem d1_14 : decode prog_29_method_1_code 14 = .ok (.aload_n 0, 1) := by decide +kernel
theorem d1_15 : decode prog_29_method_1_code 15 = .ok (.iload_n 2, 1) := by decide +kernel
theorem d1_16 : decode prog_29_method_1_code 16 = .ok (.iload_n 3, 1) := by decide +kernel
theorem d1_17 : decode prog_29_method_1_code 17 = .ok (.iadd, 1) := by decide +kernel
theorem d1_18 : decode prog_29_method_1_code 18 = .ok (.putfield 17, 3) := by decide +kernel
theorem d1_21 : decode prog_29_method_1_code 21 = .ok (.return_, 1) := by decide +kernel
theorem d3_0 : decode prog_29_method_3_code 0 = .ok (.aload_n 0, 1) := by decide +kernel
theorem d3_1 : decode prog_29_method_3_code 1 = .ok (.getfield 13, 3) := by decide +kernel
theorem d3_4 : decode prog_29_method_3_code 4 = .ok (.aload_n 0, 1) := by decide +kernel
theorem d3_5 : decode prog_29_method_3_code 5 = .ok (.getfield 17, 3) := by decide +kernel
theorem d3_8 : decode prog_29_method_3_code 8 = .ok (.if_icmp .ge 7, 3) := by decide +kernel
theorem d3_11 : decode prog_29_method_3_code 11 = .ok (.iconst 1, 1) := by decide +kernel
theorem d3_12 : decode prog_29_method_3_code 12 = .ok (.goto 4, 3) := by decide +kernel
theorem d3_15 : decode prog_29_method_3_code 15 = .ok (.iconst 0, 1) := by decide +kernel
theorem d3_16 : decode prog_29_method_3_code 16 = .ok (.ireturn, 1) := by decide +kernel
theorem d4_0 : decode prog_29_method_4_code 0 = .ok (.aload_n 0, 1) := by decide +kernel
theorem d4_1 : decode prog_29_method_4_code 1 = .ok (.iload_n 1, 1) := by decide +kernel
theorem d4_2 : decode prog_29_method_4_code 2 = .ok (.i2l, 1) := by decide +kernel
theorem d4_3 : decode prog_29_method_4_code 3 = .ok (.invokevirtual 20, 3) := by decide +kernel
theorem d4_6 : decode prog_29_method_4_code 6 = .ok (.aload_n 0, 1) := by decide +kernel
theorem d4_7 : decode prog_29_method_4_code 7 = .ok (.dup, 1) := by decide +kernel
theorem d4_8 : decode prog_29_method_4_code 8 = .ok (.getfield 13, 3) := by decide +kernel
theorem d4_11 : decode prog_29_method_4_code 11 = .ok (.iload_n 1, 1) := by decide +kernel
theorem d4_12 : decode prog_29_method_4_code 12 = .ok (.iadd, 1) := by decide +kernel
theorem d4_13 : decode prog_29_method_4_code 13 = .ok (.putfield 13, 3) := by decide +kernel
theorem d4_16 : decode prog_29_method_4_code 16 = .ok (.return_, 1) := by decide +kernel
theorem d5_0 : decode prog_29_method_13_code 0 = .ok (.lload_n 1, 1) := by decide +kernel
theorem d5_1 : decode prog_29_method_13_code 1 = .ok (.lconst 0, 1) := by decide +kernel
theorem d5_2 : decode prog_29_method_13_code 2 = .ok (.lcmp, 1) := by decide +kernel
theorem d5_3 : decode prog_29_method_13_code 3 = .ok (.ifCond .lt 18, 3) := by decide +kernel
theorem d5_6 : decode prog_29_method_13_code 6 = .ok (.lload_n 1, 1) := by decide +kernel
theorem d5_7 : decode prog_29_method_13_code 7 = .ok (.aload_n 0, 1) := by decide +kernel
theorem d5_8 : decode prog_29_method_13_code 8 = .ok (.getfield 17, 3) := by decide +kernel
theorem d5_11 : decode prog_29_method_13_code 11 = .ok (.aload_n 0, 1) := by decide +kernel
theorem d5_12 : decode prog_29_method_13_code 12 = .ok (.getfield 13, 3) := by decide +kernel
theorem d5_15 : decode prog_29_method_13_code 15 = .ok (.isub, 1) := by decide +kernel
theorem d5_16 : decode prog_29_method_13_code 16 = .ok (.i2l, 1) := by decide +kernel
theorem d5_17 : decode prog_29_method_13_code 17 = .ok (.lcmp, 1) := by decide +kernel
theorem d5_18 : decode prog_29_method_13_code 18 = .ok (.ifCond .le 26, 3) := by decide +kernel
theorem d5_44 : decode prog_29_method_13_code 44 = .ok (.return_, 1) := by decide +kernel
theorem d6_0 : decode jdk_29_method_65_code 0 = .ok (.iload_n 0, 1) := by decide +kernel
theorem d6_1 : decode jdk_29_method_65_code 1 = .ok (.iload_n 1, 1) := by decide +kernel
theorem d6_2 : decode jdk_29_method_65_code 2 = .ok (.if_icmp .lt 7, 3) := by decide +kernel
theorem d6_5 : decode jdk_29_method_65_code 5 = .ok (.iload_n 0, 1) := by decide +kernel
theorem d6_6 : decode jdk_29_method_65_code 6 = .ok (.goto 4, 3) := by decide +kernel
theorem d6_9 : decode jdk_29_method_65_code 9 = .ok (.iload_n 1, 1) := by decide +kernel
theorem d6_10 : decode jdk_29_method_65_code 10 = .ok (.ireturn, 1) := by decide +kernel
theorem pd__28_29Z : parseMethodDescriptor "()Z" = some ⟨[], some .boolean⟩ := by decide +kernel
theorem pd__28I_29V : parseMethodDescriptor "(I)V" = some ⟨[.int], none⟩ := by decide +kernel
theorem pd__28II_29I : parseMethodDescriptor "(II)I" = some ⟨[.int, .int], some .int⟩ := by decide +kernel
theorem pd__28J_29V : parseMethodDescriptor "(J)V" = some ⟨[.long], none⟩ := by decide +kernel
theorem pd__28_5bBII_29V : parseMethodDescriptor "([BII)V" = some ⟨[(.array .byte), .int, .int], none⟩ := by decide +kernel
set_option maxRecDepth 65536 in
set_option maxHeartbeats 40000000 in
theorem c_init {l : Launch} {Z : State} {a0 : Array Value} (hw : ∀ d ∈ tables_1, d.before a0 Z = true) {h0 : Heap} {n0 : Nat} (sz0 : n0 ≤ h0.size) (o b : Addr) (p n : Int32) (gn_o : n0 ≤ o) (E_o : Exa Z h0 o "com/example/mixed_urn/mixedurn/index/ByteReader") (F_o_bytes : Fld Z h0 o "com/example/mixed_urn/mixedurn/index/ByteReader" "bytes" "[B" .null) (F_o_position : Fld Z h0 o "com/example/mixed_urn/mixedurn/index/ByteReader" "position" "I" (.int (0 : Int32))) (F_o_end : Fld Z h0 o "com/example/mixed_urn/mixedurn/index/ByteReader" "end" "I" (.int (0 : Int32))) : Con l Z (⟨"com/example/mixed_urn/mixedurn/index/ByteReader", "<init>", "([BII)V"⟩ : MethodName) prog_29_method_1_code 4 none ({ frames := 1, cells := 0, slots := 0, locals := 12 } : Room) [] #[(.ref o), (.ref b), (.int p), (.int n)] h0 (fun v h L => v = none ∧ Fr n0 L ∧ Keep h0 h [o] ∧ Exa Z h o "com/example/mixed_urn/mixedurn/index/ByteReader" ∧ Fld Z h o "com/example/mixed_urn/mixedurn/index/ByteReader" "bytes" "[B" (.ref b) ∧ Fld Z h o "com/example/mixed_urn/mixedurn/index/ByteReader" "position" "I" (.int p) ∧ Fld Z h o "com/example/mixed_urn/mixedurn/index/ByteReader" "end" "I" (.int (p + n))) := by
  refine con_of (Ls := #[.val (.ref o), .val (.ref b), .val (.int p), .val (.int n)]) (plainFor_of_name (by first | (simp [plainName, overriddenIn]; done) | decide +kernel)) (fun m => by first | rfl | (simp [entryFrame, mkF, argsToLocals, Value.category]; done)) ?_
  have N0 : Fr n0 [] := Fr.nil _
  have K0 : Keep h0 h0 [o] := Keep.refl _ _
  refine Go.aloadN (pc' := 1) d1_0 rfl rfl rfl ?_
  refine Go.initO (pc' := 4) (W := 0) d1_1 rfl (hw _ w8) (hw _ w9) (hw _ w10) (by decide) (by decide) rfl (Nat.le_of_eq rfl) ?_
  refine Go.aloadN (pc' := 5) d1_4 rfl rfl rfl ?_
  refine Go.aloadN (pc' := 6) d1_5 rfl rfl rfl ?_
  refine Go.putF (pc' := 9) d1_6 rfl (hw _ w11) Via.refl F_o_bytes E_o (Or.inr ⟨(hw _ w12), rfl, rfl⟩) (hw _ w3) (ty := (.array .byte)) (by decide) rfl rfl ?_
  intro h1 L1 NL1 W1
  replace F_o_bytes := F_o_bytes.same W1
  replace N0 := NL1 _ N0 gn_o
  replace sz0 : n0 ≤ h1.size := by rw [W1.size]; exact sz0
  replace E_o := E_o.wr W1
  replace F_o_position := F_o_position.other W1 (Or.inr (slot_ne (Or.inl (hw _ w14)) (Or.inr (hw _ w12)) (by decide) (t := .int) (t' := (.array .byte)) (by decide) (by decide)))
  replace F_o_end := F_o_end.other W1 (Or.inr (slot_ne (Or.inr (hw _ w16)) (Or.inr (hw _ w12)) (by decide) (t := .int) (t' := (.array .byte)) (by decide) (by decide)))
  replace K0 := K0.wr W1 (Or.inl (by simp))
  refine Go.aloadN (pc' := 10) d1_9 rfl rfl rfl ?_
  refine Go.iloadN (pc' := 11) d1_10 rfl rfl ?_
  refine Go.putF (pc' := 14) d1_11 rfl (hw _ w13) Via.refl F_o_position E_o (Or.inl (hw _ w14)) (hw _ w3) (ty := .int) (by decide) rfl rfl ?_
  intro h2 L2 NL2 W2
  replace F_o_position := F_o_position.same W2
  replace N0 := NL2 _ N0 gn_o
  replace sz0 : n0 ≤ h2.size := by rw [W2.size]; exact sz0
  replace E_o := E_o.wr W2
  replace F_o_bytes := F_o_bytes.other W2 (Or.inr (slot_ne (Or.inr (hw _ w12)) (Or.inl (hw _ w14)) (by decide) (t := (.array .byte)) (t' := .int) (by decide) (by decide)))
  replace F_o_end := F_o_end.other W2 (Or.inr (slot_ne (Or.inr (hw _ w16)) (Or.inl (hw _ w14)) (by decide) (t := .int) (t' := .int) (by decide) (by decide)))
  replace K0 := K0.wr W2 (Or.inl (by simp))
  refine Go.aloadN (pc' := 15) d1_14 rfl rfl rfl ?_
  refine Go.iloadN (pc' := 16) d1_15 rfl rfl ?_
  refine Go.iloadN (pc' := 17) d1_16 rfl rfl ?_
  refine Go.iadd (pc' := 18) d1_17 rfl rfl ?_
  refine Go.putF (pc' := 21) d1_18 rfl (hw _ w15) Via.refl F_o_end E_o (Or.inr ⟨(hw _ w16), rfl, rfl⟩) (hw _ w3) (ty := .int) (by decide) rfl rfl ?_
  intro h3 L3 NL3 W3
  replace F_o_end := F_o_end.same W3
  replace N0 := NL3 _ N0 gn_o
  replace sz0 : n0 ≤ h3.size := by rw [W3.size]; exact sz0
  replace E_o := E_o.wr W3
  replace F_o_bytes := F_o_bytes.other W3 (Or.inr (slot_ne (Or.inr (hw _ w12)) (Or.inr (hw _ w16)) (by decide) (t := (.array .byte)) (t' := .int) (by decide) (by decide)))
  replace F_o_position := F_o_position.other W3 (Or.inr (slot_ne (Or.inl (hw _ w14)) (Or.inr (hw _ w16)) (by decide) (t := .int) (t' := .int) (by decide) (by decide)))
  replace K0 := K0.wr W3 (Or.inl (by simp))
  refine Go.retV d1_21 rfl (by decide) (by decide) ?_
  exact ⟨rfl, N0, K0, E_o, F_o_bytes, F_o_position, F_o_end⟩
set_option maxRecDepth 65536 in
set_option maxHeartbeats 40000000 in
theorem c_has {l : Launch} {Z : State} {a0 : Array Value} (hw : ∀ d ∈ tables_1, d.before a0 Z = true) {h0 : Heap} (o b : Addr) (p e r : Int32) (E_o : Exa Z h0 o "com/example/mixed_urn/mixedurn/index/ByteReader") (F_o_bytes : Fld Z h0 o "com/example/mixed_urn/mixedurn/index/ByteReader" "bytes" "[B" (.ref b)) (F_o_position : Fld Z h0 o "com/example/mixed_urn/mixedurn/index/ByteReader" "position" "I" (.int p)) (F_o_end : Fld Z h0 o "com/example/mixed_urn/mixedurn/index/ByteReader" "end" "I" (.int e)) (hr : (if p.toInt < e.toInt then (1 : Int32) else 0) = r) : Con l Z (⟨"com/example/mixed_urn/mixedurn/index/ByteReader", "hasRemaining", "()Z"⟩ : MethodName) prog_29_method_3_code 1 (some .boolean) ({ frames := 0, cells := 0, slots := 0, locals := 0 } : Room) [] #[(.ref o)] h0 (PQ h0 (some (.int r))) := by
  refine con_of (Ls := #[.val (.ref o)]) (plainFor_of_name (by first | (simp [plainName, overriddenIn]; done) | decide +kernel)) (fun m => by first | rfl | (simp [entryFrame, mkF, argsToLocals, Value.category]; done)) ?_
  refine Go.aloadN (pc' := 1) d3_0 rfl rfl rfl ?_
  refine Go.getF (pc' := 4) d3_1 rfl (hw _ w13) Via.refl F_o_position ?_
  refine Go.aloadN (pc' := 5) d3_4 rfl rfl rfl ?_
  refine Go.getF (pc' := 8) d3_5 rfl (hw _ w15) Via.refl F_o_end ?_
  by_cases hc1 : p.toInt < e.toInt
  · refine Go.icmpF (pc' := 11) (X := p.toInt) (Y := e.toInt) d3_8 rfl rfl rfl (hc1 : p.toInt < e.toInt) ?_
    refine Go.iconst (pc' := 12) d3_11 rfl (z := (1 : Int32)) (by decide) ?_
    refine Go.goto (pc' := 16) d3_12 (by decide) ?_
    refine Go.retZ d3_16 rfl (by decide) (by decide) (by decide) ?_
    refine ⟨congrArg (fun q => some (Value.int q)) ?_, rfl, rfl⟩
    rw [← hr, if_pos hc1]
  · refine Go.icmpT (pc' := 15) (X := p.toInt) (Y := e.toInt) d3_8 (by decide) rfl rfl (hc1 : ¬ p.toInt < e.toInt) ?_
    refine Go.iconst (pc' := 16) d3_15 rfl (z := (0 : Int32)) (by decide) ?_
    refine Go.retZ d3_16 rfl (by decide) (by decide) (by decide) ?_
    refine ⟨congrArg (fun q => some (Value.int q)) ?_, rfl, rfl⟩
    rw [← hr, if_neg hc1]
set_option maxRecDepth 65536 in
set_option maxHeartbeats 40000000 in
theorem c_req {l : Launch} {Z : State} {a0 : Array Value} (hw : ∀ d ∈ tables_1, d.before a0 Z = true) {h0 : Heap} (o b : Addr) (p e : Int32) (q : Int64) (E_o : Exa Z h0 o "com/example/mixed_urn/mixedurn/index/ByteReader") (F_o_bytes : Fld Z h0 o "com/example/mixed_urn/mixedurn/index/ByteReader" "bytes" "[B" (.ref b)) (F_o_position : Fld Z h0 o "com/example/mixed_urn/mixedurn/index/ByteReader" "position" "I" (.int p)) (F_o_end : Fld Z h0 o "com/example/mixed_urn/mixedurn/index/ByteReader" "end" "I" (.int e)) (h1 : ¬ q.toInt < 0) (h2 : ¬ (e - p).toInt64.toInt < q.toInt) : Con l Z (⟨"com/example/mixed_urn/mixedurn/index/ByteReader", "require", "(J)V"⟩ : MethodName) prog_29_method_13_code 3 none ({ frames := 0, cells := 0, slots := 0, locals := 0 } : Room) [] #[(.ref o), (.long q)] h0 (PQ h0 none) := by
  refine con_of (Ls := #[.val (.ref o), .val (.long q), .second]) (plainFor_of_name (by first | (simp [plainName, overriddenIn]; done) | decide +kernel)) (fun m => by first | rfl | (simp [entryFrame, mkF, argsToLocals, Value.category]; done)) ?_
  refine Go.lloadN (pc' := 1) d5_0 rfl rfl ?_
  refine Go.lconst (pc' := 2) d5_1 rfl (z := (0 : Int64)) (by decide) ?_
  refine Go.lcmpF (pc' := 6) (X := q.toInt) (Y := (0 : Int)) d5_2 d5_3 rfl rfl rfl (by decide) (h1 : ¬ q.toInt < (0 : Int)) ?_
  refine Go.lloadN (pc' := 7) d5_6 rfl rfl ?_
  refine Go.aloadN (pc' := 8) d5_7 rfl rfl rfl ?_
  refine Go.getF (pc' := 11) d5_8 rfl (hw _ w15) Via.refl F_o_end ?_
  refine Go.aloadN (pc' := 12) d5_11 rfl rfl rfl ?_
  refine Go.getF (pc' := 15) d5_12 rfl (hw _ w13) Via.refl F_o_position ?_
  refine Go.isub (pc' := 16) d5_15 rfl rfl ?_
  refine Go.i2l (pc' := 17) d5_16 rfl rfl ?_
  refine Go.lcmpT (pc' := 44) (X := q.toInt) (Y := (e - p).toInt64.toInt) d5_17 d5_18 rfl (by decide) rfl rfl (h2 : ¬ (e - p).toInt64.toInt < q.toInt) ?_
  refine Go.retV d5_44 rfl (by decide) (by decide) ?_
  exact ⟨rfl, rfl, rfl⟩
set_option maxRecDepth 65536 in
set_option maxHeartbeats 40000000 in
theorem c_skip {l : Launch} {Z : State} {a0 : Array Value} (hw : ∀ d ∈ tables_1, d.before a0 Z = true) {h0 : Heap} {n0 : Nat} (sz0 : n0 ≤ h0.size) (o b : Addr) (p e n : Int32) (gn_o : n0 ≤ o) (E_o : Exa Z h0 o "com/example/mixed_urn/mixedurn/index/ByteReader") (F_o_bytes : Fld Z h0 o "com/example/mixed_urn/mixedurn/index/ByteReader" "bytes" "[B" (.ref b)) (F_o_position : Fld Z h0 o "com/example/mixed_urn/mixedurn/index/ByteReader" "position" "I" (.int p)) (F_o_end : Fld Z h0 o "com/example/mixed_urn/mixedurn/index/ByteReader" "end" "I" (.int e)) (h1 : ¬ n.toInt64.toInt < 0) (h2 : ¬ (e - p).toInt64.toInt < n.toInt64.toInt) : Con l Z (⟨"com/example/mixed_urn/mixedurn/index/ByteReader", "skip", "(I)V"⟩ : MethodName) prog_29_method_4_code 2 none ({ frames := 1, cells := 0, slots := 0, locals := 14 } : Room) [] #[(.ref o), (.int n)] h0 (fun v h L => v = none ∧ Fr n0 L ∧ Keep h0 h [o] ∧ Exa Z h o "com/example/mixed_urn/mixedurn/index/ByteReader" ∧ Fld Z h o "com/example/mixed_urn/mixedurn/index/ByteReader" "bytes" "[B" (.ref b) ∧ Fld Z h o "com/example/mixed_urn/mixedurn/index/ByteReader" "position" "I" (.int (p + n)) ∧ Fld Z h o "com/example/mixed_urn/mixedurn/index/ByteReader" "end" "I" (.int e)) := by
  refine con_of (Ls := #[.val (.ref o), .val (.int n)]) (plainFor_of_name (by first | (simp [plainName, overriddenIn]; done) | decide +kernel)) (fun m => by first | rfl | (simp [entryFrame, mkF, argsToLocals, Value.category]; done)) ?_
  have N0 : Fr n0 [] := Fr.nil _
  have K0 : Keep h0 h0 [o] := Keep.refl _ _
  refine Go.aloadN (pc' := 1) d4_0 rfl rfl rfl ?_
  refine Go.iloadN (pc' := 2) d4_1 rfl rfl ?_
  refine Go.i2l (pc' := 3) d4_2 rfl rfl ?_
  refine Go.callP0 (pc' := 6) (W := 0) (a := o) (argsL := [(.long n.toInt64)]) (rest := []) (v0 := none) (st2 := []) d4_3 rfl (hw _ w27) (hw _ w28) (hw _ w3) (hw _ w29) (hw _ w4) (hw _ w30) E_o (by decide) (c_req hw o b p e n.toInt64 E_o F_o_bytes F_o_position F_o_end h1 h2) (by decide) (by decide) rfl rfl rfl (by decide) (by decide) rfl pd__28J_29V rfl rfl (Nat.le_of_eq rfl) ?_
  refine Go.aloadN (pc' := 7) d4_6 rfl rfl rfl ?_
  refine Go.dup (pc' := 8) d4_7 rfl rfl ?_
  refine Go.getF (pc' := 11) d4_8 rfl (hw _ w13) Via.refl F_o_position ?_
  refine Go.iloadN (pc' := 12) d4_11 rfl rfl ?_
  refine Go.iadd (pc' := 13) d4_12 rfl rfl ?_
  refine Go.putF (pc' := 16) d4_13 rfl (hw _ w13) Via.refl F_o_position E_o (Or.inl (hw _ w14)) (hw _ w3) (ty := .int) (by decide) rfl rfl ?_
  intro h1 L1 NL1 W1
  replace F_o_position := F_o_position.same W1
  replace N0 := NL1 _ N0 gn_o
  replace sz0 : n0 ≤ h1.size := by rw [W1.size]; exact sz0
  replace E_o := E_o.wr W1
  replace F_o_bytes := F_o_bytes.other W1 (Or.inr (slot_ne (Or.inr (hw _ w12)) (Or.inl (hw _ w14)) (by decide) (t := (.array .byte)) (t' := .int) (by decide) (by decide)))
  replace F_o_end := F_o_end.other W1 (Or.inr (slot_ne (Or.inr (hw _ w16)) (Or.inl (hw _ w14)) (by decide) (t := .int) (t' := .int) (by decide) (by decide)))
  replace K0 := K0.wr W1 (Or.inl (by simp))
  refine Go.retV d4_16 rfl (by decide) (by decide) ?_
  exact ⟨rfl, N0, K0, E_o, F_o_bytes, F_o_position, F_o_end⟩
def f_c_max (a : Int32) (b : Int32) : Int32 := (if a.toInt < b.toInt then b else a)
set_option maxRecDepth 65536 in
set_option maxHeartbeats 40000000 in
theorem c_max {l : Launch} {Z : State} {a0 : Array Value} (hw : ∀ d ∈ tables_1, d.before a0 Z = true) {h0 : Heap} (a : Int32) (b : Int32) {r : Int32} (hr : f_c_max a b = r) : Con l Z (⟨"java/lang/Math", "max", "(II)I"⟩ : MethodName) jdk_29_method_65_code 2 (some .int) ({ frames := 0, cells := 0, slots := 0, locals := 0 } : Room) [] #[(.int a), (.int b)] h0 (PQ h0 (some (.int r))) := by
  refine con_of (Ls := #[.val (.int a), .val (.int b)]) (by decide +kernel) (fun m => by first | rfl | (simp [entryFrame, mkF, argsToLocals, Value.category]; done)) ?_
  refine Go.iloadN (pc' := 1) d6_0 rfl rfl ?_
  refine Go.iloadN (pc' := 2) d6_1 rfl rfl ?_
  by_cases hc1 : a.toInt < b.toInt
  · refine Go.icmpT (pc' := 9) (X := a.toInt) (Y := b.toInt) d6_2 (by decide) rfl rfl (hc1 : a.toInt < b.toInt) ?_
    refine Go.iloadN (pc' := 10) d6_9 rfl rfl ?_
    refine Go.retI d6_10 rfl (by decide) (by decide) ?_
    refine ⟨congrArg (fun q => some (Value.int q)) ?_, rfl, rfl⟩
    rw [← hr]
    show _ = f_c_max a b
    unfold f_c_max
    rw [if_pos hc1]
  · refine Go.icmpF (pc' := 5) (X := a.toInt) (Y := b.toInt) d6_2 rfl rfl rfl (hc1 : ¬ a.toInt < b.toInt) ?_
    refine Go.iloadN (pc' := 6) d6_5 rfl rfl ?_
    refine Go.goto (pc' := 10) d6_6 (by decide) ?_
    refine Go.retI d6_10 rfl (by decide) (by decide) ?_
    refine ⟨congrArg (fun q => some (Value.int q)) ?_, rfl, rfl⟩
    rw [← hr]
    show _ = f_c_max a b
    unfold f_c_max
    rw [if_neg hc1]
theorem own_64 (x : Int32) : x.toInt64.toInt = x.toInt := Int32.toInt_toInt64 x
set_option maxRecDepth 65536 in
set_option maxHeartbeats 40000000 in
theorem law_con {l : Launch} {Z : State} {a0 : Array Value} (hw : ∀ d ∈ tables_1, d.before a0 Z = true) {h0 : Heap} {n0 : Nat} (sz0 : n0 ≤ h0.size) (a : Int32) (b : Int32) (d : Int32) (f : Int32) : Con l Z x code maxLocals ret room_1 tables_1 #[(.int a), (.int b), (.int d), (.int f)] h0 (LawQ n0) := by
  refine con_of (Ls := #[.val (.int a), .val (.int b), .val (.int d), .val (.int f), .unset, .unset, .unset, .unset, .unset, .unset, .unset, .unset, .unset, .unset]) (plainFor_of_name (by first | (simp [plainName, overriddenIn]; done) | decide +kernel)) (fun m => by first | rfl | (simp [entryFrame, mkF, argsToLocals, Value.category, maxLocals]; done)) ?_
  have N0 : Fr n0 [] := Fr.nil _
  refine Go.bipush (pc' := 2) at_0 rfl (z := (8 : Int32)) (by decide) ?_
  refine Go.new_byte (pc' := 4) (k' := 1) (n' := 8) (N := 8) (vs := [(.int (0 : Int32)), (.int (0 : Int32)), (.int (0 : Int32)), (.int (0 : Int32)), (.int (0 : Int32)), (.int (0 : Int32)), (.int (0 : Int32)), (.int (0 : Int32))]) at_2 rfl (hw _ w0) (by decide) rfl 8 (Nat.le_refl _) (by decide) (by decide) (by decide) rfl rfl ?_
  intro h1 arr ha_arr X1 A_arr
  have gn_arr : n0 ≤ arr := by rw [ha_arr]; exact sz0
  replace sz0 : n0 ≤ h1.size := Nat.le_trans sz0 X1.1
  refine Go.astore (pc' := 6) at_4 rfl rfl (Ls' := #[.val (.int a), .val (.int b), .val (.int d), .val (.int f), .val (.ref arr), .unset, .unset, .unset, .unset, .unset, .unset, .unset, .unset, .unset]) rfl ?_
  refine Go.iloadN (pc' := 7) at_6 rfl rfl ?_
  refine Go.ldcI (pc' := 9) at_7 rfl (hw _ w1) ?_
  refine Go.iand (pc' := 10) at_9 rfl rfl ?_
  generalize hv_off : (a &&& (1073741823 : Int32)) = off
  refine Go.istore (pc' := 12) at_10 rfl (Ls' := #[.val (.int a), .val (.int b), .val (.int d), .val (.int f), .val (.ref arr), .val (.int off), .unset, .unset, .unset, .unset, .unset, .unset, .unset, .unset]) rfl ?_
  have mo : (a &&& (1073741823 : Int32)).toInt = a.toInt % (2 ^ 30 : Nat) := c_mask a 1073741823 30 (by decide) (by decide)
  rw [hv_off] at mo
  have mb : (b &&& (1073741823 : Int32)).toInt = b.toInt % (2 ^ 30 : Nat) := c_mask b 1073741823 30 (by decide) (by decide)
  have mb7 : (b &&& (7 : Int32)).toInt = b.toInt % (2 ^ 3 : Nat) := c_mask b 7 3 (by decide) (by decide)
  have J29 : ∀ len : Int32, 0 ≤ len.toInt → len.toInt < 1073741824 → Go Z l room_1 code maxLocals x.cls ret x.name 29 #[.val (.int a), .val (.int b), .val (.int d), .val (.int f), .val (.ref arr), .val (.int off), .unset, .unset, .unset, .unset, .unset, .unset, .unset, .unset] [(.int len)] h1 [] 1 8 (LawQ n0) := by
    intro len hl1 hl2
    refine Go.istore (pc' := 31) at_29 rfl (Ls' := #[.val (.int a), .val (.int b), .val (.int d), .val (.int f), .val (.ref arr), .val (.int off), .val (.int len), .unset, .unset, .unset, .unset, .unset, .unset, .unset]) rfl ?_
    refine Go.iloadN (pc' := 32) at_31 rfl rfl ?_
    refine Go.iconst (pc' := 33) at_32 rfl (z := (3 : Int32)) (by decide) ?_
    refine Go.iand (pc' := 34) at_33 rfl rfl ?_
    generalize hv_sel : (d &&& (3 : Int32)) = sel
    refine Go.istore (pc' := 36) at_34 rfl (Ls' := #[.val (.int a), .val (.int b), .val (.int d), .val (.int f), .val (.ref arr), .val (.int off), .val (.int len), .val (.int sel), .unset, .unset, .unset, .unset, .unset, .unset]) rfl ?_
    have J77 : ∀ kk : Int32, 0 ≤ kk.toInt → kk.toInt ≤ len.toInt → Go Z l room_1 code maxLocals x.cls ret x.name 77 #[.val (.int a), .val (.int b), .val (.int d), .val (.int f), .val (.ref arr), .val (.int off), .val (.int len), .val (.int sel), .val (.int kk), .unset, .unset, .unset, .unset, .unset] [] h1 [] 1 8 (LawQ n0) := by
      intro kk hk1 hk2
      refine Go.newO (pc' := 80) (k' := 2) (n' := 11) at_77 rfl (hw _ w2) (hw _ w3) (hw _ w4) (by decide) (by decide) rfl rfl ?_
      intro h2 a2 ha_a2 X2 E_a2 D2
      have ne_arr_a2 : arr ≠ a2 := Nat.ne_of_lt (by rw [ha_a2]; exact A_arr.lt)
      have gn_a2 : n0 ≤ a2 := by rw [ha_a2]; exact sz0
      replace sz0 : n0 ≤ h2.size := Nat.le_trans sz0 X2.1
      replace A_arr := A_arr.ext X2
      have F_a2_bytes : Fld Z h2 a2 "com/example/mixed_urn/mixedurn/index/ByteReader" "bytes" "[B" .null := D2 (Or.inr (hw _ w12)) (ty := (.array .byte)) (by decide)
      have F_a2_position : Fld Z h2 a2 "com/example/mixed_urn/mixedurn/index/ByteReader" "position" "I" (.int (0 : Int32)) := D2 (Or.inl (hw _ w14)) (ty := .int) (by decide)
      have F_a2_end : Fld Z h2 a2 "com/example/mixed_urn/mixedurn/index/ByteReader" "end" "I" (.int (0 : Int32)) := D2 (Or.inr (hw _ w16)) (ty := .int) (by decide)
      refine Go.dup (pc' := 81) at_80 rfl rfl ?_
      refine Go.aload (pc' := 83) at_81 rfl rfl rfl ?_
      refine Go.iload (pc' := 85) at_83 rfl rfl ?_
      refine Go.iload (pc' := 87) at_85 rfl rfl ?_
      refine Go.callI (pc' := 90) (W := 1) (a := a2) (argsL := [(.ref arr), (.int off), (.int len)]) (rest := [(.ref a2)]) (k' := 2) (n' := 11) at_87 rfl rfl (hw _ w5) (hw _ w6) (hw _ w4) (hw _ w7) (by decide) (c_init hw sz0 a2 arr off len gn_a2 E_a2 F_a2_bytes F_a2_position F_a2_end) (by decide) (by decide) (by decide) (by decide) rfl rfl rfl pd__28_5bBII_29V rfl rfl (Nat.le_of_eq rfl) ?_
      intro v3 h3 P3 L3 NL3 hq3
      obtain ⟨rfl, N3, K3, E_a2_3, F_a2_bytes_3, F_a2_position_3, F_a2_end_3⟩ := hq3
      dsimp only [Option.toList, List.cons_append, List.nil_append]
      replace N0 := NL3 _ N0 N3
      replace sz0 : n0 ≤ h3.size := Nat.le_trans sz0 K3.1
      clear E_a2
      clear F_a2_bytes
      clear F_a2_position
      clear F_a2_end
      replace A_arr := A_arr.keep K3 (ninS ne_arr_a2 nin0)
      have E_a2 := E_a2_3; clear E_a2_3
      have F_a2_bytes := F_a2_bytes_3; clear F_a2_bytes_3
      have F_a2_position := F_a2_position_3; clear F_a2_position_3
      have F_a2_end := F_a2_end_3; clear F_a2_end_3
      refine Go.astore (pc' := 92) at_90 rfl rfl (Ls' := #[.val (.int a), .val (.int b), .val (.int d), .val (.int f), .val (.ref arr), .val (.int off), .val (.int len), .val (.int sel), .val (.int kk), .val (.ref a2), .unset, .unset, .unset, .unset]) rfl ?_
      have ea := c_iadd off len
      have ra := rng32 (off + len)
      have eb := c_iadd off kk
      have rb := rng32 (off + kk)
      have ec := c_isub (off + len) off
      have rc := rng32 ((off + len) - off)
      have ed := c_isub (off + len) (off + kk)
      have rd' := rng32 ((off + len) - (off + kk))
      have ef := c_isub len kk
      have rf := rng32 (len - kk)
      have eg := c_iadd (off + kk) (len - kk)
      have rg := rng32 ((off + kk) + (len - kk))
      by_cases hlen : 0 < len.toInt
      · by_cases hkl : kk.toInt < len.toInt
        · have _ := hkl
          refine Go.aload (pc' := 94) at_92 rfl rfl rfl ?_
          refine Go.callV0 (pc' := 97) (W := 0) (a := a2) (argsL := []) (rest := []) (v0 := some (.int (1 : Int32))) (st2 := [(.int (1 : Int32))]) at_94 rfl (hw _ w17) (hw _ w18) (nf_sel (hw _ w20)) (hw _ w20) (hw _ w19) (hw _ w4) (hw _ w21) E_a2 (by decide) (c_has hw a2 arr off (off + len) (1 : Int32) E_a2 F_a2_bytes F_a2_position F_a2_end (if_pos (by omega))) (by decide) (by decide) rfl rfl rfl (by decide) (by decide) rfl pd__28_29Z rfl rfl (Nat.le_of_eq rfl) ?_
          refine Go.iload (pc' := 99) at_97 rfl rfl ?_
          refine Go.ifF (pc' := 102) (X := len.toInt) at_99 rfl rfl (by omega : 0 < len.toInt) ?_
          refine Go.iconst (pc' := 103) at_102 rfl (z := (1 : Int32)) (by decide) ?_
          refine Go.goto (pc' := 107) at_103 (by decide) ?_
          refine Go.icmpF (pc' := 110) (X := (1 : Int)) (Y := (1 : Int)) at_107 rfl (by decide) (by decide) (by decide : (1 : Int) = (1 : Int)) ?_
          refine Go.iconst (pc' := 111) at_110 rfl (z := (1 : Int32)) (by decide) ?_
          refine Go.goto (pc' := 115) at_111 (by decide) ?_
          refine Go.istore (pc' := 117) at_115 rfl (Ls' := #[.val (.int a), .val (.int b), .val (.int d), .val (.int f), .val (.ref arr), .val (.int off), .val (.int len), .val (.int sel), .val (.int kk), .val (.ref a2), .val (.int (1 : Int32)), .unset, .unset, .unset]) rfl ?_
          refine Go.aload (pc' := 119) at_117 rfl rfl rfl ?_
          refine Go.iload (pc' := 121) at_119 rfl rfl ?_
          refine Go.callV (pc' := 124) (W := 0) (a := a2) (argsL := [(.int kk)]) (rest := []) (k' := 2) (n' := 11) at_121 rfl (hw _ w22) (hw _ w23) (nf_sel (hw _ w25)) (hw _ w25) (hw _ w24) (hw _ w4) (hw _ w26) E_a2 (by decide) (c_skip hw sz0 a2 arr off (off + len) kk gn_a2 E_a2 F_a2_bytes F_a2_position F_a2_end (by rw [own_64]; omega) (by rw [own_64, own_64]; omega)) (by decide) (by decide) (by decide) (by decide) rfl rfl rfl pd__28I_29V rfl rfl (Nat.le_of_eq rfl) ?_
          intro v4 h4 P4 L4 NL4 hq4
          obtain ⟨rfl, N4, K4, E_a2_4, F_a2_bytes_4, F_a2_position_4, F_a2_end_4⟩ := hq4
          dsimp only [Option.toList, List.cons_append, List.nil_append]
          replace N0 := NL4 _ N0 N4
          replace sz0 : n0 ≤ h4.size := Nat.le_trans sz0 K4.1
          clear E_a2
          clear F_a2_bytes
          clear F_a2_position
          clear F_a2_end
          replace A_arr := A_arr.keep K4 (ninS ne_arr_a2 nin0)
          have E_a2 := E_a2_4; clear E_a2_4
          have F_a2_bytes := F_a2_bytes_4; clear F_a2_bytes_4
          have F_a2_position := F_a2_position_4; clear F_a2_position_4
          have F_a2_end := F_a2_end_4; clear F_a2_end_4
          refine Go.aload (pc' := 126) at_124 rfl rfl rfl ?_
          refine Go.callV0 (pc' := 129) (W := 0) (a := a2) (argsL := []) (rest := []) (v0 := some (.int (1 : Int32))) (st2 := [(.int (1 : Int32))]) at_126 rfl (hw _ w17) (hw _ w18) (nf_sel (hw _ w20)) (hw _ w20) (hw _ w19) (hw _ w4) (hw _ w21) E_a2 (by decide) (c_has hw a2 arr (off + kk) (off + len) (1 : Int32) E_a2 F_a2_bytes F_a2_position F_a2_end (if_pos (by omega))) (by decide) (by decide) rfl rfl rfl (by decide) (by decide) rfl pd__28_29Z rfl rfl (Nat.le_of_eq rfl) ?_
          refine Go.istore (pc' := 131) at_129 rfl (Ls' := #[.val (.int a), .val (.int b), .val (.int d), .val (.int f), .val (.ref arr), .val (.int off), .val (.int len), .val (.int sel), .val (.int kk), .val (.ref a2), .val (.int (1 : Int32)), .val (.int (1 : Int32)), .unset, .unset]) rfl ?_
          refine Go.iload (pc' := 133) at_131 rfl rfl ?_
          refine Go.iload (pc' := 135) at_133 rfl rfl ?_
          refine Go.iload (pc' := 137) at_135 rfl rfl ?_
          refine Go.icmpF (pc' := 140) (X := kk.toInt) (Y := len.toInt) at_137 rfl rfl rfl (by omega : kk.toInt < len.toInt) ?_
          refine Go.iconst (pc' := 141) at_140 rfl (z := (1 : Int32)) (by decide) ?_
          refine Go.goto (pc' := 145) at_141 (by decide) ?_
          refine Go.icmpF (pc' := 148) (X := (1 : Int)) (Y := (1 : Int)) at_145 rfl (by decide) (by decide) (by decide : (1 : Int) = (1 : Int)) ?_
          refine Go.aload (pc' := 150) at_148 rfl rfl rfl ?_
          refine Go.callV0 (pc' := 153) (W := 0) (a := a2) (argsL := []) (rest := []) (v0 := some (.int (1 : Int32))) (st2 := [(.int (1 : Int32))]) at_150 rfl (hw _ w17) (hw _ w18) (nf_sel (hw _ w20)) (hw _ w20) (hw _ w19) (hw _ w4) (hw _ w21) E_a2 (by decide) (c_has hw a2 arr (off + kk) (off + len) (1 : Int32) E_a2 F_a2_bytes F_a2_position F_a2_end (if_pos (by omega))) (by decide) (by decide) rfl rfl rfl (by decide) (by decide) rfl pd__28_29Z rfl rfl (Nat.le_of_eq rfl) ?_
          refine Go.iload (pc' := 155) at_153 rfl rfl ?_
          refine Go.icmpF (pc' := 158) (X := (1 : Int)) (Y := (1 : Int)) at_155 rfl (by decide) (by decide) (by decide : (1 : Int) = (1 : Int)) ?_
          refine Go.iconst (pc' := 159) at_158 rfl (z := (1 : Int32)) (by decide) ?_
          refine Go.goto (pc' := 163) at_159 (by decide) ?_
          refine Go.istore (pc' := 165) at_163 rfl (Ls' := #[.val (.int a), .val (.int b), .val (.int d), .val (.int f), .val (.ref arr), .val (.int off), .val (.int len), .val (.int sel), .val (.int kk), .val (.ref a2), .val (.int (1 : Int32)), .val (.int (1 : Int32)), .val (.int (1 : Int32)), .unset]) rfl ?_
          refine Go.iconst (pc' := 166) at_165 rfl (z := (1 : Int32)) (by decide) ?_
          refine Go.istore (pc' := 168) at_166 rfl (Ls' := #[.val (.int a), .val (.int b), .val (.int d), .val (.int f), .val (.ref arr), .val (.int off), .val (.int len), .val (.int sel), .val (.int kk), .val (.ref a2), .val (.int (1 : Int32)), .val (.int (1 : Int32)), .val (.int (1 : Int32)), .val (.int (1 : Int32))]) rfl ?_
          refine Go.iload (pc' := 170) at_168 rfl rfl ?_
          refine Go.iload (pc' := 172) at_170 rfl rfl ?_
          refine Go.icmpF (pc' := 175) (X := kk.toInt) (Y := len.toInt) at_172 rfl rfl rfl (by omega : kk.toInt < len.toInt) ?_
          refine Go.aload (pc' := 177) at_175 rfl rfl rfl ?_
          refine Go.iload (pc' := 179) at_177 rfl rfl ?_
          refine Go.iload (pc' := 181) at_179 rfl rfl ?_
          refine Go.isub (pc' := 182) at_181 rfl rfl ?_
          refine Go.callV (pc' := 185) (W := 0) (a := a2) (argsL := [(.int (len - kk))]) (rest := []) (k' := 2) (n' := 11) at_182 rfl (hw _ w22) (hw _ w23) (nf_sel (hw _ w25)) (hw _ w25) (hw _ w24) (hw _ w4) (hw _ w26) E_a2 (by decide) (c_skip hw sz0 a2 arr (off + kk) (off + len) (len - kk) gn_a2 E_a2 F_a2_bytes F_a2_position F_a2_end (by rw [own_64]; omega) (by rw [own_64, own_64]; omega)) (by decide) (by decide) (by decide) (by decide) rfl rfl rfl pd__28I_29V rfl rfl (Nat.le_of_eq rfl) ?_
          intro v5 h5 P5 L5 NL5 hq5
          obtain ⟨rfl, N5, K5, E_a2_5, F_a2_bytes_5, F_a2_position_5, F_a2_end_5⟩ := hq5
          dsimp only [Option.toList, List.cons_append, List.nil_append]
          replace N0 := NL5 _ N0 N5
          replace sz0 : n0 ≤ h5.size := Nat.le_trans sz0 K5.1
          clear E_a2
          clear F_a2_bytes
          clear F_a2_position
          clear F_a2_end
          replace A_arr := A_arr.keep K5 (ninS ne_arr_a2 nin0)
          have E_a2 := E_a2_5; clear E_a2_5
          have F_a2_bytes := F_a2_bytes_5; clear F_a2_bytes_5
          have F_a2_position := F_a2_position_5; clear F_a2_position_5
          have F_a2_end := F_a2_end_5; clear F_a2_end_5
          refine Go.aload (pc' := 187) at_185 rfl rfl rfl ?_
          refine Go.callV0 (pc' := 190) (W := 0) (a := a2) (argsL := []) (rest := []) (v0 := some (.int (0 : Int32))) (st2 := [(.int (0 : Int32))]) at_187 rfl (hw _ w17) (hw _ w18) (nf_sel (hw _ w20)) (hw _ w20) (hw _ w19) (hw _ w4) (hw _ w21) E_a2 (by decide) (c_has hw a2 arr ((off + kk) + (len - kk)) (off + len) (0 : Int32) E_a2 F_a2_bytes F_a2_position F_a2_end (if_neg (by omega))) (by decide) (by decide) rfl rfl rfl (by decide) (by decide) rfl pd__28_29Z rfl rfl (Nat.le_of_eq rfl) ?_
          refine Go.ifF (pc' := 193) (X := (0 : Int)) at_190 rfl (by decide) (by decide : (0 : Int) = 0) ?_
          refine Go.iconst (pc' := 194) at_193 rfl (z := (1 : Int32)) (by decide) ?_
          refine Go.goto (pc' := 198) at_194 (by decide) ?_
          refine Go.istore (pc' := 200) at_198 rfl (Ls' := #[.val (.int a), .val (.int b), .val (.int d), .val (.int f), .val (.ref arr), .val (.int off), .val (.int len), .val (.int sel), .val (.int kk), .val (.ref a2), .val (.int (1 : Int32)), .val (.int (1 : Int32)), .val (.int (1 : Int32)), .val (.int (1 : Int32))]) rfl ?_
          refine Go.iload (pc' := 202) at_200 rfl rfl ?_
          refine Go.ifF (pc' := 205) (X := (1 : Int)) at_202 rfl (by decide) (by decide : ¬ (1 : Int) = 0) ?_
          refine Go.iload (pc' := 207) at_205 rfl rfl ?_
          refine Go.ifF (pc' := 210) (X := (1 : Int)) at_207 rfl (by decide) (by decide : ¬ (1 : Int) = 0) ?_
          refine Go.iload (pc' := 212) at_210 rfl rfl ?_
          refine Go.ifF (pc' := 215) (X := (1 : Int)) at_212 rfl (by decide) (by decide : ¬ (1 : Int) = 0) ?_
          refine Go.iconst (pc' := 216) at_215 rfl (z := (1 : Int32)) (by decide) ?_
          refine Go.goto (pc' := 220) at_216 (by decide) ?_
          refine Go.retZ at_220 rfl (by decide) (by decide) (by decide) ?_
          exact ⟨rfl, N0⟩
        · have _ := hkl
          refine Go.aload (pc' := 94) at_92 rfl rfl rfl ?_
          refine Go.callV0 (pc' := 97) (W := 0) (a := a2) (argsL := []) (rest := []) (v0 := some (.int (1 : Int32))) (st2 := [(.int (1 : Int32))]) at_94 rfl (hw _ w17) (hw _ w18) (nf_sel (hw _ w20)) (hw _ w20) (hw _ w19) (hw _ w4) (hw _ w21) E_a2 (by decide) (c_has hw a2 arr off (off + len) (1 : Int32) E_a2 F_a2_bytes F_a2_position F_a2_end (if_pos (by omega))) (by decide) (by decide) rfl rfl rfl (by decide) (by decide) rfl pd__28_29Z rfl rfl (Nat.le_of_eq rfl) ?_
          refine Go.iload (pc' := 99) at_97 rfl rfl ?_
          refine Go.ifF (pc' := 102) (X := len.toInt) at_99 rfl rfl (by omega : 0 < len.toInt) ?_
          refine Go.iconst (pc' := 103) at_102 rfl (z := (1 : Int32)) (by decide) ?_
          refine Go.goto (pc' := 107) at_103 (by decide) ?_
          refine Go.icmpF (pc' := 110) (X := (1 : Int)) (Y := (1 : Int)) at_107 rfl (by decide) (by decide) (by decide : (1 : Int) = (1 : Int)) ?_
          refine Go.iconst (pc' := 111) at_110 rfl (z := (1 : Int32)) (by decide) ?_
          refine Go.goto (pc' := 115) at_111 (by decide) ?_
          refine Go.istore (pc' := 117) at_115 rfl (Ls' := #[.val (.int a), .val (.int b), .val (.int d), .val (.int f), .val (.ref arr), .val (.int off), .val (.int len), .val (.int sel), .val (.int kk), .val (.ref a2), .val (.int (1 : Int32)), .unset, .unset, .unset]) rfl ?_
          refine Go.aload (pc' := 119) at_117 rfl rfl rfl ?_
          refine Go.iload (pc' := 121) at_119 rfl rfl ?_
          refine Go.callV (pc' := 124) (W := 0) (a := a2) (argsL := [(.int kk)]) (rest := []) (k' := 2) (n' := 11) at_121 rfl (hw _ w22) (hw _ w23) (nf_sel (hw _ w25)) (hw _ w25) (hw _ w24) (hw _ w4) (hw _ w26) E_a2 (by decide) (c_skip hw sz0 a2 arr off (off + len) kk gn_a2 E_a2 F_a2_bytes F_a2_position F_a2_end (by rw [own_64]; omega) (by rw [own_64, own_64]; omega)) (by decide) (by decide) (by decide) (by decide) rfl rfl rfl pd__28I_29V rfl rfl (Nat.le_of_eq rfl) ?_
          intro v6 h6 P6 L6 NL6 hq6
          obtain ⟨rfl, N6, K6, E_a2_6, F_a2_bytes_6, F_a2_position_6, F_a2_end_6⟩ := hq6
          dsimp only [Option.toList, List.cons_append, List.nil_append]
          replace N0 := NL6 _ N0 N6
          replace sz0 : n0 ≤ h6.size := Nat.le_trans sz0 K6.1
          clear E_a2
          clear F_a2_bytes
          clear F_a2_position
          clear F_a2_end
          replace A_arr := A_arr.keep K6 (ninS ne_arr_a2 nin0)
          have E_a2 := E_a2_6; clear E_a2_6
          have F_a2_bytes := F_a2_bytes_6; clear F_a2_bytes_6
          have F_a2_position := F_a2_position_6; clear F_a2_position_6
          have F_a2_end := F_a2_end_6; clear F_a2_end_6
          refine Go.aload (pc' := 126) at_124 rfl rfl rfl ?_
          refine Go.callV0 (pc' := 129) (W := 0) (a := a2) (argsL := []) (rest := []) (v0 := some (.int (0 : Int32))) (st2 := [(.int (0 : Int32))]) at_126 rfl (hw _ w17) (hw _ w18) (nf_sel (hw _ w20)) (hw _ w20) (hw _ w19) (hw _ w4) (hw _ w21) E_a2 (by decide) (c_has hw a2 arr (off + kk) (off + len) (0 : Int32) E_a2 F_a2_bytes F_a2_position F_a2_end (if_neg (by omega))) (by decide) (by decide) rfl rfl rfl (by decide) (by decide) rfl pd__28_29Z rfl rfl (Nat.le_of_eq rfl) ?_
          refine Go.istore (pc' := 131) at_129 rfl (Ls' := #[.val (.int a), .val (.int b), .val (.int d), .val (.int f), .val (.ref arr), .val (.int off), .val (.int len), .val (.int sel), .val (.int kk), .val (.ref a2), .val (.int (1 : Int32)), .val (.int (0 : Int32)), .unset, .unset]) rfl ?_
          refine Go.iload (pc' := 133) at_131 rfl rfl ?_
          refine Go.iload (pc' := 135) at_133 rfl rfl ?_
          refine Go.iload (pc' := 137) at_135 rfl rfl ?_
          refine Go.icmpT (pc' := 144) (X := kk.toInt) (Y := len.toInt) at_137 (by decide) rfl rfl (by omega : ¬ kk.toInt < len.toInt) ?_
          refine Go.iconst (pc' := 145) at_144 rfl (z := (0 : Int32)) (by decide) ?_
          refine Go.icmpF (pc' := 148) (X := (0 : Int)) (Y := (0 : Int)) at_145 rfl (by decide) (by decide) (by decide : (0 : Int) = (0 : Int)) ?_
          refine Go.aload (pc' := 150) at_148 rfl rfl rfl ?_
          refine Go.callV0 (pc' := 153) (W := 0) (a := a2) (argsL := []) (rest := []) (v0 := some (.int (0 : Int32))) (st2 := [(.int (0 : Int32))]) at_150 rfl (hw _ w17) (hw _ w18) (nf_sel (hw _ w20)) (hw _ w20) (hw _ w19) (hw _ w4) (hw _ w21) E_a2 (by decide) (c_has hw a2 arr (off + kk) (off + len) (0 : Int32) E_a2 F_a2_bytes F_a2_position F_a2_end (if_neg (by omega))) (by decide) (by decide) rfl rfl rfl (by decide) (by decide) rfl pd__28_29Z rfl rfl (Nat.le_of_eq rfl) ?_
          refine Go.iload (pc' := 155) at_153 rfl rfl ?_
          refine Go.icmpF (pc' := 158) (X := (0 : Int)) (Y := (0 : Int)) at_155 rfl (by decide) (by decide) (by decide : (0 : Int) = (0 : Int)) ?_
          refine Go.iconst (pc' := 159) at_158 rfl (z := (1 : Int32)) (by decide) ?_
          refine Go.goto (pc' := 163) at_159 (by decide) ?_
          refine Go.istore (pc' := 165) at_163 rfl (Ls' := #[.val (.int a), .val (.int b), .val (.int d), .val (.int f), .val (.ref arr), .val (.int off), .val (.int len), .val (.int sel), .val (.int kk), .val (.ref a2), .val (.int (1 : Int32)), .val (.int (0 : Int32)), .val (.int (1 : Int32)), .unset]) rfl ?_
          refine Go.iconst (pc' := 166) at_165 rfl (z := (1 : Int32)) (by decide) ?_
          refine Go.istore (pc' := 168) at_166 rfl (Ls' := #[.val (.int a), .val (.int b), .val (.int d), .val (.int f), .val (.ref arr), .val (.int off), .val (.int len), .val (.int sel), .val (.int kk), .val (.ref a2), .val (.int (1 : Int32)), .val (.int (0 : Int32)), .val (.int (1 : Int32)), .val (.int (1 : Int32))]) rfl ?_
          refine Go.iload (pc' := 170) at_168 rfl rfl ?_
          refine Go.iload (pc' := 172) at_170 rfl rfl ?_
          refine Go.icmpT (pc' := 200) (X := kk.toInt) (Y := len.toInt) at_172 (by decide) rfl rfl (by omega : ¬ kk.toInt < len.toInt) ?_
          refine Go.iload (pc' := 202) at_200 rfl rfl ?_
          refine Go.ifF (pc' := 205) (X := (1 : Int)) at_202 rfl (by decide) (by decide : ¬ (1 : Int) = 0) ?_
          refine Go.iload (pc' := 207) at_205 rfl rfl ?_
          refine Go.ifF (pc' := 210) (X := (1 : Int)) at_207 rfl (by decide) (by decide : ¬ (1 : Int) = 0) ?_
          refine Go.iload (pc' := 212) at_210 rfl rfl ?_
          refine Go.ifF (pc' := 215) (X := (1 : Int)) at_212 rfl (by decide) (by decide : ¬ (1 : Int) = 0) ?_
          refine Go.iconst (pc' := 216) at_215 rfl (z := (1 : Int32)) (by decide) ?_
          refine Go.goto (pc' := 220) at_216 (by decide) ?_
          refine Go.retZ at_220 rfl (by decide) (by decide) (by decide) ?_
          exact ⟨rfl, N0⟩
      · have hkl : ¬ kk.toInt < len.toInt := by omega
        refine Go.aload (pc' := 94) at_92 rfl rfl rfl ?_
        refine Go.callV0 (pc' := 97) (W := 0) (a := a2) (argsL := []) (rest := []) (v0 := some (.int (0 : Int32))) (st2 := [(.int (0 : Int32))]) at_94 rfl (hw _ w17) (hw _ w18) (nf_sel (hw _ w20)) (hw _ w20) (hw _ w19) (hw _ w4) (hw _ w21) E_a2 (by decide) (c_has hw a2 arr off (off + len) (0 : Int32) E_a2 F_a2_bytes F_a2_position F_a2_end (if_neg (by omega))) (by decide) (by decide) rfl rfl rfl (by decide) (by decide) rfl pd__28_29Z rfl rfl (Nat.le_of_eq rfl) ?_
        refine Go.iload (pc' := 99) at_97 rfl rfl ?_
        refine Go.ifT (pc' := 106) (X := len.toInt) at_99 (by decide) rfl (by omega : ¬ 0 < len.toInt) ?_
        refine Go.iconst (pc' := 107) at_106 rfl (z := (0 : Int32)) (by decide) ?_
        refine Go.icmpF (pc' := 110) (X := (0 : Int)) (Y := (0 : Int)) at_107 rfl (by decide) (by decide) (by decide : (0 : Int) = (0 : Int)) ?_
        refine Go.iconst (pc' := 111) at_110 rfl (z := (1 : Int32)) (by decide) ?_
        refine Go.goto (pc' := 115) at_111 (by decide) ?_
        refine Go.istore (pc' := 117) at_115 rfl (Ls' := #[.val (.int a), .val (.int b), .val (.int d), .val (.int f), .val (.ref arr), .val (.int off), .val (.int len), .val (.int sel), .val (.int kk), .val (.ref a2), .val (.int (1 : Int32)), .unset, .unset, .unset]) rfl ?_
        refine Go.aload (pc' := 119) at_117 rfl rfl rfl ?_
        refine Go.iload (pc' := 121) at_119 rfl rfl ?_
        refine Go.callV (pc' := 124) (W := 0) (a := a2) (argsL := [(.int kk)]) (rest := []) (k' := 2) (n' := 11) at_121 rfl (hw _ w22) (hw _ w23) (nf_sel (hw _ w25)) (hw _ w25) (hw _ w24) (hw _ w4) (hw _ w26) E_a2 (by decide) (c_skip hw sz0 a2 arr off (off + len) kk gn_a2 E_a2 F_a2_bytes F_a2_position F_a2_end (by rw [own_64]; omega) (by rw [own_64, own_64]; omega)) (by decide) (by decide) (by decide) (by decide) rfl rfl rfl pd__28I_29V rfl rfl (Nat.le_of_eq rfl) ?_
        intro v7 h7 P7 L7 NL7 hq7
        obtain ⟨rfl, N7, K7, E_a2_7, F_a2_bytes_7, F_a2_position_7, F_a2_end_7⟩ := hq7
        dsimp only [Option.toList, List.cons_append, List.nil_append]
        replace N0 := NL7 _ N0 N7
        replace sz0 : n0 ≤ h7.size := Nat.le_trans sz0 K7.1
        clear E_a2
        clear F_a2_bytes
        clear F_a2_position
        clear F_a2_end
        replace A_arr := A_arr.keep K7 (ninS ne_arr_a2 nin0)
        have E_a2 := E_a2_7; clear E_a2_7
        have F_a2_bytes := F_a2_bytes_7; clear F_a2_bytes_7
        have F_a2_position := F_a2_position_7; clear F_a2_position_7
        have F_a2_end := F_a2_end_7; clear F_a2_end_7
        refine Go.aload (pc' := 126) at_124 rfl rfl rfl ?_
        refine Go.callV0 (pc' := 129) (W := 0) (a := a2) (argsL := []) (rest := []) (v0 := some (.int (0 : Int32))) (st2 := [(.int (0 : Int32))]) at_126 rfl (hw _ w17) (hw _ w18) (nf_sel (hw _ w20)) (hw _ w20) (hw _ w19) (hw _ w4) (hw _ w21) E_a2 (by decide) (c_has hw a2 arr (off + kk) (off + len) (0 : Int32) E_a2 F_a2_bytes F_a2_position F_a2_end (if_neg (by omega))) (by decide) (by decide) rfl rfl rfl (by decide) (by decide) rfl pd__28_29Z rfl rfl (Nat.le_of_eq rfl) ?_
        refine Go.istore (pc' := 131) at_129 rfl (Ls' := #[.val (.int a), .val (.int b), .val (.int d), .val (.int f), .val (.ref arr), .val (.int off), .val (.int len), .val (.int sel), .val (.int kk), .val (.ref a2), .val (.int (1 : Int32)), .val (.int (0 : Int32)), .unset, .unset]) rfl ?_
        refine Go.iload (pc' := 133) at_131 rfl rfl ?_
        refine Go.iload (pc' := 135) at_133 rfl rfl ?_
        refine Go.iload (pc' := 137) at_135 rfl rfl ?_
        refine Go.icmpT (pc' := 144) (X := kk.toInt) (Y := len.toInt) at_137 (by decide) rfl rfl (by omega : ¬ kk.toInt < len.toInt) ?_
        refine Go.iconst (pc' := 145) at_144 rfl (z := (0 : Int32)) (by decide) ?_
        refine Go.icmpF (pc' := 148) (X := (0 : Int)) (Y := (0 : Int)) at_145 rfl (by decide) (by decide) (by decide : (0 : Int) = (0 : Int)) ?_
        refine Go.aload (pc' := 150) at_148 rfl rfl rfl ?_
        refine Go.callV0 (pc' := 153) (W := 0) (a := a2) (argsL := []) (rest := []) (v0 := some (.int (0 : Int32))) (st2 := [(.int (0 : Int32))]) at_150 rfl (hw _ w17) (hw _ w18) (nf_sel (hw _ w20)) (hw _ w20) (hw _ w19) (hw _ w4) (hw _ w21) E_a2 (by decide) (c_has hw a2 arr (off + kk) (off + len) (0 : Int32) E_a2 F_a2_bytes F_a2_position F_a2_end (if_neg (by omega))) (by decide) (by decide) rfl rfl rfl (by decide) (by decide) rfl pd__28_29Z rfl rfl (Nat.le_of_eq rfl) ?_
        refine Go.iload (pc' := 155) at_153 rfl rfl ?_
        refine Go.icmpF (pc' := 158) (X := (0 : Int)) (Y := (0 : Int)) at_155 rfl (by decide) (by decide) (by decide : (0 : Int) = (0 : Int)) ?_
        refine Go.iconst (pc' := 159) at_158 rfl (z := (1 : Int32)) (by decide) ?_
        refine Go.goto (pc' := 163) at_159 (by decide) ?_
        refine Go.istore (pc' := 165) at_163 rfl (Ls' := #[.val (.int a), .val (.int b), .val (.int d), .val (.int f), .val (.ref arr), .val (.int off), .val (.int len), .val (.int sel), .val (.int kk), .val (.ref a2), .val (.int (1 : Int32)), .val (.int (0 : Int32)), .val (.int (1 : Int32)), .unset]) rfl ?_
        refine Go.iconst (pc' := 166) at_165 rfl (z := (1 : Int32)) (by decide) ?_
        refine Go.istore (pc' := 168) at_166 rfl (Ls' := #[.val (.int a), .val (.int b), .val (.int d), .val (.int f), .val (.ref arr), .val (.int off), .val (.int len), .val (.int sel), .val (.int kk), .val (.ref a2), .val (.int (1 : Int32)), .val (.int (0 : Int32)), .val (.int (1 : Int32)), .val (.int (1 : Int32))]) rfl ?_
        refine Go.iload (pc' := 170) at_168 rfl rfl ?_
        refine Go.iload (pc' := 172) at_170 rfl rfl ?_
        refine Go.icmpT (pc' := 200) (X := kk.toInt) (Y := len.toInt) at_172 (by decide) rfl rfl (by omega : ¬ kk.toInt < len.toInt) ?_
        refine Go.iload (pc' := 202) at_200 rfl rfl ?_
        refine Go.ifF (pc' := 205) (X := (1 : Int)) at_202 rfl (by decide) (by decide : ¬ (1 : Int) = 0) ?_
        refine Go.iload (pc' := 207) at_205 rfl rfl ?_
        refine Go.ifF (pc' := 210) (X := (1 : Int)) at_207 rfl (by decide) (by decide : ¬ (1 : Int) = 0) ?_
        refine Go.iload (pc' := 212) at_210 rfl rfl ?_
        refine Go.ifF (pc' := 215) (X := (1 : Int)) at_212 rfl (by decide) (by decide : ¬ (1 : Int) = 0) ?_
        refine Go.iconst (pc' := 216) at_215 rfl (z := (1 : Int32)) (by decide) ?_
        refine Go.goto (pc' := 220) at_216 (by decide) ?_
        refine Go.retZ at_220 rfl (by decide) (by decide) (by decide) ?_
        exact ⟨rfl, N0⟩
    have z1 : (1 : Int32).toInt = 1 := by decide
    have z0 : (0 : Int32).toInt = 0 := by decide
    have e1 := c_isub len (1 : Int32)
    have r1 := rng32 (len - (1 : Int32))
    have e2 := c_iadd len (1 : Int32)
    have r2 := rng32 (len + (1 : Int32))
    refine Go.iload (pc' := 38) at_36 rfl rfl ?_
    by_cases hc8 : sel.toInt = (0 : Int)
    · refine Go.ifF (pc' := 41) (X := sel.toInt) at_38 rfl rfl (hc8 : sel.toInt = 0) ?_
      refine Go.iload (pc' := 43) at_41 rfl rfl ?_
      refine Go.istore (pc' := 45) at_43 rfl (Ls' := #[.val (.int a), .val (.int b), .val (.int d), .val (.int f), .val (.ref arr), .val (.int off), .val (.int len), .val (.int sel), .val (.int len), .unset, .unset, .unset, .unset, .unset]) rfl ?_
      refine Go.goto (pc' := 77) at_45 (by decide) ?_
      exact J77 _ (by omega) (by omega)
    · refine Go.ifT (pc' := 48) (X := sel.toInt) at_38 (by decide) rfl (hc8 : ¬ sel.toInt = 0) ?_
      refine Go.iload (pc' := 50) at_48 rfl rfl ?_
      refine Go.iconst (pc' := 51) at_50 rfl (z := (1 : Int32)) (by decide) ?_
      by_cases hc9 : sel.toInt = (1 : Int)
      · refine Go.icmpF (pc' := 54) (X := sel.toInt) (Y := (1 : Int)) at_51 rfl rfl (by decide) (hc9 : sel.toInt = (1 : Int)) ?_
        refine Go.iconst (pc' := 55) at_54 rfl (z := (0 : Int32)) (by decide) ?_
        refine Go.iload (pc' := 57) at_55 rfl rfl ?_
        refine Go.iconst (pc' := 58) at_57 rfl (z := (1 : Int32)) (by decide) ?_
        refine Go.isub (pc' := 59) at_58 rfl rfl ?_
        refine Go.callS0 (pc' := 62) (W := 0) (argsL := [(.int (0 : Int32)), (.int (len - (1 : Int32)))]) (rest := []) (v0 := some (.int (f_c_max (0 : Int32) (len - (1 : Int32))))) (st2 := [(.int (f_c_max (0 : Int32) (len - (1 : Int32))))]) at_59 rfl (hw _ w31) (hw _ w32) (hw _ w33) (hw _ w34) (by decide) (c_max hw (0 : Int32) (len - (1 : Int32)) rfl) (by decide) (by decide) rfl rfl rfl (by decide) (by decide) rfl pd__28II_29I rfl rfl (Nat.le_of_eq rfl) ?_
        generalize hv_km : (f_c_max (0 : Int32) (len - (1 : Int32))) = km
        refine Go.istore (pc' := 64) at_62 rfl (Ls' := #[.val (.int a), .val (.int b), .val (.int d), .val (.int f), .val (.ref arr), .val (.int off), .val (.int len), .val (.int sel), .val (.int km), .unset, .unset, .unset, .unset, .unset]) rfl ?_
        have hkm : 0 ≤ km.toInt ∧ km.toInt ≤ len.toInt := by rw [← hv_km]; unfold f_c_max; split <;> omega
        refine Go.goto (pc' := 77) at_64 (by decide) ?_
        exact J77 _ (by omega) (by omega)
      · refine Go.icmpT (pc' := 67) (X := sel.toInt) (Y := (1 : Int)) at_51 (by decide) rfl (by decide) (hc9 : ¬ sel.toInt = (1 : Int)) ?_
        refine Go.iloadN (pc' := 68) at_67 rfl rfl ?_
        refine Go.iconst (pc' := 69) at_68 rfl (z := (2 : Int32)) (by decide) ?_
        refine Go.iushr (pc' := 70) at_69 rfl rfl ?_
        refine Go.iload (pc' := 72) at_70 rfl rfl ?_
        refine Go.iconst (pc' := 73) at_72 rfl (z := (1 : Int32)) (by decide) ?_
        refine Go.iadd (pc' := 74) at_73 rfl rfl ?_
        have hnz : (len + (1 : Int32)) ≠ 0 := fun q => by rw [q] at e2; omega
        have u1 : ((d.toUInt32 >>> ((2 : Int32) &&& 31).toUInt32).toInt32).toInt = (d.toInt % 4294967296) / (2 ^ 2 : Nat) := c_iushr d 2 2 (by decide) (by decide)
        have u2 := (c_iremV ((d.toUInt32 >>> ((2 : Int32) &&& 31).toUInt32).toInt32) (len + (1 : Int32))).1 (by omega) (by omega)
        refine Go.irem (pc' := 75) at_74 rfl hnz rfl ?_
        generalize hv_kr : (((d.toUInt32 >>> ((2 : Int32) &&& 31).toUInt32).toInt32) % (len + (1 : Int32))) = kr
        refine Go.istore (pc' := 77) at_75 rfl (Ls' := #[.val (.int a), .val (.int b), .val (.int d), .val (.int f), .val (.ref arr), .val (.int off), .val (.int len), .val (.int sel), .val (.int kr), .unset, .unset, .unset, .unset, .unset]) rfl ?_
        rw [hv_kr] at u2
        exact J77 _ (by omega) (by omega)
  refine Go.iloadN (pc' := 13) at_12 rfl rfl ?_
  refine Go.iconst (pc' := 14) at_13 rfl (z := (1 : Int32)) (by decide) ?_
  refine Go.iand (pc' := 15) at_14 rfl rfl ?_
  by_cases hc10 : (f &&& (1 : Int32)).toInt = (0 : Int)
  · refine Go.ifT (pc' := 25) (X := (f &&& (1 : Int32)).toInt) at_15 (by decide) rfl (hc10 : (f &&& (1 : Int32)).toInt = 0) ?_
    refine Go.iloadN (pc' := 26) at_25 rfl rfl ?_
    refine Go.ldcI (pc' := 28) at_26 rfl (hw _ w1) ?_
    refine Go.iand (pc' := 29) at_28 rfl rfl ?_
    exact J29 _ (by omega) (by omega)
  · refine Go.ifF (pc' := 18) (X := (f &&& (1 : Int32)).toInt) at_15 rfl rfl (hc10 : ¬ (f &&& (1 : Int32)).toInt = 0) ?_
    refine Go.iloadN (pc' := 19) at_18 rfl rfl ?_
    refine Go.bipush (pc' := 21) at_19 rfl (z := (7 : Int32)) (by decide) ?_
    refine Go.iand (pc' := 22) at_21 rfl rfl ?_
    refine Go.goto (pc' := 29) at_22 (by decide) ?_
    exact J29 _ (by omega) (by omega)
set_option maxRecDepth 65536 in
set_option maxHeartbeats 40000000 in
theorem comes_1 {Post : Tables → Env → Array Value → State → Outcome → State → Prop} (hpost : ∀ tb e args s v u, (limb_1_1.after args s (.returned v) u = true ∧ limb_1_2.after args s (.returned v) u = true ∧ True) → FrameEnd s (.returned v) u (Jvm.fieldLocs frame_1_writes args s ++ Jvm.arrayLocs frame_1_arrays args s ++ Jvm.staticLocs frame_1_statics s) 16 128 → Post tb e args s (.returned v) u) :
    ArmFor flags0 classFile x code maxLocals ret World_1 tables_1 room_1 Calls_1 rest_1 Pre_1 Post := by
  intro l hfl _ _ p e ha hc hk s m args below hf hA hF happ hP
  obtain ⟨hcalls, hrest, hpre⟩ := hP
  obtain ⟨-, -, -, hnamed, -, -, -, hat⟩ := (Spec.applies_iff hf).mp happ
  obtain ⟨hg, hn⟩ := and_e (Cond.before_iff.mp (show (Jvm.Cond.and given_1 narrow_1).before args s = true from hpre))
  obtain ⟨h1, h2⟩ := and_e hg
  obtain ⟨w0, w1, w2, w3, rfl⟩ : ∃ w0 w1 w2 w3 : Value, args = #[w0, w1, w2, w3] := by
    have hs : args.size = 4 := by simpa [Cond.value, given_1] using h1
    obtain ⟨L⟩ := args
    match L, hs with
    | [w0, w1, w2, w3], _ => exact ⟨w0, w1, w2, w3, rfl⟩
  have hw := fun d (hd : d ∈ tables_1) => atoms_spec (ws := Jvm.Cond.code x code maxLocals ret :: tables_1) hat d (List.mem_cons_of_mem _ hd)
  obtain ⟨q0, h2⟩ := and_e h2
  obtain ⟨i0, e0⟩ := is_v q0
  obtain rfl : w0 = (.int i0) := Option.some.inj e0
  obtain ⟨q1, h2⟩ := and_e h2
  obtain ⟨i1, e1⟩ := is_v q1
  obtain rfl : w1 = (.int i1) := Option.some.inj e1
  obtain ⟨q2, h2⟩ := and_e h2
  obtain ⟨i2, e2⟩ := is_v q2
  obtain rfl : w2 = (.int i2) := Option.some.inj e2
  have q3 := h2
  obtain ⟨i3, e3⟩ := is_v q3
  obtain rfl : w3 = (.int i3) := Option.some.inj e3
  obtain ⟨n, o, h1, h2, h3, _, L, rfl, ⟨rfl, N⟩, hq⟩ := law_con (l := l) hw (h0 := s.heap) (n0 := s.heap.size) (Nat.le_refl _) i0 i1 i2 i3 p e ha hc hk s m _ below hf ((Spec.applies_iff_loose hf).mp happ).1 ⟨rfl, State.Warmed39.refl s, rfl⟩ trivial
  refine ⟨n, _, h1, h2, h3, hpost _ _ _ _ _ _ ⟨Cond.after_iff.mpr rfl, Cond.after_iff.mpr (eq_i res_at (Term.int_eval (1)) rfl), trivial⟩ ⟨hq.1, hq.2.1, (hq.2.2.sift fun y hy => Or.inr (N y hy)).mono (by decide) (by decide)⟩⟩
theorem main_1_1 : Claimed_1_1 := comes_1 fun _ _ _ _ _ _ h hF => ⟨h.1, hF⟩
theorem main_1_2 : Claimed_1_2 := comes_1 fun _ _ _ _ _ _ h hF => ⟨h.2.1, hF⟩
end Jvm.Pilot.@@N@@
namespace Jvm.Pilot.@@N@@
open Jvm Jvm.ClassFile Sem Op Lib Jvm.Free Jvm.Stand Jvm.Pilot.@@N@@.Jvm.D
/-! MADE BY PROGRAM (witnessworld.py) out of the Statement's table words and the real class files: 10 classes; the members and pool entries that the words name. The judged class is class 1, her method 1. -/
namespace start1
open Jvm.ClassFile
def u (s : String) : CpInfo := .utf8 (stringToUtf16 s)
/-- a pool by its gaps: so many unusable entries, then the entry; so many at the end -/
def gap : Nat → List CpInfo → List CpInfo
  | 0, r => r
  | n + 1, r => .unusable :: gap n r
def poolList (es : List (Nat × CpInfo)) (last : Nat) : List CpInfo := es.foldr (fun e r => gap e.1 (e.2 :: r)) (gap last [])
def pool (es : List (Nat × CpInfo)) (last : Nat) : Array CpInfo := ⟨poolList es last⟩
def fileOf (pool : Array CpInfo) (this : Nat) (attrs : Array Attribute := #[]) (ms : Array MethodInfo := #[]) (fl : Nat := 33) (sup : Nat := 0) (ifs : Array Nat := #[]) (fds : Array FieldInfo := #[]) : ClassFile where
  minorVersion := 0
  majorVersion := 65
  constantPool := pool
  accessFlags := fl
  thisClass := this
  superClass := sup
  interfaces := ifs
  fields := fds
  methods := ms
  attributes := attrs
def plain (name : String) (sup : Option ClassId) : Class where
  name := name
  kind := .ordinary
  loader := none
  accessFlags := 33
  super := sup
  interfaces := #[]
  cf := none
  fields := #[]
  methods := #[]
  instanceTypes := #[]
  staticTypes := #[]
  resolved := #[]
  callSites := []
  init := .initialized
  statics := none
  mirror := none

def pool0 : Array CpInfo := pool [(5, u "<init>"), (0, u "()V"), (1, .class_ 10), (1, u "java/lang/Object")] 113

def k0c0 : Code := { maxStack := 0, maxLocals := 1, code := object_method_1_code, exceptionTable := #[], attributes := #[] }
def k0m0 : Method := { name := "<init>", desc := "()V", sig := { parameters := [], returnType := none }, accessFlags := 1, code := some k0c0 }
/-- java/lang/Object -/
def k0 : Class := { plain "java/lang/Object" none with
  accessFlags := 33
  interfaces := #[]
  cf := some (fileOf pool0 8 #[] #[{ accessFlags := 1, nameIndex := 5, descriptorIndex := 6, attributes := #[] }] 33 0 #[] #[])
  fields := #[]
  methods := #[k0m0]
  instanceTypes := #[]
  staticTypes := #[]
  resolved := Array.replicate 124 none
  statics := none }

def pool1 : Array CpInfo := pool [(2, .class_ 4), (1, u "java/lang/Object"), (0, u "<init>"), (0, u "()V"), (0, .integer 1073741823), (0, .methodref 9 10), (0, .class_ 11), (0, .nameAndType 12 13), (0, u "java/lang/Math"), (0, u "max"), (0, u "(II)I"), (0, .class_ 15), (0, u "com/example/mixed_urn/mixedurn/index/ByteReader"), (0, .methodref 14 17), (0, .nameAndType 5 18), (0, u "([BII)V"), (0, .methodref 14 20), (0, .nameAndType 21 22), (0, u "hasRemaining"), (0, u "()Z"), (0, .methodref 14 24), (0, .nameAndType 25 26), (0, u "skip"), (0, u "(I)V"), (0, .class_ 28), (0, u "com/example/mixed_urn/mixedurn/index/ByteReaderHasRemainingPinLaw"), (2, u "law"), (0, u "(IIII)Z")] 5

def k1m0 : Method := { name := "<init>", desc := "()V", sig := { parameters := [], returnType := none }, accessFlags := 1, code := none }
def k1c1 : Code := { maxStack := 5, maxLocals := 14, code := code, exceptionTable := #[], attributes := #[] }
def k1m1 : Method := { name := "law", desc := "(IIII)Z", sig := { parameters := [.int, .int, .int, .int], returnType := some .boolean }, accessFlags := 9, code := some k1c1 }
/-- com/example/mixed_urn/mixedurn/index/ByteReaderHasRemainingPinLaw -/
def k1 : Class := { plain "com/example/mixed_urn/mixedurn/index/ByteReaderHasRemainingPinLaw" (some 0) with
  accessFlags := 49
  interfaces := #[]
  cf := some (fileOf pool1 27 #[] #[{ accessFlags := 1, nameIndex := 5, descriptorIndex := 6, attributes := #[] }, { accessFlags := 9, nameIndex := 31, descriptorIndex := 32, attributes := #[] }] 49 2 #[] #[])
  fields := #[]
  methods := #[k1m0, k1m1]
  instanceTypes := #[]
  staticTypes := #[]
  resolved := Array.replicate 38 none
  statics := none }

def pool2 : Array CpInfo := pool [(1, .methodref 2 3), (0, .class_ 4), (0, .nameAndType 5 6), (0, u "java/lang/Object"), (0, u "<init>"), (0, u "()V"), (0, .fieldref 8 9), (0, .class_ 10), (0, .nameAndType 11 12), (0, u "com/example/mixed_urn/mixedurn/index/ByteReader"), (0, u "bytes"), (0, u "[B"), (0, .fieldref 8 14), (0, .nameAndType 15 16), (0, u "position"), (0, u "I"), (0, .fieldref 8 18), (0, .nameAndType 19 16), (0, u "end"), (0, .methodref 8 21), (0, .nameAndType 22 23), (0, u "require"), (0, u "(J)V"), (40, u "WORDS"), (0, u "Ljava/lang/invoke/VarHandle;"), (30, u "([BII)V"), (3, u "hasRemaining"), (0, u "()Z"), (1, u "skip"), (0, u "(I)V")] 27

def k2c0 : Code := { maxStack := 3, maxLocals := 4, code := prog_29_method_1_code, exceptionTable := #[], attributes := #[] }
def k2m0 : Method := { name := "<init>", desc := "([BII)V", sig := { parameters := [(.array .byte), .int, .int], returnType := none }, accessFlags := 0, code := some k2c0 }
def k2c1 : Code := { maxStack := 2, maxLocals := 1, code := prog_29_method_3_code, exceptionTable := #[], attributes := #[] }
def k2m1 : Method := { name := "hasRemaining", desc := "()Z", sig := { parameters := [], returnType := some .boolean }, accessFlags := 0, code := some k2c1 }
def k2c2 : Code := { maxStack := 3, maxLocals := 2, code := prog_29_method_4_code, exceptionTable := #[], attributes := #[] }
def k2m2 : Method := { name := "skip", desc := "(I)V", sig := { parameters := [.int], returnType := none }, accessFlags := 0, code := some k2c2 }
def k2c3 : Code := { maxStack := 6, maxLocals := 3, code := prog_29_method_13_code, exceptionTable := #[], attributes := #[] }
def k2m3 : Method := { name := "require", desc := "(J)V", sig := { parameters := [.long], returnType := none }, accessFlags := 2, code := some k2c3 }
/-- com/example/mixed_urn/mixedurn/index/ByteReader -/
def k2 : Class := { plain "com/example/mixed_urn/mixedurn/index/ByteReader" (some 0) with
  accessFlags := 48
  interfaces := #[]
  cf := some (fileOf pool2 8 #[] #[{ accessFlags := 0, nameIndex := 5, descriptorIndex := 96, attributes := #[] }, { accessFlags := 0, nameIndex := 100, descriptorIndex := 101, attributes := #[] }, { accessFlags := 0, nameIndex := 103, descriptorIndex := 104, attributes := #[] }, { accessFlags := 2, nameIndex := 22, descriptorIndex := 23, attributes := #[] }] 48 2 #[] #[{ accessFlags := 26, nameIndex := 64, descriptorIndex := 65, attributes := #[] }, { accessFlags := 18, nameIndex := 11, descriptorIndex := 12, attributes := #[] }, { accessFlags := 18, nameIndex := 19, descriptorIndex := 16, attributes := #[] }, { accessFlags := 2, nameIndex := 15, descriptorIndex := 16, attributes := #[] }])
  fields := #[{ name := "WORDS", type := (.object "java/lang/invoke/VarHandle"), accessFlags := 26, slot := 0, constantValue := 0 }, { name := "bytes", type := (.array .byte), accessFlags := 18, slot := 0, constantValue := 0 }, { name := "end", type := .int, accessFlags := 18, slot := 1, constantValue := 0 }, { name := "position", type := .int, accessFlags := 2, slot := 2, constantValue := 0 }]
  methods := #[k2m0, k2m1, k2m2, k2m3]
  instanceTypes := #[(.array .byte), .int, .int]
  staticTypes := #[(.object "java/lang/invoke/VarHandle")]
  resolved := Array.replicate 132 none
  statics := none }

def pool3 : Array CpInfo := pool [(1, .class_ 2), (0, u "java/lang/Math"), (1, .class_ 6), (1, u "java/lang/Object"), (0, u "<init>"), (0, u "()V"), (89, .class_ 100), (1, u "java/lang/Math$RandomNumberGeneratorHolder"), (71, u "negativeZeroFloatBits"), (0, u "J"), (2, u "negativeZeroDoubleBits"), (21, u "max"), (46, u "$assertionsDisabled"), (0, u "Z"), (88, u "(II)I"), (2, u "twoToTheDoubleScaleDown"), (0, u "D"), (4, u "twoToTheDoubleScaleUp"), (9, u "E"), (3, u "PI"), (2, u "TAU"), (2, u "DEGREES_TO_RADIANS"), (0, u "RADIANS_TO_DEGREES")] 94

def k3m0 : Method := { name := "<init>", desc := "()V", sig := { parameters := [], returnType := none }, accessFlags := 2, code := none }
def k3c1 : Code := { maxStack := 2, maxLocals := 2, code := jdk_29_method_65_code, exceptionTable := #[], attributes := #[] }
def k3m1 : Method := { name := "max", desc := "(II)I", sig := { parameters := [.int, .int], returnType := some .int }, accessFlags := 9, code := some k3c1 }
/-- java/lang/Math -/
def k3 : Class := { plain "java/lang/Math" (some 0) with
  accessFlags := 49
  interfaces := #[]
  cf := some (fileOf pool3 1 #[.nestMembers #[98]] #[{ accessFlags := 2, nameIndex := 7, descriptorIndex := 8, attributes := #[] }, { accessFlags := 9, nameIndex := 198, descriptorIndex := 335, attributes := #[] }] 49 4 #[] #[{ accessFlags := 25, nameIndex := 354, descriptorIndex := 339, attributes := #[] }, { accessFlags := 25, nameIndex := 358, descriptorIndex := 339, attributes := #[] }, { accessFlags := 25, nameIndex := 361, descriptorIndex := 339, attributes := #[] }, { accessFlags := 26, nameIndex := 364, descriptorIndex := 339, attributes := #[] }, { accessFlags := 26, nameIndex := 365, descriptorIndex := 339, attributes := #[] }, { accessFlags := 26, nameIndex := 172, descriptorIndex := 173, attributes := #[] }, { accessFlags := 26, nameIndex := 176, descriptorIndex := 173, attributes := #[] }, { accessFlags := 8, nameIndex := 344, descriptorIndex := 339, attributes := #[] }, { accessFlags := 8, nameIndex := 338, descriptorIndex := 339, attributes := #[] }, { accessFlags := 4120, nameIndex := 245, descriptorIndex := 246, attributes := #[] }])
  fields := #[{ name := "E", type := .double, accessFlags := 25, slot := 0, constantValue := 0 }, { name := "PI", type := .double, accessFlags := 25, slot := 1, constantValue := 0 }, { name := "TAU", type := .double, accessFlags := 25, slot := 2, constantValue := 0 }, { name := "DEGREES_TO_RADIANS", type := .double, accessFlags := 26, slot := 3, constantValue := 0 }, { name := "RADIANS_TO_DEGREES", type := .double, accessFlags := 26, slot := 4, constantValue := 0 }, { name := "negativeZeroFloatBits", type := .long, accessFlags := 26, slot := 5, constantValue := 0 }, { name := "negativeZeroDoubleBits", type := .long, accessFlags := 26, slot := 6, constantValue := 0 }, { name := "twoToTheDoubleScaleUp", type := .double, accessFlags := 8, slot := 7, constantValue := 0 }, { name := "twoToTheDoubleScaleDown", type := .double, accessFlags := 8, slot := 8, constantValue := 0 }, { name := "$assertionsDisabled", type := .boolean, accessFlags := 4120, slot := 9, constantValue := 0 }]
  methods := #[k3m0, k3m1]
  instanceTypes := #[]
  staticTypes := #[.double, .double, .double, .double, .double, .long, .long, .double, .double, .boolean]
  resolved := Array.replicate 460 none
  statics := none }

def pool4 : Array CpInfo := pool [(1, u "java/lang/Cloneable"), (0, .class_ 1), (0, u "java/lang/Object"), (0, .class_ 3)] 3

/-- java/lang/Cloneable -/
def k4 : Class := { plain "java/lang/Cloneable" (some 0) with
  accessFlags := 1537
  interfaces := #[]
  cf := some (fileOf pool4 2 #[] #[] 1537 4 #[] #[])
  fields := #[]
  methods := #[]
  instanceTypes := #[]
  staticTypes := #[]
  resolved := Array.replicate 8 none
  statics := none }

def pool5 : Array CpInfo := pool [(1, u "java/io/Serializable"), (0, .class_ 1), (0, u "java/lang/Object"), (0, .class_ 3)] 3

/-- java/io/Serializable -/
def k5 : Class := { plain "java/io/Serializable" (some 0) with
  accessFlags := 1537
  interfaces := #[]
  cf := some (fileOf pool5 2 #[] #[] 1537 4 #[] #[])
  fields := #[]
  methods := #[]
  instanceTypes := #[]
  staticTypes := #[]
  resolved := Array.replicate 8 none
  statics := none }

/-- the primitive byte -/
def k6 : Class := { plain "byte" none with kind := .primitive 'B', accessFlags := 0x411 }
/-- [B -/
def k7 : Class := { plain "[B" (some 0) with kind := .array 6 .byte, interfaces := #[4, 5], accessFlags := 1041 }

/-- the primitive int -/
def k8 : Class := { plain "int" none with kind := .primitive 'I', accessFlags := 0x411 }
/-- [I -/
def k9 : Class := { plain "[I" (some 0) with kind := .array 8 .int, interfaces := #[4, 5], accessFlags := 1041 }

def heap : Heap := #[]
def classes : Array Class := #[k0, k1, k2, k3, k4, k5, k6, k7, k8, k9]
def interned : List (Array UInt16 × Addr) := []
def slotsUsed : Nat := 0
def theMethod : MethodId := ⟨1, 1⟩
def args0 : Array Value := #[.int 3, .int 4, .int 5, .int 6]
def aboutOver (below : List Frame) : State where
  vm := { classes := classes, interned := interned.toArray }
  heap := heap
  slotsUsed := slotsUsed
  threads := #[{ frames := .invoking theMethod args0 :: below }]
def below0 : List Frame := [.native { method := ⟨0, 0⟩, args := #[] }]
def about1 : State := aboutOver below0
def p0 : Program := .bare "" "" ""
def e0 : Env := launch0.env 0 0 0
theorem w_frames : about1.frames = Frame.invoking theMethod args0 :: below0 := rfl
set_option maxRecDepth 65536 in
theorem w_args : argsFit about1.vm theMethod args0 = true := by decide +kernel
set_option maxRecDepth 65536 in
theorem w_heap : heapFits about1 = true := by decide +kernel
set_option maxRecDepth 65536 in
theorem w_runnable : about1.curStatus? = some .runnable := by decide +kernel
set_option maxRecDepth 65536 in
theorem w_alone : about1.alone = true := by decide +kernel
set_option maxRecDepth 65536 in
theorem w_named : about1.methodNamed? x = some theMethod := by decide +kernel
set_option maxRecDepth 65536 in
theorem w_hears : about1.hears theMethod below0 = true := by decide +kernel
set_option maxRecDepth 65536 in
theorem w_ripe : about1.ripe theMethod args0 below0 = true := by decide +kernel
theorem w_running : about1.status = .running := rfl
set_option maxRecDepth 65536 in
theorem w_room : about1.hasRoom e0.platform room_1 = true :=
  launch0.hasRoom_least _ room_1 (by decide +kernel) (by decide +kernel) (by decide +kernel) (by decide +kernel) (by decide +kernel) (by decide +kernel)
theorem allAtoms_all (ts : List Jvm.Cond) (a : Array Jvm.Value) (st : Jvm.State) : (allAtoms ts).before a st = ts.all (fun c => c.before a st) := by
  induction ts with
  | nil => rfl
  | cons c t ih =>
    show (Jvm.Cond.and c (allAtoms t)).before a st = _
    rw [Jvm.Cond.before_and, ih, List.all_cons]
def words1 : List Jvm.Cond := Jvm.Cond.code x code maxLocals ret :: tables_1
/-- a 'code' word, met by the world's own term for the bytes: nothing is compared byte by byte -/
theorem code_word {y : MethodName} {bytes : ByteArray} {mx : Nat} {rt : Option FieldType} {a : Array Value} {s : State} {m : MethodId} {meth : Method} {c : Code} (h1 : s.methodNamed? y = some m) (h2 : s.vm.method? m = some meth) (h3 : meth.code = some c) (h4 : c.code = bytes)
    (h5 : (c.maxLocals == mx && c.exceptionTable.isEmpty && decide (c.maxStack ≤ mostOperands) && decide (meth.sig.returnType = rt) && !meth.locks && decide (parseMethodDescriptor y.desc = some meth.sig)) = true) : (Jvm.Cond.code y bytes mx rt).before a s = true := by
  simp only [Bool.and_eq_true, beq_iff_eq, Bool.not_eq_true', decide_eq_true_eq] at h5
  obtain ⟨⟨⟨⟨⟨g1, g2⟩, g3⟩, g4⟩, g5⟩, g6⟩ := h5
  simp [Cond.before, Cond.holds, Cond.value, h1, h2, h3, h4, g1, g2, g3, g4, g5, g6]
def isCode : Jvm.Cond → Bool
  | .code _ _ _ _ => true
  | _ => false
theorem all_split {L : List Jvm.Cond} {P : Jvm.Cond → Bool} (h1 : L.all (fun c => isCode c || P c) = true) (h2 : ∀ c ∈ L.filter isCode, P c = true) : L.all P = true := by
  refine List.all_eq_true.mpr fun c hc => ?_
  have h := List.all_eq_true.mp h1 c hc
  rcases Bool.eq_false_or_eq_true (isCode c) with hi | hi
  · exact h2 c (List.mem_filter.mpr ⟨hc, hi⟩)
  · simpa [hi] using h
set_option maxRecDepth 65536 in
theorem w_c0 : (Jvm.Cond.code x code maxLocals ret).before args0 about1 = true := code_word (m := ⟨1, 1⟩) (meth := k1m1) (c := k1c1) (by decide +kernel) rfl rfl rfl (by decide +kernel)
set_option maxRecDepth 65536 in
theorem w_c1 : (Jvm.Cond.code ({ cls := "com/example/mixed_urn/mixedurn/index/ByteReader", name := "<init>", desc := "([BII)V" } : Jvm.MethodName) prog_29_method_1_code (4 : Nat) (Option.none : Option Jvm.ClassFile.FieldType)).before args0 about1 = true := code_word (m := ⟨2, 0⟩) (meth := k2m0) (c := k2c0) (by decide +kernel) rfl rfl rfl (by decide +kernel)
set_option maxRecDepth 65536 in
theorem w_c2 : (Jvm.Cond.code ({ cls := "java/lang/Object", name := "<init>", desc := "()V" } : Jvm.MethodName) object_method_1_code (1 : Nat) (Option.none : Option Jvm.ClassFile.FieldType)).before args0 about1 = true := code_word (m := ⟨0, 0⟩) (meth := k0m0) (c := k0c0) (by decide +kernel) rfl rfl rfl (by decide +kernel)
set_option maxRecDepth 65536 in
theorem w_c3 : (Jvm.Cond.code ({ cls := "com/example/mixed_urn/mixedurn/index/ByteReader", name := "hasRemaining", desc := "()Z" } : Jvm.MethodName) prog_29_method_3_code (1 : Nat) (Option.some Jvm.ClassFile.FieldType.boolean)).before args0 about1 = true := code_word (m := ⟨2, 1⟩) (meth := k2m1) (c := k2c1) (by decide +kernel) rfl rfl rfl (by decide +kernel)
set_option maxRecDepth 65536 in
theorem w_c4 : (Jvm.Cond.code ({ cls := "com/example/mixed_urn/mixedurn/index/ByteReader", name := "skip", desc := "(I)V" } : Jvm.MethodName) prog_29_method_4_code (2 : Nat) (Option.none : Option Jvm.ClassFile.FieldType)).before args0 about1 = true := code_word (m := ⟨2, 2⟩) (meth := k2m2) (c := k2c2) (by decide +kernel) rfl rfl rfl (by decide +kernel)
set_option maxRecDepth 65536 in
theorem w_c5 : (Jvm.Cond.code ({ cls := "com/example/mixed_urn/mixedurn/index/ByteReader", name := "require", desc := "(J)V" } : Jvm.MethodName) prog_29_method_13_code (3 : Nat) (Option.none : Option Jvm.ClassFile.FieldType)).before args0 about1 = true := code_word (m := ⟨2, 3⟩) (meth := k2m3) (c := k2c3) (by decide +kernel) rfl rfl rfl (by decide +kernel)
set_option maxRecDepth 65536 in
theorem w_c6 : (Jvm.Cond.code ({ cls := "java/lang/Math", name := "max", desc := "(II)I" } : Jvm.MethodName) jdk_29_method_65_code (2 : Nat) (Option.some Jvm.ClassFile.FieldType.int)).before args0 about1 = true := code_word (m := ⟨3, 1⟩) (meth := k3m1) (c := k3c1) (by decide +kernel) rfl rfl rfl (by decide +kernel)
def codes1 : List Jvm.Cond := [Jvm.Cond.code x code maxLocals ret, Jvm.Cond.code ({ cls := "com/example/mixed_urn/mixedurn/index/ByteReader", name := "<init>", desc := "([BII)V" } : Jvm.MethodName) prog_29_method_1_code (4 : Nat) (Option.none : Option Jvm.ClassFile.FieldType), Jvm.Cond.code ({ cls := "java/lang/Object", name := "<init>", desc := "()V" } : Jvm.MethodName) object_method_1_code (1 : Nat) (Option.none : Option Jvm.ClassFile.FieldType), Jvm.Cond.code ({ cls := "com/example/mixed_urn/mixedurn/index/ByteReader", name := "hasRemaining", desc := "()Z" } : Jvm.MethodName) prog_29_method_3_code (1 : Nat) (Option.some Jvm.ClassFile.FieldType.boolean), Jvm.Cond.code ({ cls := "com/example/mixed_urn/mixedurn/index/ByteReader", name := "skip", desc := "(I)V" } : Jvm.MethodName) prog_29_method_4_code (2 : Nat) (Option.none : Option Jvm.ClassFile.FieldType), Jvm.Cond.code ({ cls := "com/example/mixed_urn/mixedurn/index/ByteReader", name := "require", desc := "(J)V" } : Jvm.MethodName) prog_29_method_13_code (3 : Nat) (Option.none : Option Jvm.ClassFile.FieldType), Jvm.Cond.code ({ cls := "java/lang/Math", name := "max", desc := "(II)I" } : Jvm.MethodName) jdk_29_method_65_code (2 : Nat) (Option.some Jvm.ClassFile.FieldType.int)]
set_option maxRecDepth 65536 in
theorem codes_eq : words1.filter isCode = codes1 := rfl
theorem w_codes : ∀ c ∈ words1.filter isCode, c.before args0 about1 = true := by
  rw [codes_eq]
  intro c hc
  simp only [codes1, List.mem_cons, List.not_mem_nil, or_false] at hc
  rcases hc with rfl | rfl | rfl | rfl | rfl | rfl | rfl
  · exact w_c0
  · exact w_c1
  · exact w_c2
  · exact w_c3
  · exact w_c4
  · exact w_c5
  · exact w_c6
set_option maxRecDepth 65536 in
theorem w_t1 : (words1.take 24).all (fun c => isCode c || c.before args0 about1) = true := by decide +kernel
set_option maxRecDepth 65536 in
theorem w_t2 : (words1.drop 24).all (fun c => isCode c || c.before args0 about1) = true := by decide +kernel
theorem w_tables : (allAtoms (Jvm.Cond.code x code maxLocals ret :: tables_1)).before args0 about1 = true := by
  rw [allAtoms_all]
  show words1.all (fun c => c.before args0 about1) = true
  refine all_split ?_ w_codes
  rw [← List.take_append_drop 24 words1, List.all_append, w_t1, w_t2]
  rfl
set_option maxRecDepth 65536 in
theorem w_case : (Jvm.Cond.and given_1 narrow_1).before args0 about1 = true := by decide +kernel
theorem w_applies : (headSpec (Jvm.Cond.code x code maxLocals ret :: tables_1) room_1).applies x e0.platform about1 = true :=
  (Spec.applies_iff w_frames).mpr ⟨w_running, w_runnable, w_alone, w_named, w_hears, w_ripe, w_room, w_tables⟩
theorem atStart : AtStart classFile x code maxLocals ret World_1 tables_1 room_1 Calls_1 rest_1 Pre_1 launch0 p0 e0 about1 theMethod args0 below0 :=
  ⟨lists_1, trivial, launch0.admits_env _ _ _, launch0.least_env, fairChoices_fair.cas, fairChoices_fair.clock, w_frames, w_args, w_heap, w_applies, trivial, trivial, w_case⟩
end start1
theorem witness_1 : WitnessClaimed_1 := ⟨start1.p0, start1.e0, start1.about1, start1.theMethod, start1.args0, start1.below0, start1.atStart⟩
end Jvm.Pilot.@@N@@
