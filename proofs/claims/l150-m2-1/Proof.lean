import JvmDerived
import JvmDerived.Pilot.@@N@@Statement
import JvmDerived.Pilot.@@N@@Code
set_option linter.unusedVariables false
set_option linter.unusedSimpArgs false
namespace Jvm.OwnKit
open Sem ClassFile Op Lib Jvm.Stand Jvm.Free Jvm.LawKit Jvm.RoadKit
/-- from this pc, with these locals, this stack and this heap, the body returns and Q holds -/
def Go (Z : State) (l : Launch) (R : Room) (B : ByteArray) (ml : Nat) (own : String) (rt : Option FieldType) (mn : String) (pc : Nat) (Ls : Array Slot) (st : List Value) (h : Heap) (L : List Loc) (k n : Nat) (Q : Option Value → Heap → List Loc → Prop) : Prop :=
  ∀ (p : Program) (e : Env) (s : State) (m : MethodId) (args : Array Value) (below : List Frame) (meth : Method) (c : Code) (T : State),
    Stand p l e R s m args below meth c T L k n → p.tables.exec = Jvm.exec → Z.Warmed39 s.vm → c.code = B → c.maxLocals = ml → s.vm.findClass own = some m.cls → meth.sig.returnType = rt → meth.locks = false → meth.name = mn → T.heap = h →
    ∃ s₂ o, Steps p.tables e below (T.setTop (mkF m pc Ls st)) s₂ ∧ s₂.status = .running ∧ Ended s₂ below o ∧ ∃ v L', o = .returned v ∧ Q v s₂.heap L' ∧ FrameEnd s o s₂ L' R.cells R.slots
/-- a callee's contract at these arguments and this heap -/
def Con (l : Launch) (Z : State) (y : MethodName) (B : ByteArray) (ml : Nat) (rt : Option FieldType) (R : Room) (ws : List Jvm.Cond) (as' : Array Value) (h0 : Heap) (Q : Option Value → Heap → List Loc → Prop) : Prop :=
  MetFree l y (head1 (Jvm.Cond.code y B ml rt :: ws) R) (fun a U => a = as' ∧ Z.Warmed39 U.vm ∧ U.heap = h0) (fun _ _ _ _ _ => True) (fun _ U o U' => ∃ v L, o = .returned v ∧ Q v U'.heap L ∧ FrameEnd U o U' L R.cells R.slots)
/-- the law returns true, and nothing old was written -/
def LawQ (n0 : Nat) (v : Option Value) (_ : Heap) (L : List Loc) : Prop := v = some (.int (1 : Int32)) ∧ Fr n0 L
/-- it returns v0, and nothing was written or made -/
def PQ (h0 : Heap) (v0 : Option Value) (v : Option Value) (h : Heap) (L : List Loc) : Prop := v = v0 ∧ h = h0 ∧ L = []
theorem con_of {l : Launch} {Z : State} {y : MethodName} {B : ByteArray} {ml : Nat} {rt : Option FieldType} {R : Room} {ws : List Jvm.Cond} {as' : Array Value} {h0 : Heap} {Q : Option Value → Heap → List Loc → Prop} {Ls : Array Slot}
    (hp : plainFor y = true) (ef : ∀ m, entryFrame m as' ml = mkF m 0 Ls []) (g : Go Z l R B ml y.cls rt y.name 0 Ls [] h0 [] 0 0 Q) : Con l Z y B ml rt R ws as' h0 Q := by
  refine MetFree.of_bodySF hp hisR ?_
  intro p e s m args below meth c s₁ Bd hml0 hP hK
  obtain ⟨rfl, hZ, hh⟩ := hP
  have e0 : s₁.heap = h0 := by rw [← hh, Bd.state]; rfl
  obtain ⟨s₂, o, h1, h2⟩ := g p e s m _ below meth c s₁ (Stand.of_body Bd) Bd.exec hZ Bd.bytes hml0 (findClass_of_methodNamed Bd.named) Bd.returns (BodyLoose.notSynchronized Bd) (name_of_methodNamed Bd.named Bd.method).1 e0
  exact ⟨s₂, o, castTop (ef m) h1, h2⟩
theorem Con.mono {l : Launch} {Z : State} {y : MethodName} {B : ByteArray} {ml : Nat} {rt : Option FieldType} {R : Room} {ws : List Jvm.Cond} {as' : Array Value} {h0 : Heap} {Q Q' : Option Value → Heap → List Loc → Prop} (c : Con l Z y B ml rt R ws as' h0 Q) (q : ∀ v h L, Q v h L → Q' v h L) : Con l Z y B ml rt R ws as' h0 Q' := by
  intro p e ha hc hk s m args below hf happ hP hK
  obtain ⟨n, o, h1, h2, h3, v, L, h4, h5, h6⟩ := c p e ha hc hk s m args below hf happ hP hK
  exact ⟨n, o, h1, h2, h3, v, L, h4, q _ _ _ h5, h6⟩
theorem fr_one {q : Nat} {L : List Loc} {a : Addr} {sl : Nat} (N : Fr q L) (g : q ≤ a) : Fr q (L ++ [⟨a, sl⟩]) := N.app fun y hy => by cases List.mem_singleton.mp hy; exact g
section Rules
variable {Z : State} {l : Launch} {R : Room} {B : ByteArray} {ml : Nat} {own : String} {rt : Option FieldType} {mn : String} {pc pc' : Nat} {Ls : Array Slot} {h : Heap} {L : List Loc} {k n : Nat} {Q : Option Value → Heap → List Loc → Prop} {rest : List Value}
theorem Go.mono {st : List Value} {Q' : Option Value → Heap → List Loc → Prop} (q : ∀ v h L, Q v h L → Q' v h L) (g : Go Z l R B ml own rt mn pc Ls st h L k n Q) : Go Z l R B ml own rt mn pc Ls st h L k n Q' := by
  intro p e s m args below meth c T X hx hZ hby hml hown hrt hlk hnm eT
  obtain ⟨s₂, o, h1, h2, h3, v, L', h4, h5, h6⟩ := g p e s m args below meth c T X hx hZ hby hml hown hrt hlk hnm eT
  exact ⟨s₂, o, h1, h2, h3, v, L', h4, q _ _ _ h5, h6⟩
theorem Go.pure {st st' : List Value} {Ls' : Array Slot} (step : ∀ (p : Program) (e : Env) (below : List Frame) (T : State) (m : MethodId) (c : Code) (target : State), At T m c below → p.tables.exec = Jvm.exec → c.code = B → Steps p.tables e below (T.setTop (mkF m pc' Ls' st')) target → Steps p.tables e below (T.setTop (mkF m pc Ls st)) target)
    (g : Go Z l R B ml own rt mn pc' Ls' st' h L k n Q) : Go Z l R B ml own rt mn pc Ls st h L k n Q := by
  intro p e s m args below meth c T X hx hZ hby hml hown hrt hlk hnm eT
  obtain ⟨s₂, o, h1, h2⟩ := g p e s m args below meth c T X hx hZ hby hml hown hrt hlk hnm eT
  exact ⟨s₂, o, step p e below T m c s₂ X.here hx hby h1, h2⟩
theorem Go.iload {st : List Value} {i : Nat} {v : Int32} (hd : decode B pc = .ok (.iload i, 2)) (hp : pc + 2 = pc') (hl : Ls[i]? = some (.val (.int v))) (g : Go Z l R B ml own rt mn pc' Ls (.int v :: st) h L k n Q) : Go Z l R B ml own rt mn pc Ls st h L k n Q := by
  subst hp; exact Go.pure (fun p e below T m c t hA hx hB hr => XS.iload hA hx rfl (hb hB hd) hl hr) g
theorem Go.iloadN {st : List Value} {i : Fin 4} {v : Int32} (hd : decode B pc = .ok (.iload_n i, 1)) (hp : pc + 1 = pc') (hl : Ls[i.val]? = some (.val (.int v))) (g : Go Z l R B ml own rt mn pc' Ls (.int v :: st) h L k n Q) : Go Z l R B ml own rt mn pc Ls st h L k n Q := by
  subst hp; exact Go.pure (fun p e below T m c t hA hx hB hr => XS.iloadN hA hx rfl (hb hB hd) hl hr) g
theorem Go.lload {st : List Value} {i : Nat} {v : Int64} (hd : decode B pc = .ok (.lload i, 2)) (hp : pc + 2 = pc') (hl : Ls[i]? = some (.val (.long v))) (g : Go Z l R B ml own rt mn pc' Ls (.long v :: st) h L k n Q) : Go Z l R B ml own rt mn pc Ls st h L k n Q := by
  subst hp; exact Go.pure (fun p e below T m c t hA hx hB hr => XS.lload hA hx rfl (hb hB hd) hl hr) g
theorem Go.lloadN {st : List Value} {i : Fin 4} {v : Int64} (hd : decode B pc = .ok (.lload_n i, 1)) (hp : pc + 1 = pc') (hl : Ls[i.val]? = some (.val (.long v))) (g : Go Z l R B ml own rt mn pc' Ls (.long v :: st) h L k n Q) : Go Z l R B ml own rt mn pc Ls st h L k n Q := by
  subst hp; exact Go.pure (fun p e below T m c t hA hx hB hr => XS.lloadN hA hx rfl (hb hB hd) hl hr) g
theorem Go.aload {st : List Value} {i : Nat} {v : Value} (hd : decode B pc = .ok (.aload i, 2)) (hp : pc + 2 = pc') (hl : Ls[i]? = some (.val v)) (hv : v.isRef = true) (g : Go Z l R B ml own rt mn pc' Ls (v :: st) h L k n Q) : Go Z l R B ml own rt mn pc Ls st h L k n Q := by
  subst hp; exact Go.pure (fun p e below T m c t hA hx hB hr => XS.aload hA hx rfl (hb hB hd) hl hv hr) g
theorem Go.aloadN {st : List Value} {i : Fin 4} {v : Value} (hd : decode B pc = .ok (.aload_n i, 1)) (hp : pc + 1 = pc') (hl : Ls[i.val]? = some (.val v)) (hv : v.isRef = true) (g : Go Z l R B ml own rt mn pc' Ls (v :: st) h L k n Q) : Go Z l R B ml own rt mn pc Ls st h L k n Q := by
  subst hp; exact Go.pure (fun p e below T m c t hA hx hB hr => XS.aloadN hA hx rfl (hb hB hd) hl hv hr) g
theorem Go.istore {i : Nat} {v : Int32} {Ls' : Array Slot} (hd : decode B pc = .ok (.istore i, 2)) (hp : pc + 2 = pc') (hl : storeLocals Ls i (.int v) = some Ls') (g : Go Z l R B ml own rt mn pc' Ls' rest h L k n Q) : Go Z l R B ml own rt mn pc Ls (.int v :: rest) h L k n Q := by
  subst hp; exact Go.pure (fun p e below T m c t hA hx hB hr => XS.istore hA hx rfl (hb hB hd) rfl hl hr) g
theorem Go.istoreN {i : Fin 4} {v : Int32} {Ls' : Array Slot} (hd : decode B pc = .ok (.istore_n i, 1)) (hp : pc + 1 = pc') (hl : storeLocals Ls i.val (.int v) = some Ls') (g : Go Z l R B ml own rt mn pc' Ls' rest h L k n Q) : Go Z l R B ml own rt mn pc Ls (.int v :: rest) h L k n Q := by
  subst hp; exact Go.pure (fun p e below T m c t hA hx hB hr => XS.istoreN hA hx rfl (hb hB hd) rfl hl hr) g
theorem Go.lstore {i : Nat} {v : Int64} {Ls' : Array Slot} (hd : decode B pc = .ok (.lstore i, 2)) (hp : pc + 2 = pc') (hl : storeLocals Ls i (.long v) = some Ls') (g : Go Z l R B ml own rt mn pc' Ls' rest h L k n Q) : Go Z l R B ml own rt mn pc Ls (.long v :: rest) h L k n Q := by
  subst hp; exact Go.pure (fun p e below T m c t hA hx hB hr => XS.lstore hA hx rfl (hb hB hd) rfl hl hr) g
theorem Go.lstoreN {i : Fin 4} {v : Int64} {Ls' : Array Slot} (hd : decode B pc = .ok (.lstore_n i, 1)) (hp : pc + 1 = pc') (hl : storeLocals Ls i.val (.long v) = some Ls') (g : Go Z l R B ml own rt mn pc' Ls' rest h L k n Q) : Go Z l R B ml own rt mn pc Ls (.long v :: rest) h L k n Q := by
  subst hp; exact Go.pure (fun p e below T m c t hA hx hB hr => XS.lstoreN hA hx rfl (hb hB hd) rfl hl hr) g
theorem Go.astore {i : Nat} {v : Value} {Ls' : Array Slot} (hd : decode B pc = .ok (.astore i, 2)) (hp : pc + 2 = pc') (hv : v.isRef = true) (hl : storeLocals Ls i v = some Ls') (g : Go Z l R B ml own rt mn pc' Ls' rest h L k n Q) : Go Z l R B ml own rt mn pc Ls (v :: rest) h L k n Q := by
  subst hp; exact Go.pure (fun p e below T m c t hA hx hB hr => XS.astore hA hx rfl (hb hB hd) rfl hv hl hr) g
theorem Go.astoreN {i : Fin 4} {v : Value} {Ls' : Array Slot} (hd : decode B pc = .ok (.astore_n i, 1)) (hp : pc + 1 = pc') (hv : v.isRef = true) (hl : storeLocals Ls i.val v = some Ls') (g : Go Z l R B ml own rt mn pc' Ls' rest h L k n Q) : Go Z l R B ml own rt mn pc Ls (v :: rest) h L k n Q := by
  subst hp; exact Go.pure (fun p e below T m c t hA hx hB hr => XS.astoreN hA hx rfl (hb hB hd) rfl hv hl hr) g
theorem Go.iinc {st : List Value} {i : Nat} {cst : Int} {x z : Int32} {Ls' : Array Slot} (hd : decode B pc = .ok (.iinc i cst, 3)) (hp : pc + 3 = pc') (hv : Ls[i]? = some (.val (.int x))) (hz : x + Int32.ofInt cst = z) (hl : storeLocals Ls i (.int z) = some Ls') (g : Go Z l R B ml own rt mn pc' Ls' st h L k n Q) : Go Z l R B ml own rt mn pc Ls st h L k n Q := by
  subst hz; subst hp; exact Go.pure (fun p e below T m c t hA hx hB hr => XS.iinc hA hx rfl (hb hB hd) hv hl hr) g
theorem Go.iconst {st : List Value} {i : Int} {z : Int32} (hd : decode B pc = .ok (.iconst i, 1)) (hp : pc + 1 = pc') (hz : Int32.ofInt i = z) (g : Go Z l R B ml own rt mn pc' Ls (.int z :: st) h L k n Q) : Go Z l R B ml own rt mn pc Ls st h L k n Q := by
  subst hz; subst hp; exact Go.pure (fun p e below T m c t hA hx hB hr => XS.iconst hA hx rfl (hb hB hd) hr) g
theorem Go.bipush {st : List Value} {i : Int} {z : Int32} (hd : decode B pc = .ok (.bipush i, 2)) (hp : pc + 2 = pc') (hz : (Int8.ofInt i).toInt32 = z) (g : Go Z l R B ml own rt mn pc' Ls (.int z :: st) h L k n Q) : Go Z l R B ml own rt mn pc Ls st h L k n Q := by
  subst hz; subst hp; exact Go.pure (fun p e below T m c t hA hx hB hr => XS.bipush hA hx rfl (hb hB hd) hr) g
theorem Go.sipush {st : List Value} {i : Int} {z : Int32} (hd : decode B pc = .ok (.sipush i, 3)) (hp : pc + 3 = pc') (hz : (Int16.ofInt i).toInt32 = z) (g : Go Z l R B ml own rt mn pc' Ls (.int z :: st) h L k n Q) : Go Z l R B ml own rt mn pc Ls st h L k n Q := by
  subst hz; subst hp; exact Go.pure (fun p e below T m c t hA hx hB hr => XS.sipush hA hx rfl (hb hB hd) hr) g
theorem Go.lconst {st : List Value} {i : Fin 2} {z : Int64} (hd : decode B pc = .ok (.lconst i, 1)) (hp : pc + 1 = pc') (hz : Int64.ofNat i = z) (g : Go Z l R B ml own rt mn pc' Ls (.long z :: st) h L k n Q) : Go Z l R B ml own rt mn pc Ls st h L k n Q := by
  subst hz; subst hp; exact Go.pure (fun p e below T m c t hA hx hB hr => XS.lconst hA hx rfl (hb hB hd) hr) g
theorem Go.aconstNull {st : List Value} (hd : decode B pc = .ok (.aconst_null, 1)) (hp : pc + 1 = pc') (g : Go Z l R B ml own rt mn pc' Ls (.null :: st) h L k n Q) : Go Z l R B ml own rt mn pc Ls st h L k n Q := by
  subst hp; exact Go.pure (fun p e below T m c t hA hx hB hr => XS.aconstNull hA hx rfl (hb hB hd) hr) g
theorem Go.iadd {x y z : Int32} (hd : decode B pc = .ok (.iadd, 1)) (hp : pc + 1 = pc') (hz : x + y = z) (g : Go Z l R B ml own rt mn pc' Ls (.int z :: rest) h L k n Q) : Go Z l R B ml own rt mn pc Ls (.int y :: .int x :: rest) h L k n Q := by
  subst hz; subst hp; exact Go.pure (fun p e below T m c t hA hx hB hr => XS.iadd hA hx rfl (hb hB hd) rfl hr) g
theorem Go.ladd {x y z : Int64} (hd : decode B pc = .ok (.ladd, 1)) (hp : pc + 1 = pc') (hz : x + y = z) (g : Go Z l R B ml own rt mn pc' Ls (.long z :: rest) h L k n Q) : Go Z l R B ml own rt mn pc Ls (.long y :: .long x :: rest) h L k n Q := by
  subst hz; subst hp; exact Go.pure (fun p e below T m c t hA hx hB hr => XS.ladd hA hx rfl (hb hB hd) rfl hr) g
theorem Go.isub {x y z : Int32} (hd : decode B pc = .ok (.isub, 1)) (hp : pc + 1 = pc') (hz : x - y = z) (g : Go Z l R B ml own rt mn pc' Ls (.int z :: rest) h L k n Q) : Go Z l R B ml own rt mn pc Ls (.int y :: .int x :: rest) h L k n Q := by
  subst hz; subst hp; exact Go.pure (fun p e below T m c t hA hx hB hr => XS.isub hA hx rfl (hb hB hd) rfl hr) g
theorem Go.lsub {x y z : Int64} (hd : decode B pc = .ok (.lsub, 1)) (hp : pc + 1 = pc') (hz : x - y = z) (g : Go Z l R B ml own rt mn pc' Ls (.long z :: rest) h L k n Q) : Go Z l R B ml own rt mn pc Ls (.long y :: .long x :: rest) h L k n Q := by
  subst hz; subst hp; exact Go.pure (fun p e below T m c t hA hx hB hr => XS.lsub hA hx rfl (hb hB hd) rfl hr) g
theorem Go.imul {x y z : Int32} (hd : decode B pc = .ok (.imul, 1)) (hp : pc + 1 = pc') (hz : x * y = z) (g : Go Z l R B ml own rt mn pc' Ls (.int z :: rest) h L k n Q) : Go Z l R B ml own rt mn pc Ls (.int y :: .int x :: rest) h L k n Q := by
  subst hz; subst hp; exact Go.pure (fun p e below T m c t hA hx hB hr => XS.imul hA hx rfl (hb hB hd) rfl hr) g
theorem Go.lmul {x y z : Int64} (hd : decode B pc = .ok (.lmul, 1)) (hp : pc + 1 = pc') (hz : x * y = z) (g : Go Z l R B ml own rt mn pc' Ls (.long z :: rest) h L k n Q) : Go Z l R B ml own rt mn pc Ls (.long y :: .long x :: rest) h L k n Q := by
  subst hz; subst hp; exact Go.pure (fun p e below T m c t hA hx hB hr => XS.lmul hA hx rfl (hb hB hd) rfl hr) g
theorem Go.iand {x y z : Int32} (hd : decode B pc = .ok (.iand, 1)) (hp : pc + 1 = pc') (hz : x &&& y = z) (g : Go Z l R B ml own rt mn pc' Ls (.int z :: rest) h L k n Q) : Go Z l R B ml own rt mn pc Ls (.int y :: .int x :: rest) h L k n Q := by
  subst hz; subst hp; exact Go.pure (fun p e below T m c t hA hx hB hr => XS.iand hA hx rfl (hb hB hd) rfl hr) g
theorem Go.land {x y z : Int64} (hd : decode B pc = .ok (.land, 1)) (hp : pc + 1 = pc') (hz : x &&& y = z) (g : Go Z l R B ml own rt mn pc' Ls (.long z :: rest) h L k n Q) : Go Z l R B ml own rt mn pc Ls (.long y :: .long x :: rest) h L k n Q := by
  subst hz; subst hp; exact Go.pure (fun p e below T m c t hA hx hB hr => XS.land hA hx rfl (hb hB hd) rfl hr) g
theorem Go.ior {x y z : Int32} (hd : decode B pc = .ok (.ior, 1)) (hp : pc + 1 = pc') (hz : x ||| y = z) (g : Go Z l R B ml own rt mn pc' Ls (.int z :: rest) h L k n Q) : Go Z l R B ml own rt mn pc Ls (.int y :: .int x :: rest) h L k n Q := by
  subst hz; subst hp; exact Go.pure (fun p e below T m c t hA hx hB hr => XS.ior hA hx rfl (hb hB hd) rfl hr) g
theorem Go.lor {x y z : Int64} (hd : decode B pc = .ok (.lor, 1)) (hp : pc + 1 = pc') (hz : x ||| y = z) (g : Go Z l R B ml own rt mn pc' Ls (.long z :: rest) h L k n Q) : Go Z l R B ml own rt mn pc Ls (.long y :: .long x :: rest) h L k n Q := by
  subst hz; subst hp; exact Go.pure (fun p e below T m c t hA hx hB hr => XS.lor hA hx rfl (hb hB hd) rfl hr) g
theorem Go.ixor {x y z : Int32} (hd : decode B pc = .ok (.ixor, 1)) (hp : pc + 1 = pc') (hz : x ^^^ y = z) (g : Go Z l R B ml own rt mn pc' Ls (.int z :: rest) h L k n Q) : Go Z l R B ml own rt mn pc Ls (.int y :: .int x :: rest) h L k n Q := by
  subst hz; subst hp; exact Go.pure (fun p e below T m c t hA hx hB hr => XS.ixor hA hx rfl (hb hB hd) rfl hr) g
theorem Go.lxor {x y z : Int64} (hd : decode B pc = .ok (.lxor, 1)) (hp : pc + 1 = pc') (hz : x ^^^ y = z) (g : Go Z l R B ml own rt mn pc' Ls (.long z :: rest) h L k n Q) : Go Z l R B ml own rt mn pc Ls (.long y :: .long x :: rest) h L k n Q := by
  subst hz; subst hp; exact Go.pure (fun p e below T m c t hA hx hB hr => XS.lxor hA hx rfl (hb hB hd) rfl hr) g
theorem Go.idiv {x y z : Int32} (hd : decode B pc = .ok (.idiv, 1)) (hp : pc + 1 = pc') (hy : y ≠ 0) (hz : x / y = z) (g : Go Z l R B ml own rt mn pc' Ls (.int z :: rest) h L k n Q) : Go Z l R B ml own rt mn pc Ls (.int y :: .int x :: rest) h L k n Q := by
  subst hz; subst hp; exact Go.pure (fun p e below T m c t hA hx hB hr => XS.idiv hA hx rfl (hb hB hd) rfl hy hr) g
theorem Go.ldiv {x y z : Int64} (hd : decode B pc = .ok (.ldiv, 1)) (hp : pc + 1 = pc') (hy : y ≠ 0) (hz : x / y = z) (g : Go Z l R B ml own rt mn pc' Ls (.long z :: rest) h L k n Q) : Go Z l R B ml own rt mn pc Ls (.long y :: .long x :: rest) h L k n Q := by
  subst hz; subst hp; exact Go.pure (fun p e below T m c t hA hx hB hr => XS.ldiv hA hx rfl (hb hB hd) rfl hy hr) g
theorem Go.irem {x y z : Int32} (hd : decode B pc = .ok (.irem, 1)) (hp : pc + 1 = pc') (hy : y ≠ 0) (hz : x % y = z) (g : Go Z l R B ml own rt mn pc' Ls (.int z :: rest) h L k n Q) : Go Z l R B ml own rt mn pc Ls (.int y :: .int x :: rest) h L k n Q := by
  subst hz; subst hp; exact Go.pure (fun p e below T m c t hA hx hB hr => XS.irem hA hx rfl (hb hB hd) rfl hy (by rw [show x - x / y * y = x % y from irem_eq_mod x y]; exact hr)) g
theorem Go.lrem {x y z : Int64} (hd : decode B pc = .ok (.lrem, 1)) (hp : pc + 1 = pc') (hy : y ≠ 0) (hz : x % y = z) (g : Go Z l R B ml own rt mn pc' Ls (.long z :: rest) h L k n Q) : Go Z l R B ml own rt mn pc Ls (.long y :: .long x :: rest) h L k n Q := by
  subst hz; subst hp; exact Go.pure (fun p e below T m c t hA hx hB hr => XS.lrem hA hx rfl (hb hB hd) rfl hy (by rw [show x - x / y * y = x % y from lrem_mod x y]; exact hr)) g
theorem Go.ishl {x y z : Int32} (hd : decode B pc = .ok (.ishl, 1)) (hp : pc + 1 = pc') (hz : x <<< (y &&& 31) = z) (g : Go Z l R B ml own rt mn pc' Ls (.int z :: rest) h L k n Q) : Go Z l R B ml own rt mn pc Ls (.int y :: .int x :: rest) h L k n Q := by
  subst hz; subst hp; exact Go.pure (fun p e below T m c t hA hx hB hr => XS.ishl hA hx rfl (hb hB hd) rfl hr) g
theorem Go.ishr {x y z : Int32} (hd : decode B pc = .ok (.ishr, 1)) (hp : pc + 1 = pc') (hz : x >>> (y &&& 31) = z) (g : Go Z l R B ml own rt mn pc' Ls (.int z :: rest) h L k n Q) : Go Z l R B ml own rt mn pc Ls (.int y :: .int x :: rest) h L k n Q := by
  subst hz; subst hp; exact Go.pure (fun p e below T m c t hA hx hB hr => XS.ishr hA hx rfl (hb hB hd) rfl hr) g
theorem Go.iushr {x y z : Int32} (hd : decode B pc = .ok (.iushr, 1)) (hp : pc + 1 = pc') (hz : (x.toUInt32 >>> (y &&& 31).toUInt32).toInt32 = z) (g : Go Z l R B ml own rt mn pc' Ls (.int z :: rest) h L k n Q) : Go Z l R B ml own rt mn pc Ls (.int y :: .int x :: rest) h L k n Q := by
  subst hz; subst hp; exact Go.pure (fun p e below T m c t hA hx hB hr => XS.iushr hA hx rfl (hb hB hd) rfl hr) g
theorem Go.lshl {x z : Int64} {y : Int32} (hd : decode B pc = .ok (.lshl, 1)) (hp : pc + 1 = pc') (hz : x <<< (y &&& 0x3f).toInt64 = z) (g : Go Z l R B ml own rt mn pc' Ls (.long z :: rest) h L k n Q) : Go Z l R B ml own rt mn pc Ls (.int y :: .long x :: rest) h L k n Q := by
  subst hz; subst hp; exact Go.pure (fun p e below T m c t hA hx hB hr => XS.lshl hA hx rfl (hb hB hd) rfl hr) g
theorem Go.lshr {x z : Int64} {y : Int32} (hd : decode B pc = .ok (.lshr, 1)) (hp : pc + 1 = pc') (hz : x >>> (y &&& 0x3f).toInt64 = z) (g : Go Z l R B ml own rt mn pc' Ls (.long z :: rest) h L k n Q) : Go Z l R B ml own rt mn pc Ls (.int y :: .long x :: rest) h L k n Q := by
  subst hz; subst hp; exact Go.pure (fun p e below T m c t hA hx hB hr => XS.lshr hA hx rfl (hb hB hd) rfl hr) g
theorem Go.lushr {x z : Int64} {y : Int32} (hd : decode B pc = .ok (.lushr, 1)) (hp : pc + 1 = pc') (hz : (x.toUInt64 >>> (y &&& 0x3f).toInt64.toUInt64).toInt64 = z) (g : Go Z l R B ml own rt mn pc' Ls (.long z :: rest) h L k n Q) : Go Z l R B ml own rt mn pc Ls (.int y :: .long x :: rest) h L k n Q := by
  subst hz; subst hp; exact Go.pure (fun p e below T m c t hA hx hB hr => XS.lushr hA hx rfl (hb hB hd) rfl hr) g
theorem Go.ineg {x : Int32} {z : Int32} (hd : decode B pc = .ok (.ineg, 1)) (hp : pc + 1 = pc') (hz : -x = z) (g : Go Z l R B ml own rt mn pc' Ls (.int z :: rest) h L k n Q) : Go Z l R B ml own rt mn pc Ls (.int x :: rest) h L k n Q := by
  subst hz; subst hp; exact Go.pure (fun p e below T m c t hA hx hB hr => XS.ineg hA hx rfl (hb hB hd) rfl hr) g
theorem Go.lneg {x : Int64} {z : Int64} (hd : decode B pc = .ok (.lneg, 1)) (hp : pc + 1 = pc') (hz : -x = z) (g : Go Z l R B ml own rt mn pc' Ls (.long z :: rest) h L k n Q) : Go Z l R B ml own rt mn pc Ls (.long x :: rest) h L k n Q := by
  subst hz; subst hp; exact Go.pure (fun p e below T m c t hA hx hB hr => XS.lneg hA hx rfl (hb hB hd) rfl hr) g
theorem Go.i2l {x : Int32} {z : Int64} (hd : decode B pc = .ok (.i2l, 1)) (hp : pc + 1 = pc') (hz : x.toInt64 = z) (g : Go Z l R B ml own rt mn pc' Ls (.long z :: rest) h L k n Q) : Go Z l R B ml own rt mn pc Ls (.int x :: rest) h L k n Q := by
  subst hz; subst hp; exact Go.pure (fun p e below T m c t hA hx hB hr => XS.i2l hA hx rfl (hb hB hd) rfl hr) g
theorem Go.l2i {x : Int64} {z : Int32} (hd : decode B pc = .ok (.l2i, 1)) (hp : pc + 1 = pc') (hz : x.toInt32 = z) (g : Go Z l R B ml own rt mn pc' Ls (.int z :: rest) h L k n Q) : Go Z l R B ml own rt mn pc Ls (.long x :: rest) h L k n Q := by
  subst hz; subst hp; exact Go.pure (fun p e below T m c t hA hx hB hr => XS.l2i hA hx rfl (hb hB hd) rfl hr) g
theorem Go.i2b {x : Int32} {z : Int32} (hd : decode B pc = .ok (.i2b, 1)) (hp : pc + 1 = pc') (hz : x.toInt8.toInt32 = z) (g : Go Z l R B ml own rt mn pc' Ls (.int z :: rest) h L k n Q) : Go Z l R B ml own rt mn pc Ls (.int x :: rest) h L k n Q := by
  subst hz; subst hp; exact Go.pure (fun p e below T m c t hA hx hB hr => XS.i2b hA hx rfl (hb hB hd) rfl hr) g
theorem Go.i2s {x : Int32} {z : Int32} (hd : decode B pc = .ok (.i2s, 1)) (hp : pc + 1 = pc') (hz : x.toInt16.toInt32 = z) (g : Go Z l R B ml own rt mn pc' Ls (.int z :: rest) h L k n Q) : Go Z l R B ml own rt mn pc Ls (.int x :: rest) h L k n Q := by
  subst hz; subst hp; exact Go.pure (fun p e below T m c t hA hx hB hr => XS.i2s hA hx rfl (hb hB hd) rfl hr) g
theorem Go.i2c {x : Int32} {z : Int32} (hd : decode B pc = .ok (.i2c, 1)) (hp : pc + 1 = pc') (hz : x.toUInt32.toUInt16.toUInt32.toInt32 = z) (g : Go Z l R B ml own rt mn pc' Ls (.int z :: rest) h L k n Q) : Go Z l R B ml own rt mn pc Ls (.int x :: rest) h L k n Q := by
  subst hz; subst hp; exact Go.pure (fun p e below T m c t hA hx hB hr => XS.i2c hA hx rfl (hb hB hd) rfl hr) g
theorem Go.dup {x : Value} (hd : decode B pc = .ok (.dup, 1)) (hp : pc + 1 = pc') (hc : x.category = 1) (g : Go Z l R B ml own rt mn pc' Ls (x :: x :: rest) h L k n Q) : Go Z l R B ml own rt mn pc Ls (x :: rest) h L k n Q := by
  subst hp; exact Go.pure (fun p e below T m c t hA hx hB hr => XS.dup hA hx rfl (hb hB hd) rfl hc hr) g
theorem Go.dupX1 {x y : Value} (hd : decode B pc = .ok (.dup_x1, 1)) (hp : pc + 1 = pc') (hc : x.category = 1) (hc' : y.category = 1) (g : Go Z l R B ml own rt mn pc' Ls (x :: y :: x :: rest) h L k n Q) : Go Z l R B ml own rt mn pc Ls (x :: y :: rest) h L k n Q := by
  subst hp; exact Go.pure (fun p e below T m c t hA hx hB hr => XS.dupX1 hA hx rfl (hb hB hd) rfl hc hc' hr) g
theorem Go.pop {x : Value} (hd : decode B pc = .ok (.pop, 1)) (hp : pc + 1 = pc') (hc : x.category = 1) (g : Go Z l R B ml own rt mn pc' Ls rest h L k n Q) : Go Z l R B ml own rt mn pc Ls (x :: rest) h L k n Q := by
  subst hp; exact Go.pure (fun p e below T m c t hA hx hB hr => XS.pop hA hx rfl (hb hB hd) rfl hc hr) g
theorem Go.dup2 {x y : Value} (hd : decode B pc = .ok (.dup2, 1)) (hp : pc + 1 = pc') (hc : x.category = 1) (hc' : y.category = 1) (g : Go Z l R B ml own rt mn pc' Ls (x :: y :: x :: y :: rest) h L k n Q) : Go Z l R B ml own rt mn pc Ls (x :: y :: rest) h L k n Q := by
  subst hp; exact Go.pure (fun p e below T m c t hA hx hB hr => XT.dup2 hA hx rfl (hb hB hd) rfl hc hc' hr) g
theorem Go.dup2L {x : Int64} (hd : decode B pc = .ok (.dup2, 1)) (hp : pc + 1 = pc') (g : Go Z l R B ml own rt mn pc' Ls (.long x :: .long x :: rest) h L k n Q) : Go Z l R B ml own rt mn pc Ls (.long x :: rest) h L k n Q := by
  subst hp; exact Go.pure (fun p e below T m c t hA hx hB hr => XT.dup2L hA hx rfl (hb hB hd) rfl hr) g
theorem Go.goto {st : List Value} {o : Int} (hd : decode B pc = .ok (.goto o, 3)) (hp : (pc : Int) + o = (pc' : Int)) (g : Go Z l R B ml own rt mn pc' Ls st h L k n Q) : Go Z l R B ml own rt mn pc Ls st h L k n Q :=
  Go.pure (fun p e below T m c t hA hx hB hr => XS.goto hA hx rfl rfl (hb hB hd) (by rw [hp]; omega) (by rw [hp]; rfl) hr) g
/-- what a branch says when it is taken, and when it isn't -/
def cT : ClassFile.Cond → Int → Int → Prop
  | .lt, x, y => x < y | .ge, x, y => ¬ x < y | .gt, x, y => y < x | .le, x, y => ¬ y < x | .eq, x, y => x = y | .ne, x, y => ¬ x = y
def cF : ClassFile.Cond → Int → Int → Prop
  | .lt, x, y => ¬ x < y | .ge, x, y => x < y | .gt, x, y => ¬ y < x | .le, x, y => y < x | .eq, x, y => ¬ x = y | .ne, x, y => x = y
theorem icT {cd : ClassFile.Cond} {x y : Int32} (q : cT cd x.toInt y.toInt) : if_icmp.holds cd x y = true := by
  cases cd <;> simp only [cT] at q <;> first
    | exact (teq (Int32.toInt_inj.mp q)).1
    | exact (feq (fun r => q (congrArg _ r))).2
    | exact (tlt (Int32.lt_iff_toInt_lt.mpr q)).1
    | exact (flt (fun r => q (Int32.lt_iff_toInt_lt.mp r))).2.1
    | exact (tlt (Int32.lt_iff_toInt_lt.mpr q)).2.2.1
    | exact (flt (fun r => q (Int32.lt_iff_toInt_lt.mp r))).2.2.2
theorem icF {cd : ClassFile.Cond} {x y : Int32} (q : cF cd x.toInt y.toInt) : if_icmp.holds cd x y = false := by
  cases cd <;> simp only [cF] at q <;> first
    | exact (feq (fun r => q (congrArg _ r))).1
    | exact (teq (Int32.toInt_inj.mp q)).2
    | exact (flt (fun r => q (Int32.lt_iff_toInt_lt.mp r))).1
    | exact (tlt (Int32.lt_iff_toInt_lt.mpr q)).2.1
    | exact (flt (fun r => q (Int32.lt_iff_toInt_lt.mp r))).2.2.1
    | exact (tlt (Int32.lt_iff_toInt_lt.mpr q)).2.2.2
theorem lcT {cd : ClassFile.Cond} {x y : Int64} (q : cT cd x.toInt y.toInt) : ifCond.holds cd (lcmpW x y) = true := by
  rw [if0]; refine icT ?_
  have := c_lcmp x y
  have z0 : (0 : Int32).toInt = 0 := rfl
  cases cd <;> simp only [cT, z0] at q ⊢ <;> omega
theorem lcF {cd : ClassFile.Cond} {x y : Int64} (q : cF cd x.toInt y.toInt) : ifCond.holds cd (lcmpW x y) = false := by
  rw [if0]; refine icF ?_
  have := c_lcmp x y
  have z0 : (0 : Int32).toInt = 0 := rfl
  cases cd <;> simp only [cF, z0] at q ⊢ <;> omega
theorem Go.icmpT {cd : ClassFile.Cond} {x y : Int32} {X Y : Int} {o : Int} (hd : decode B pc = .ok (.if_icmp cd o, 3)) (hp : (pc : Int) + o = (pc' : Int)) (hX : x.toInt = X) (hY : y.toInt = Y) (hc : cT cd X Y) (g : Go Z l R B ml own rt mn pc' Ls rest h L k n Q) : Go Z l R B ml own rt mn pc Ls (.int y :: .int x :: rest) h L k n Q := by
  subst hX hY
  exact Go.pure (fun p e below T m c t hA hx hB hr => XS.icmpYes hA hx rfl rfl (hb hB hd) rfl (icT hc) (by rw [hp]; omega) (by rw [hp]; rfl) hr) g
theorem Go.icmpF {cd : ClassFile.Cond} {x y : Int32} {X Y : Int} {o : Int} (hd : decode B pc = .ok (.if_icmp cd o, 3)) (hp : pc + 3 = pc') (hX : x.toInt = X) (hY : y.toInt = Y) (hc : cF cd X Y) (g : Go Z l R B ml own rt mn pc' Ls rest h L k n Q) : Go Z l R B ml own rt mn pc Ls (.int y :: .int x :: rest) h L k n Q := by
  subst hX hY hp
  exact Go.pure (fun p e below T m c t hA hx hB hr => XS.icmpNo hA hx rfl (hb hB hd) rfl (icF hc) hr) g
theorem Go.ifT {cd : ClassFile.Cond} {x : Int32} {X : Int} {o : Int} (hd : decode B pc = .ok (.ifCond cd o, 3)) (hp : (pc : Int) + o = (pc' : Int)) (hX : x.toInt = X) (hc : cT cd X 0) (g : Go Z l R B ml own rt mn pc' Ls rest h L k n Q) : Go Z l R B ml own rt mn pc Ls (.int x :: rest) h L k n Q := by
  subst hX
  exact Go.pure (fun p e below T m c t hA hx hB hr => XS.ifYes hA hx rfl rfl (hb hB hd) rfl ((if0 _ _).trans (icT hc)) (by rw [hp]; omega) (by rw [hp]; rfl) hr) g
theorem Go.ifF {cd : ClassFile.Cond} {x : Int32} {X : Int} {o : Int} (hd : decode B pc = .ok (.ifCond cd o, 3)) (hp : pc + 3 = pc') (hX : x.toInt = X) (hc : cF cd X 0) (g : Go Z l R B ml own rt mn pc' Ls rest h L k n Q) : Go Z l R B ml own rt mn pc Ls (.int x :: rest) h L k n Q := by
  subst hX hp
  exact Go.pure (fun p e below T m c t hA hx hB hr => XS.ifNo hA hx rfl (hb hB hd) rfl ((if0 _ _).trans (icF hc)) hr) g
/-- lcmp and the branch behind it, in one -/
theorem Go.lcmpT {cd : ClassFile.Cond} {x y : Int64} {X Y : Int} {o : Int} {pc1 : Nat} (hd : decode B pc = .ok (.lcmp, 1)) (hd' : decode B pc1 = .ok (.ifCond cd o, 3)) (hp1 : pc + 1 = pc1) (hp : (pc1 : Int) + o = (pc' : Int)) (hX : x.toInt = X) (hY : y.toInt = Y) (hc : cT cd X Y) (g : Go Z l R B ml own rt mn pc' Ls rest h L k n Q) : Go Z l R B ml own rt mn pc Ls (.long y :: .long x :: rest) h L k n Q := by
  subst hX hY hp1
  exact Go.pure (fun p e below T m c t hA hx hB hr => XS.lcmp hA hx rfl (hb hB hd) rfl hr) (Go.pure (pc := pc + 1) (fun p e below T m c t hA hx hB hr => XS.ifYes hA hx rfl rfl (hb hB hd') rfl (lcT hc) (by rw [hp]; omega) (by rw [hp]; rfl) hr) g)
theorem Go.lcmpF {cd : ClassFile.Cond} {x y : Int64} {X Y : Int} {o : Int} {pc1 : Nat} (hd : decode B pc = .ok (.lcmp, 1)) (hd' : decode B pc1 = .ok (.ifCond cd o, 3)) (hp1 : pc + 1 = pc1) (hp : pc1 + 3 = pc') (hX : x.toInt = X) (hY : y.toInt = Y) (hc : cF cd X Y) (g : Go Z l R B ml own rt mn pc' Ls rest h L k n Q) : Go Z l R B ml own rt mn pc Ls (.long y :: .long x :: rest) h L k n Q := by
  subst hX hY hp1 hp
  exact Go.pure (fun p e below T m c t hA hx hB hr => XS.lcmp hA hx rfl (hb hB hd) rfl hr) (Go.pure (pc := pc + 1) (fun p e below T m c t hA hx hB hr => XS.ifNo hA hx rfl (hb hB hd') rfl (lcF hc) hr) g)
/-- one step that asks where the walk stands -/
theorem Go.stand {st st' : List Value} {Ls' : Array Slot} (step : ∀ (p : Program) (e : Env) (s : State) (m : MethodId) (args : Array Value) (below : List Frame) (meth : Method) (c : Code) (T : State) (target : State), Stand p l e R s m args below meth c T L k n → p.tables.exec = Jvm.exec → Z.Warmed39 s.vm → c.code = B → s.vm.findClass own = some m.cls → T.heap = h →
      Steps p.tables e below (T.setTop (mkF m pc' Ls' st')) target → Steps p.tables e below (T.setTop (mkF m pc Ls st)) target)
    (g : Go Z l R B ml own rt mn pc' Ls' st' h L k n Q) : Go Z l R B ml own rt mn pc Ls st h L k n Q := by
  intro p e s m args below meth c T X hx hZ hby hml hown hrt hlk hnm eT
  obtain ⟨s₂, o, h1, h2⟩ := g p e s m args below meth c T X hx hZ hby hml hown hrt hlk hnm eT
  exact ⟨s₂, o, step p e s m args below meth c T s₂ X hx hZ hby hown eT h1, h2⟩
theorem Go.acmp {cd : ACond} {x y : Value} {o : Int} {same : Bool} (hd : decode B pc = .ok (.if_acmp cd o, 3)) (h1 : x.isRef = true) (h2 : y.isRef = true) (hq : decide (x = y) = same) (ho : 0 ≤ (pc : Int) + o) (hp : pc' = if acV cd same = true then ((pc : Int) + o).toNat else pc + 3) (g : Go Z l R B ml own rt mn pc' Ls rest h L k n Q) : Go Z l R B ml own rt mn pc Ls (y :: x :: rest) h L k n Q :=
  Go.stand (fun p e s m args below meth c T t X hx hZ hB hown eT hr => Jvm.RoadKit.acmp (g := mkF m pc Ls (y :: x :: rest)) X hx rfl h1 h2 (pc0 := pc) (pc' := pc') (same := same) rfl (hb hB hd) rfl hq ho hp hr) g
theorem Go.ldcI {a0 : Array Value} {st : List Value} {i : Nat} {v : Int32} (hd : decode B pc = .ok (.ldc i, 2)) (hp : pc + 2 = pc') (w : (Jvm.Cond.constant own i v).before a0 Z = true) (g : Go Z l R B ml own rt mn pc' Ls (.int v :: st) h L k n Q) : Go Z l R B ml own rt mn pc Ls st h L k n Q := by
  subst hp
  exact Go.stand (fun p e s m args below meth c T t X hx hZ hB hown eT hr => X.ldcInt hx hown (mvT hZ w) (g := mkF m pc Ls st) rfl (hb hB hd) _ hr) g
theorem Go.ldcF {a0 : Array Value} {st : List Value} {i : Nat} {v : UInt32} (hd : decode B pc = .ok (.ldc i, 2)) (hp : pc + 2 = pc') (w : (Jvm.Cond.constantFloat own i v).before a0 Z = true) (g : Go Z l R B ml own rt mn pc' Ls (.float v :: st) h L k n Q) : Go Z l R B ml own rt mn pc Ls st h L k n Q := by
  subst hp
  exact Go.stand (fun p e s m args below meth c T t X hx hZ hB hown eT hr => X.ldcFloatC hx hown (mvT hZ w) (g := mkF m pc Ls st) rfl (hb hB hd) _ hr) g
theorem Go.ldc2 {a0 : Array Value} {st : List Value} {i : Nat} {v : Int64} (hd : decode B pc = .ok (.ldc2_w i, 3)) (hp : pc + 3 = pc') (w : (Jvm.Cond.constantLong own i v).before a0 Z = true) (g : Go Z l R B ml own rt mn pc' Ls (.long v :: st) h L k n Q) : Go Z l R B ml own rt mn pc Ls st h L k n Q := by
  subst hp
  exact Go.stand (fun p e s m args below meth c T t X hx hZ hB hown eT hr => X.ldc2Long hx hown (mvT hZ w) (g := mkF m pc Ls st) rfl (hb hB hd) _ hr) g
theorem Go.retI {z : Int32} (hd : decode B pc = .ok (.ireturn, 1)) (hrt' : rt = some .int) (hk : k ≤ R.cells) (hn : n ≤ R.slots) (q : Q (some (.int z)) h L) : Go Z l R B ml own rt mn pc Ls ((.int z) :: rest) h L k n Q := by
  intro p e s m args below meth c T X hx hZ hby hml hown hrt hlk hnm eT
  obtain ⟨fs, hr, hrun, hended, hW, hsame⟩ := X.leave (v := some (.int z)) (fun r => by rw [hrt, hrt'] at r; cases r)
  refine ⟨_, _, retOut X hx (hrt.trans hrt') (show narrow .int (.int z) = .int z from rfl) (Or.inl ⟨rfl, Or.inl rfl, _, rfl⟩) (hb hby hd) hr, hrun, hended, _, _, rfl, ?_, ⟨_, rfl⟩, hW, hsame.mono hk hn⟩
  show Q _ T.heap _
  rw [eT]; exact q
theorem Go.retZ {z : Int32} (hd : decode B pc = .ok (.ireturn, 1)) (hrt' : rt = some .boolean) (hz : z = 0 ∨ z = 1) (hk : k ≤ R.cells) (hn : n ≤ R.slots) (q : Q (some (.int z)) h L) : Go Z l R B ml own rt mn pc Ls ((.int z) :: rest) h L k n Q := by
  intro p e s m args below meth c T X hx hZ hby hml hown hrt hlk hnm eT
  obtain ⟨fs, hr, hrun, hended, hW, hsame⟩ := X.leave (v := some (.int z)) (fun r => by rw [hrt, hrt'] at r; cases r)
  refine ⟨_, _, retOut X hx (hrt.trans hrt') (show narrow .boolean (.int z) = .int z by rcases hz with rfl | rfl <;> rfl) (Or.inl ⟨rfl, Or.inr (Or.inl rfl), _, rfl⟩) (hb hby hd) hr, hrun, hended, _, _, rfl, ?_, ⟨_, rfl⟩, hW, hsame.mono hk hn⟩
  show Q _ T.heap _
  rw [eT]; exact q
theorem Go.retB {z : Int32} (hd : decode B pc = .ok (.ireturn, 1)) (hrt' : rt = some .byte) (hz : z.toInt8.toInt32 = z) (hk : k ≤ R.cells) (hn : n ≤ R.slots) (q : Q (some (.int z)) h L) : Go Z l R B ml own rt mn pc Ls ((.int z) :: rest) h L k n Q := by
  intro p e s m args below meth c T X hx hZ hby hml hown hrt hlk hnm eT
  obtain ⟨fs, hr, hrun, hended, hW, hsame⟩ := X.leave (v := some (.int z)) (fun r => by rw [hrt, hrt'] at r; cases r)
  refine ⟨_, _, retOut X hx (hrt.trans hrt') (show narrow .byte (.int z) = .int z from congrArg Value.int hz) (Or.inl ⟨rfl, Or.inr (Or.inr (Or.inl rfl)), _, rfl⟩) (hb hby hd) hr, hrun, hended, _, _, rfl, ?_, ⟨_, rfl⟩, hW, hsame.mono hk hn⟩
  show Q _ T.heap _
  rw [eT]; exact q
theorem Go.retJ {z : Int64} (hd : decode B pc = .ok (.lreturn, 1)) (hrt' : rt = some .long) (hk : k ≤ R.cells) (hn : n ≤ R.slots) (q : Q (some (.long z)) h L) : Go Z l R B ml own rt mn pc Ls ((.long z) :: rest) h L k n Q := by
  intro p e s m args below meth c T X hx hZ hby hml hown hrt hlk hnm eT
  obtain ⟨fs, hr, hrun, hended, hW, hsame⟩ := X.leave (v := some (.long z)) (fun r => by rw [hrt, hrt'] at r; cases r)
  refine ⟨_, _, retOut X hx (hrt.trans hrt') (show narrow .long (.long z) = .long z from rfl) (Or.inr (Or.inl ⟨rfl, rfl, _, rfl⟩)) (hb hby hd) hr, hrun, hended, _, _, rfl, ?_, ⟨_, rfl⟩, hW, hsame.mono hk hn⟩
  show Q _ T.heap _
  rw [eT]; exact q
theorem Go.retA {z : Value} {t : FieldType} (hd : decode B pc = .ok (.areturn, 1)) (hrt' : rt = some t) (ht : t.isReference = true) (hz : z.isRef = true) (hk : k ≤ R.cells) (hn : n ≤ R.slots) (q : Q (some z) h L) : Go Z l R B ml own rt mn pc Ls (z :: rest) h L k n Q := by
  intro p e s m args below meth c T X hx hZ hby hml hown hrt hlk hnm eT
  obtain ⟨fs, hr, hrun, hended, hW, hsame⟩ := X.leave (v := some z) (fun r => by rw [hrt, hrt'] at r; cases r)
  refine ⟨_, _, retOut X hx (hrt.trans hrt') (show narrow t z = z by rcases ref_cases hz with rfl | ⟨a, rfl⟩ <;> cases t <;> first | rfl | (simp [FieldType.isReference] at ht)) (Or.inr (Or.inr (Or.inr (Or.inr ⟨rfl, ht, hz⟩)))) (hb hby hd) hr, hrun, hended, _, _, rfl, ?_, ⟨_, rfl⟩, hW, hsame.mono hk hn⟩
  show Q _ T.heap _
  rw [eT]; exact q
theorem Go.retV (hd : decode B pc = .ok (.return_, 1)) (hrt' : rt = none) (hk : k ≤ R.cells) (hn : n ≤ R.slots) (q : Q none h L) : Go Z l R B ml own rt mn pc Ls [] h L k n Q := by
  intro p e s m args below meth c T X hx hZ hby hml hown hrt hlk hnm eT
  obtain ⟨fs, hr, hrun, hended, hW, hsame⟩ := X.leave (v := none) (fun _ => rfl)
  refine ⟨_, _, X.returnOut hx (hrt.trans hrt') (hb hby hd) hr, hrun, hended, _, _, rfl, ?_, ⟨_, rfl⟩, hW, hsame.mono hk hn⟩
  show Q _ T.heap _
  rw [eT]; exact q
theorem sel_priv {a0 args : Array Value} {s : State} {y : MethodName} {kk : Nat} (hZ : Z.Warmed39 s.vm) (wi : (Jvm.Cond.instantiable y.cls kk).before a0 Z = true) (wp : (Jvm.Cond.privateMethod y).before a0 Z = true) (w2 : (Jvm.Cond.instanceMethod y).before a0 Z = true) (hy : y.cls ≠ "java/lang/invoke/MethodHandle" ∧ y.cls ≠ "java/lang/invoke/VarHandle") : (Jvm.Cond.selects y.cls y y).before args s = true := by
  have wi' : (Jvm.Cond.instantiable y.cls kk).before args s = true := mvT hZ wi
  obtain ⟨cI, kI, i1, i2, -, i4, -⟩ := Cond.instantiable_spec wi'
  exact selects_self_of_private i1 i2 (Bool.or_eq_false_iff.mp i4).1 (Cond.privateMethod_at (mvP hZ wp (args := #[]))) (mvT hZ w2) hy
theorem Go.callS {a0 : Array Value} {i : Nat} {y : MethodName} {B' : ByteArray} {ml' : Nat} {rt' : Option FieldType} {R' : Room} {Q' : Option Value → Heap → List Loc → Prop} {W : Nat} {argsL : List Value} {st : List Value} {ps : List FieldType} {r : Option FieldType}
    (hd : decode B pc = .ok (.invokestatic i, 3)) (hp : pc + 3 = pc') (w1 : (Jvm.Cond.methodLink own i y).before a0 Z = true) (w2 : (Jvm.Cond.static y).before a0 Z = true) (w3 : (Jvm.Cond.initialized y.cls).before a0 Z = true) (w4 : (Jvm.Cond.code y B' ml' rt').before a0 Z = true) (hy : y.cls ≠ "java/lang/invoke/MethodHandle" ∧ y.cls ≠ "java/lang/invoke/VarHandle")
    (con : Con l Z y B' ml' rt' R' [] argsL.toArray h Q') (hf : R'.frames + 1 ≤ R.frames) (hl : W + (ml' + 11) + R'.locals ≤ R.locals) {k' n' : Nat} (hc : k + R'.cells ≤ R.cells) (hn : n + R'.slots ≤ R.slots) (hk' : k + R'.cells = k') (hn' : n + R'.slots = n') (hsz : Ls.size = ml) (hpd : parseMethodDescriptor y.desc = some ⟨ps, r⟩) (hlen : argsL.length = ps.length) (hst : st = argsL.reverse ++ rest) (hW : (rest.map fun v => v.category).sum ≤ W)
    (g : ∀ v h' L' L'', (∀ q, Fr q L → Fr q L' → Fr q L'') → Q' v h' L' → Go Z l R B ml own rt mn pc' Ls (v.toList ++ rest) h' L'' k' n' Q) : Go Z l R B ml own rt mn pc Ls st h L k n Q := by
  subst hp hk' hn'
  intro p e s m args below meth c T X hx hZ hby hml hown hrt hlk hnm eT
  obtain ⟨v, _, ⟨U, ls, cc, sl⟩, -, X', ⟨Lc, hQ, l1, y1, z1⟩, stp⟩ := Jvm.LawKit.callS X hx (y := y) hown (mvT hZ w1) (mvT hZ w2) (mvT hZ w3) (mvT hZ w4) hy (backOf (W := W) con hZ w4 w3 hf hl) (g := mkF m pc Ls st) rfl (hsz.trans hml.symm) (argsL := argsL) (rest := rest) (lenOf hpd hlen) hst (by show 2 * 0 + _ ≤ _; omega) (hb hby hd) (fun _ _ => ⟨rfl, eT, hc, hn⟩)
  dsimp only [Pt.U, Pt.locs, Pt.cells, Pt.slots] at X' hQ l1 y1 z1 stp
  subst l1 y1 z1
  obtain ⟨s₂, o, h1, h2⟩ := g v U.heap Lc _ (fun q a b => a.app b) hQ p e s m args below meth c U X' hx hZ hby hml hown hrt hlk hnm rfl
  exact ⟨s₂, o, stp _ h1, h2⟩
theorem Go.callS0 {a0 : Array Value} {i : Nat} {y : MethodName} {B' : ByteArray} {ml' : Nat} {rt' : Option FieldType} {R' : Room} {v0 : Option Value} {W : Nat} {argsL : List Value} {st : List Value} {ps : List FieldType} {r : Option FieldType}
    (hd : decode B pc = .ok (.invokestatic i, 3)) (hp : pc + 3 = pc') (w1 : (Jvm.Cond.methodLink own i y).before a0 Z = true) (w2 : (Jvm.Cond.static y).before a0 Z = true) (w3 : (Jvm.Cond.initialized y.cls).before a0 Z = true) (w4 : (Jvm.Cond.code y B' ml' rt').before a0 Z = true) (hy : y.cls ≠ "java/lang/invoke/MethodHandle" ∧ y.cls ≠ "java/lang/invoke/VarHandle")
    (con : Con l Z y B' ml' rt' R' [] argsL.toArray h (PQ h v0)) (hf : R'.frames + 1 ≤ R.frames) (hl : W + (ml' + 11) + R'.locals ≤ R.locals) {st2 : List Value} (hs2 : v0.toList ++ rest = st2) (hc : R'.cells = 0) (hn : R'.slots = 0) (hk : k ≤ R.cells) (hn2 : n ≤ R.slots) (hsz : Ls.size = ml) (hpd : parseMethodDescriptor y.desc = some ⟨ps, r⟩) (hlen : argsL.length = ps.length) (hst : st = argsL.reverse ++ rest) (hW : (rest.map fun v => v.category).sum ≤ W)
    (g : Go Z l R B ml own rt mn pc' Ls st2 h L k n Q) : Go Z l R B ml own rt mn pc Ls st h L k n Q := by
  subst hp hs2
  intro p e s m args below meth c T X hx hZ hby hml hown hrt hlk hnm eT
  obtain ⟨v, _, ⟨U, ls, cc, sl⟩, -, X', ⟨Lc, hQ, l1, y1, z1⟩, stp⟩ := Jvm.LawKit.callS X hx (y := y) hown (mvT hZ w1) (mvT hZ w2) (mvT hZ w3) (mvT hZ w4) hy (backOf (W := W) con hZ w4 w3 hf hl) (g := mkF m pc Ls st) rfl (hsz.trans hml.symm) (argsL := argsL) (rest := rest) (lenOf hpd hlen) hst (by show 2 * 0 + _ ≤ _; omega) (hb hby hd) (fun _ _ => ⟨rfl, eT, (by rw [hc]; exact hk), (by rw [hn]; exact hn2)⟩)
  dsimp only [Pt.U, Pt.locs, Pt.cells, Pt.slots] at X' hQ l1 y1 z1 stp
  obtain ⟨q1, q2, q3⟩ := hQ
  rw [q3, List.append_nil] at l1
  rw [hc, Nat.add_zero] at y1
  rw [hn, Nat.add_zero] at z1
  subst l1 y1 z1
  rw [q1] at stp
  obtain ⟨s₂, o, h1, h2⟩ := g p e s m args below meth c U X' hx hZ hby hml hown hrt hlk hnm q2
  exact ⟨s₂, o, stp _ h1, h2⟩
theorem Go.callI {a0 : Array Value} {i : Nat} {y : MethodName} {B' : ByteArray} {ml' : Nat} {R' : Room} {Q' : Option Value → Heap → List Loc → Prop} {W : Nat} {a : Addr} {argsL : List Value} {st : List Value} {ps : List FieldType} {r : Option FieldType}
    (hd : decode B pc = .ok (.invokespecial i, 3)) (hp : pc + 3 = pc') (hy1 : y.name = "<init>") (w1 : (Jvm.Cond.methodLink own i y).before a0 Z = true) (w2 : (Jvm.Cond.instanceMethod y).before a0 Z = true) (w3 : (Jvm.Cond.initialized y.cls).before a0 Z = true) (w4 : (Jvm.Cond.code y B' ml' none).before a0 Z = true) (hy : y.cls ≠ "java/lang/invoke/MethodHandle" ∧ y.cls ≠ "java/lang/invoke/VarHandle")
    (con : Con l Z y B' ml' none R' [] (.ref a :: argsL).toArray h Q') (hf : R'.frames + 1 ≤ R.frames) (hl : W + (ml' + 11) + R'.locals ≤ R.locals) {k' n' : Nat} (hc : k + R'.cells ≤ R.cells) (hn : n + R'.slots ≤ R.slots) (hk' : k + R'.cells = k') (hn' : n + R'.slots = n') (hsz : Ls.size = ml) (hpd : parseMethodDescriptor y.desc = some ⟨ps, r⟩) (hlen : argsL.length = ps.length) (hst : st = argsL.reverse ++ .ref a :: rest) (hW : (rest.map fun v => v.category).sum ≤ W)
    (g : ∀ v h' L' L'', (∀ q, Fr q L → Fr q L' → Fr q L'') → Q' v h' L' → Go Z l R B ml own rt mn pc' Ls (v.toList ++ rest) h' L'' k' n' Q) : Go Z l R B ml own rt mn pc Ls st h L k n Q := by
  subst hp hk' hn'
  intro p e s m args below meth c T X hx hZ hby hml hown hrt hlk hnm eT
  obtain ⟨v, _, ⟨U, ls, cc, sl⟩, -, X', ⟨Lc, hQ, l1, y1, z1⟩, stp⟩ := X.specialBack hx (y := y) hy1 hown (mvT hZ w1) (mvT hZ w2) (mvT hZ w4) hy (backOf (W := W) con hZ w4 w3 hf hl) (g := mkF m pc Ls st) rfl (hsz.trans hml.symm) (Steps.refl _) (a := a) (argsL := argsL) (rest := rest) (lenOf hpd hlen) hst (by show 2 * 0 + _ ≤ _; omega) (hb hby hd) (fun _ _ => ⟨rfl, eT, hc, hn⟩)
  dsimp only [Pt.U, Pt.locs, Pt.cells, Pt.slots] at X' hQ l1 y1 z1 stp
  subst l1 y1 z1
  obtain ⟨s₂, o, h1, h2⟩ := g v U.heap Lc _ (fun q a b => a.app b) hQ p e s m args below meth c U X' hx hZ hby hml hown hrt hlk hnm rfl
  exact ⟨s₂, o, stp.trans h1, h2⟩
theorem Go.callI0 {a0 : Array Value} {i : Nat} {y : MethodName} {B' : ByteArray} {ml' : Nat} {R' : Room} {v0 : Option Value} {W : Nat} {a : Addr} {argsL : List Value} {st : List Value} {ps : List FieldType} {r : Option FieldType}
    (hd : decode B pc = .ok (.invokespecial i, 3)) (hp : pc + 3 = pc') (hy1 : y.name = "<init>") (w1 : (Jvm.Cond.methodLink own i y).before a0 Z = true) (w2 : (Jvm.Cond.instanceMethod y).before a0 Z = true) (w3 : (Jvm.Cond.initialized y.cls).before a0 Z = true) (w4 : (Jvm.Cond.code y B' ml' none).before a0 Z = true) (hy : y.cls ≠ "java/lang/invoke/MethodHandle" ∧ y.cls ≠ "java/lang/invoke/VarHandle")
    (con : Con l Z y B' ml' none R' [] (.ref a :: argsL).toArray h (PQ h v0)) (hf : R'.frames + 1 ≤ R.frames) (hl : W + (ml' + 11) + R'.locals ≤ R.locals) {st2 : List Value} (hs2 : v0.toList ++ rest = st2) (hc : R'.cells = 0) (hn : R'.slots = 0) (hk : k ≤ R.cells) (hn2 : n ≤ R.slots) (hsz : Ls.size = ml) (hpd : parseMethodDescriptor y.desc = some ⟨ps, r⟩) (hlen : argsL.length = ps.length) (hst : st = argsL.reverse ++ .ref a :: rest) (hW : (rest.map fun v => v.category).sum ≤ W)
    (g : Go Z l R B ml own rt mn pc' Ls st2 h L k n Q) : Go Z l R B ml own rt mn pc Ls st h L k n Q := by
  subst hp hs2
  intro p e s m args below meth c T X hx hZ hby hml hown hrt hlk hnm eT
  obtain ⟨v, _, ⟨U, ls, cc, sl⟩, -, X', ⟨Lc, hQ, l1, y1, z1⟩, stp⟩ := X.specialBack hx (y := y) hy1 hown (mvT hZ w1) (mvT hZ w2) (mvT hZ w4) hy (backOf (W := W) con hZ w4 w3 hf hl) (g := mkF m pc Ls st) rfl (hsz.trans hml.symm) (Steps.refl _) (a := a) (argsL := argsL) (rest := rest) (lenOf hpd hlen) hst (by show 2 * 0 + _ ≤ _; omega) (hb hby hd) (fun _ _ => ⟨rfl, eT, (by rw [hc]; exact hk), (by rw [hn]; exact hn2)⟩)
  dsimp only [Pt.U, Pt.locs, Pt.cells, Pt.slots] at X' hQ l1 y1 z1 stp
  obtain ⟨q1, q2, q3⟩ := hQ
  rw [q3, List.append_nil] at l1
  rw [hc, Nat.add_zero] at y1
  rw [hn, Nat.add_zero] at z1
  subst l1 y1 z1
  rw [q1] at stp
  obtain ⟨s₂, o, h1, h2⟩ := g p e s m args below meth c U X' hx hZ hby hml hown hrt hlk hnm q2
  exact ⟨s₂, o, stp.trans h1, h2⟩
theorem Go.callV {a0 : Array Value} {i : Nat} {C : String} {y z : MethodName} {B' : ByteArray} {ml' : Nat} {rt' : Option FieldType} {R' : Room} {Q' : Option Value → Heap → List Loc → Prop} {W : Nat} {a : Addr} {argsL : List Value} {st : List Value} {ps : List FieldType} {r : Option FieldType}
    (hd : decode B pc = .ok (.invokevirtual i, 3)) (hp : pc + 3 = pc') (w1 : (Jvm.Cond.methodLink own i y).before a0 Z = true) (w2 : (Jvm.Cond.declares y).before a0 Z = true) (nf : ∀ (s : State) (args : Array Value), Z.Warmed39 s.vm → NotFace s y) (w5 : (Jvm.Cond.selects C y z).before a0 Z = true) (w6 : (Jvm.Cond.instanceMethod z).before a0 Z = true) (w3 : (Jvm.Cond.initialized z.cls).before a0 Z = true) (w4 : (Jvm.Cond.code z B' ml' rt').before a0 Z = true) (E : Exa Z h a C) (hy : y.cls ≠ "java/lang/invoke/MethodHandle" ∧ y.cls ≠ "java/lang/invoke/VarHandle")
    (con : Con l Z z B' ml' rt' R' [] (.ref a :: argsL).toArray h Q') (hf : R'.frames + 1 ≤ R.frames) (hl : W + (ml' + 11) + R'.locals ≤ R.locals) {k' n' : Nat} (hc : k + R'.cells ≤ R.cells) (hn : n + R'.slots ≤ R.slots) (hk' : k + R'.cells = k') (hn' : n + R'.slots = n') (hsz : Ls.size = ml) (hpd : parseMethodDescriptor y.desc = some ⟨ps, r⟩) (hlen : argsL.length = ps.length) (hst : st = argsL.reverse ++ .ref a :: rest) (hW : (rest.map fun v => v.category).sum ≤ W)
    (g : ∀ v h' L' L'', (∀ q, Fr q L → Fr q L' → Fr q L'') → Q' v h' L' → Go Z l R B ml own rt mn pc' Ls (v.toList ++ rest) h' L'' k' n' Q) : Go Z l R B ml own rt mn pc Ls st h L k n Q := by
  subst hp hk' hn'
  intro p e s m args below meth c T X hx hZ hby hml hown hrt hlk hnm eT
  obtain ⟨cq, kq, qa, qb, qc⟩ := isOf hZ eT E
  obtain ⟨v, _, ⟨U, ls, cc, sl⟩, -, X', ⟨Lc, hQ, l1, y1, z1⟩, stp⟩ := X.virtualBack hx (y := y) (z := z) hown (mvT hZ w1) (mvT hZ w2) (nf s args hZ) (mvT hZ w5) (mvT hZ w6) hy (backOf (W := W) con hZ w4 w3 hf hl) qa qc (g := mkF m pc Ls st) rfl (hsz.trans hml.symm) (Steps.refl _) (argsL := argsL) (rest := rest) (lenOf hpd hlen) hst (by show 2 * 0 + _ ≤ _; omega) (hb hby hd) (fun _ _ => ⟨rfl, eT, hc, hn⟩)
  dsimp only [Pt.U, Pt.locs, Pt.cells, Pt.slots] at X' hQ l1 y1 z1 stp
  subst l1 y1 z1
  obtain ⟨s₂, o, h1, h2⟩ := g v U.heap Lc _ (fun q a b => a.app b) hQ p e s m args below meth c U X' hx hZ hby hml hown hrt hlk hnm rfl
  exact ⟨s₂, o, stp.trans h1, h2⟩
theorem Go.callV0 {a0 : Array Value} {i : Nat} {C : String} {y z : MethodName} {B' : ByteArray} {ml' : Nat} {rt' : Option FieldType} {R' : Room} {v0 : Option Value} {W : Nat} {a : Addr} {argsL : List Value} {st : List Value} {ps : List FieldType} {r : Option FieldType}
    (hd : decode B pc = .ok (.invokevirtual i, 3)) (hp : pc + 3 = pc') (w1 : (Jvm.Cond.methodLink own i y).before a0 Z = true) (w2 : (Jvm.Cond.declares y).before a0 Z = true) (nf : ∀ (s : State) (args : Array Value), Z.Warmed39 s.vm → NotFace s y) (w5 : (Jvm.Cond.selects C y z).before a0 Z = true) (w6 : (Jvm.Cond.instanceMethod z).before a0 Z = true) (w3 : (Jvm.Cond.initialized z.cls).before a0 Z = true) (w4 : (Jvm.Cond.code z B' ml' rt').before a0 Z = true) (E : Exa Z h a C) (hy : y.cls ≠ "java/lang/invoke/MethodHandle" ∧ y.cls ≠ "java/lang/invoke/VarHandle")
    (con : Con l Z z B' ml' rt' R' [] (.ref a :: argsL).toArray h (PQ h v0)) (hf : R'.frames + 1 ≤ R.frames) (hl : W + (ml' + 11) + R'.locals ≤ R.locals) {st2 : List Value} (hs2 : v0.toList ++ rest = st2) (hc : R'.cells = 0) (hn : R'.slots = 0) (hk : k ≤ R.cells) (hn2 : n ≤ R.slots) (hsz : Ls.size = ml) (hpd : parseMethodDescriptor y.desc = some ⟨ps, r⟩) (hlen : argsL.length = ps.length) (hst : st = argsL.reverse ++ .ref a :: rest) (hW : (rest.map fun v => v.category).sum ≤ W)
    (g : Go Z l R B ml own rt mn pc' Ls st2 h L k n Q) : Go Z l R B ml own rt mn pc Ls st h L k n Q := by
  subst hp hs2
  intro p e s m args below meth c T X hx hZ hby hml hown hrt hlk hnm eT
  obtain ⟨cq, kq, qa, qb, qc⟩ := isOf hZ eT E
  obtain ⟨v, _, ⟨U, ls, cc, sl⟩, -, X', ⟨Lc, hQ, l1, y1, z1⟩, stp⟩ := X.virtualBack hx (y := y) (z := z) hown (mvT hZ w1) (mvT hZ w2) (nf s args hZ) (mvT hZ w5) (mvT hZ w6) hy (backOf (W := W) con hZ w4 w3 hf hl) qa qc (g := mkF m pc Ls st) rfl (hsz.trans hml.symm) (Steps.refl _) (argsL := argsL) (rest := rest) (lenOf hpd hlen) hst (by show 2 * 0 + _ ≤ _; omega) (hb hby hd) (fun _ _ => ⟨rfl, eT, (by rw [hc]; exact hk), (by rw [hn]; exact hn2)⟩)
  dsimp only [Pt.U, Pt.locs, Pt.cells, Pt.slots] at X' hQ l1 y1 z1 stp
  obtain ⟨q1, q2, q3⟩ := hQ
  rw [q3, List.append_nil] at l1
  rw [hc, Nat.add_zero] at y1
  rw [hn, Nat.add_zero] at z1
  subst l1 y1 z1
  rw [q1] at stp
  obtain ⟨s₂, o, h1, h2⟩ := g p e s m args below meth c U X' hx hZ hby hml hown hrt hlk hnm q2
  exact ⟨s₂, o, stp.trans h1, h2⟩
theorem Go.callP {a0 : Array Value} {i : Nat} {C : String} {kk : Nat} {y : MethodName} {B' : ByteArray} {ml' : Nat} {rt' : Option FieldType} {R' : Room} {Q' : Option Value → Heap → List Loc → Prop} {W : Nat} {a : Addr} {argsL : List Value} {st : List Value} {ps : List FieldType} {r : Option FieldType}
    (hd : decode B pc = .ok (.invokevirtual i, 3)) (hp : pc + 3 = pc') (w1 : (Jvm.Cond.methodLink own i y).before a0 Z = true) (w2 : (Jvm.Cond.instanceMethod y).before a0 Z = true) (w5 : (Jvm.Cond.instantiable y.cls kk).before a0 Z = true) (w6 : (Jvm.Cond.privateMethod y).before a0 Z = true) (w3 : (Jvm.Cond.initialized y.cls).before a0 Z = true) (w4 : (Jvm.Cond.code y B' ml' rt').before a0 Z = true) (E : Exa Z h a C) (hy : y.cls ≠ "java/lang/invoke/MethodHandle" ∧ y.cls ≠ "java/lang/invoke/VarHandle")
    (con : Con l Z y B' ml' rt' R' [] (.ref a :: argsL).toArray h Q') (hf : R'.frames + 1 ≤ R.frames) (hl : W + (ml' + 11) + R'.locals ≤ R.locals) {k' n' : Nat} (hc : k + R'.cells ≤ R.cells) (hn : n + R'.slots ≤ R.slots) (hk' : k + R'.cells = k') (hn' : n + R'.slots = n') (hsz : Ls.size = ml) (hpd : parseMethodDescriptor y.desc = some ⟨ps, r⟩) (hlen : argsL.length = ps.length) (hst : st = argsL.reverse ++ .ref a :: rest) (hW : (rest.map fun v => v.category).sum ≤ W)
    (g : ∀ v h' L' L'', (∀ q, Fr q L → Fr q L' → Fr q L'') → Q' v h' L' → Go Z l R B ml own rt mn pc' Ls (v.toList ++ rest) h' L'' k' n' Q) : Go Z l R B ml own rt mn pc Ls st h L k n Q := by
  subst hp hk' hn'
  intro p e s m args below meth c T X hx hZ hby hml hown hrt hlk hnm eT
  obtain ⟨cq, q1, q2⟩ := E.cell
  obtain ⟨v, _, ⟨U, ls, cc, sl⟩, -, X', ⟨Lc, hQ, l1, y1, z1⟩, stp⟩ := X.privateBack hx (y := y) hown (mvT hZ w1) (mvT hZ w2) (sel_priv hZ w5 w6 w2 hy) (Cond.privateMethod_at (mvP hZ w6 (args := #[]))) (mvT hZ w4) hy (backOf (W := W) con hZ w4 w3 hf hl) (g := mkF m pc Ls st) rfl (hsz.trans hml.symm) (Steps.refl _) (a := a) (by rw [eT]; exact q1) q2 (argsL := argsL) (rest := rest) (lenOf hpd hlen) hst (by show 2 * 0 + _ ≤ _; omega) (hb hby hd) (fun _ _ => ⟨rfl, eT, hc, hn⟩)
  dsimp only [Pt.U, Pt.locs, Pt.cells, Pt.slots] at X' hQ l1 y1 z1 stp
  subst l1 y1 z1
  obtain ⟨s₂, o, h1, h2⟩ := g v U.heap Lc _ (fun q a b => a.app b) hQ p e s m args below meth c U X' hx hZ hby hml hown hrt hlk hnm rfl
  exact ⟨s₂, o, stp.trans h1, h2⟩
theorem Go.callP0 {a0 : Array Value} {i : Nat} {C : String} {kk : Nat} {y : MethodName} {B' : ByteArray} {ml' : Nat} {rt' : Option FieldType} {R' : Room} {v0 : Option Value} {W : Nat} {a : Addr} {argsL : List Value} {st : List Value} {ps : List FieldType} {r : Option FieldType}
    (hd : decode B pc = .ok (.invokevirtual i, 3)) (hp : pc + 3 = pc') (w1 : (Jvm.Cond.methodLink own i y).before a0 Z = true) (w2 : (Jvm.Cond.instanceMethod y).before a0 Z = true) (w5 : (Jvm.Cond.instantiable y.cls kk).before a0 Z = true) (w6 : (Jvm.Cond.privateMethod y).before a0 Z = true) (w3 : (Jvm.Cond.initialized y.cls).before a0 Z = true) (w4 : (Jvm.Cond.code y B' ml' rt').before a0 Z = true) (E : Exa Z h a C) (hy : y.cls ≠ "java/lang/invoke/MethodHandle" ∧ y.cls ≠ "java/lang/invoke/VarHandle")
    (con : Con l Z y B' ml' rt' R' [] (.ref a :: argsL).toArray h (PQ h v0)) (hf : R'.frames + 1 ≤ R.frames) (hl : W + (ml' + 11) + R'.locals ≤ R.locals) {st2 : List Value} (hs2 : v0.toList ++ rest = st2) (hc : R'.cells = 0) (hn : R'.slots = 0) (hk : k ≤ R.cells) (hn2 : n ≤ R.slots) (hsz : Ls.size = ml) (hpd : parseMethodDescriptor y.desc = some ⟨ps, r⟩) (hlen : argsL.length = ps.length) (hst : st = argsL.reverse ++ .ref a :: rest) (hW : (rest.map fun v => v.category).sum ≤ W)
    (g : Go Z l R B ml own rt mn pc' Ls st2 h L k n Q) : Go Z l R B ml own rt mn pc Ls st h L k n Q := by
  subst hp hs2
  intro p e s m args below meth c T X hx hZ hby hml hown hrt hlk hnm eT
  obtain ⟨cq, q1, q2⟩ := E.cell
  obtain ⟨v, _, ⟨U, ls, cc, sl⟩, -, X', ⟨Lc, hQ, l1, y1, z1⟩, stp⟩ := X.privateBack hx (y := y) hown (mvT hZ w1) (mvT hZ w2) (sel_priv hZ w5 w6 w2 hy) (Cond.privateMethod_at (mvP hZ w6 (args := #[]))) (mvT hZ w4) hy (backOf (W := W) con hZ w4 w3 hf hl) (g := mkF m pc Ls st) rfl (hsz.trans hml.symm) (Steps.refl _) (a := a) (by rw [eT]; exact q1) q2 (argsL := argsL) (rest := rest) (lenOf hpd hlen) hst (by show 2 * 0 + _ ≤ _; omega) (hb hby hd) (fun _ _ => ⟨rfl, eT, (by rw [hc]; exact hk), (by rw [hn]; exact hn2)⟩)
  dsimp only [Pt.U, Pt.locs, Pt.cells, Pt.slots] at X' hQ l1 y1 z1 stp
  obtain ⟨q1, q2, q3⟩ := hQ
  rw [q3, List.append_nil] at l1
  rw [hc, Nat.add_zero] at y1
  rw [hn, Nat.add_zero] at z1
  subst l1 y1 z1
  rw [q1] at stp
  obtain ⟨s₂, o, h1, h2⟩ := g p e s m args below meth c U X' hx hZ hby hml hown hrt hlk hnm q2
  exact ⟨s₂, o, stp.trans h1, h2⟩
theorem nf_sel {a0 : Array Value} {C : String} {y : MethodName} (w : (Jvm.Cond.selects C y y).before a0 Z = true) : ∀ (s : State) (args : Array Value), Z.Warmed39 s.vm → NotFace s y := fun s args hZ => notFace_of_selects (args := args) (mvT hZ w)
theorem Go.initO {a0 : Array Value} {i : Nat} {W : Nat} {a : Addr} (hd : decode B pc = .ok (.invokespecial i, 3)) (hp : pc + 3 = pc') (w1 : (Jvm.Cond.methodLink own i Lib.objectInit).before a0 Z = true) (w2 : (Jvm.Cond.instanceMethod Lib.objectInit).before a0 Z = true) (w3 : (Jvm.Cond.code Lib.objectInit ⟨#[0xb1]⟩ 1 none).before a0 Z = true) (hf : 1 ≤ R.frames) (hl : W + 12 ≤ R.locals) (hsz : Ls.size = ml) (hW : (rest.map fun v => v.category).sum ≤ W)
    (g : Go Z l R B ml own rt mn pc' Ls rest h L k n Q) : Go Z l R B ml own rt mn pc Ls (.ref a :: rest) h L k n Q := by
  subst hp
  intro p e s m args below meth c T X hx hZ hby hml hown hrt hlk hnm eT
  obtain ⟨T', X', e', stp⟩ := Jvm.RoadKit.initO X hx hZ hown w1 w2 w3 eT (g := mkF m pc Ls (.ref a :: rest)) rfl (hsz.trans hml.symm) rfl (hb hby hd) hf (W := W) (by show 2 * 0 + _ ≤ _; omega) hl
  obtain ⟨s₂, o, h1, h2⟩ := g p e s m args below meth c T' X' hx hZ hby hml hown hrt hlk hnm e'
  exact ⟨s₂, o, stp _ h1, h2⟩
/-! objects -/
theorem Go.newO {a0 : Array Value} {st : List Value} {i sz : Nat} {C : String} {k' n' : Nat} (hd : decode B pc = .ok (.new i, 3)) (hp : pc + 3 = pc') (w : (Jvm.Cond.classLink own i C).before a0 Z = true) (wi : (Jvm.Cond.instantiable C sz).before a0 Z = true) (wz : (Jvm.Cond.initialized C).before a0 Z = true) (hc : k + 1 ≤ R.cells) (hl : n + sz ≤ R.slots) (hk' : k + 1 = k') (hn' : n + sz = n')
    (g : ∀ h' a, a = h.size → Ext h h' → Exa Z h' a C → (∀ {O nm d : String} {ty : FieldType}, Laid Z a0 C O nm d → parseFieldDescriptor d = some ty → Fld Z h' a O nm d (defaultValue ty)) → Go Z l R B ml own rt mn pc' Ls (.ref a :: st) h' L k' n' Q) : Go Z l R B ml own rt mn pc Ls st h L k n Q := by
  subst hp hk' hn'
  intro p e s m args below meth c T X hx hZ hby hml hown hrt hlk hnm eT
  obtain ⟨T', h', X', e', E', A', D', -, stp⟩ := Jvm.RoadKit.newO X hx hZ hown w wi wz eT (g := mkF m pc Ls st) rfl (hb hby hd) hc hl
  obtain ⟨s₂, o, h1, h2⟩ := g h' _ rfl E' A' D' p e s m args below meth c T' X' hx hZ hby hml hown hrt hlk hnm e'
  exact ⟨s₂, o, stp _ h1, h2⟩
theorem Go.getF {a0 : Array Value} {i : Nat} {R0 O f d : String} {a : Addr} {v : Value} (hd : decode B pc = .ok (.getfield i, 3)) (hp : pc + 3 = pc') (w : (Jvm.Cond.fieldLink own i R0 f d).before a0 Z = true) (via : Via Z R0 O f d) (F : Fld Z h a O f d v) (g : Go Z l R B ml own rt mn pc' Ls (v :: rest) h L k n Q) : Go Z l R B ml own rt mn pc Ls (.ref a :: rest) h L k n Q := by
  subst hp
  intro p e s m args below meth c T X hx hZ hby hml hown hrt hlk hnm eT
  obtain ⟨T', X', e', stp⟩ := Jvm.RoadKit.getF X hx hZ hown (host := "") (Or.inl w) via eT F (g := mkF m pc Ls (.ref a :: rest)) rfl rfl (hb hby hd)
  obtain ⟨s₂, o, h1, h2⟩ := g p e s m args below meth c T' X' hx hZ hby hml hown hrt hlk hnm e'
  exact ⟨s₂, o, stp _ h1, h2⟩
theorem Go.putF {a0 : Array Value} {i kk : Nat} {R0 O f d C : String} {a : Addr} {v old : Value} {ty : FieldType} (hd : decode B pc = .ok (.putfield i, 3)) (hp : pc + 3 = pc') (w : (Jvm.Cond.fieldLink own i R0 f d).before a0 Z = true) (via : Via Z R0 O f d) (F : Fld Z h a O f d old) (E : Exa Z h a C) (lw : (Jvm.Cond.lays C O f d).before a0 Z = true ∨ ((Jvm.Cond.laysFinal C O f d).before a0 Z = true ∧ own = O ∧ mn = "<init>")) (wi : (Jvm.Cond.instantiable C kk).before a0 Z = true)
    (hty : parseFieldDescriptor d = some ty) (hn : narrow ty v = v) (hf : fits ty v = true) (g : ∀ h' L', (∀ q, Fr q L → q ≤ a → Fr q L') → Wr h h' a (Jvm.RoadKit.slotOf Z O f d) v → Go Z l R B ml own rt mn pc' Ls rest h' L' k n Q) : Go Z l R B ml own rt mn pc Ls (v :: .ref a :: rest) h L k n Q := by
  subst hp
  intro p e s m args below meth c T X hx hZ hby hml hown hrt hlk hnm eT
  obtain ⟨T', h', X', e', W', stp⟩ := Jvm.RoadKit.putF X hx hZ hown (host := "") (Or.inl w) via eT F E (lw.imp id fun q => ⟨q.1, q.2.1, hnm.trans q.2.2⟩) wi hty hn hf (g := mkF m pc Ls (v :: .ref a :: rest)) rfl rfl (hb hby hd)
  obtain ⟨s₂, o, h1, h2⟩ := g h' _ (fun q N r => fr_one N r) W' p e s m args below meth c T' X' hx hZ hby hml hown hrt hlk hnm e'
  exact ⟨s₂, o, stp _ h1, h2⟩
/-! arrays: the very list of values -/
def Al (Z : State) (h : Heap) (a : Addr) (ty : FieldType) (vs : List Value) : Prop := vs.length < 2 ^ 31 ∧ ∃ c : Cell, Arr Z h a c ty ∧ c.slots = vs.toArray
theorem Al.lt {a : Addr} {ty : FieldType} {vs : List Value} (A : Al Z h a ty vs) : a < h.size := by obtain ⟨-, c, A, -⟩ := A; exact A.lt
theorem Al.ext {h' : Heap} {a : Addr} {ty : FieldType} {vs : List Value} (A : Al Z h a ty vs) (E : Ext h h') : Al Z h' a ty vs := by obtain ⟨q, c, A, r⟩ := A; exact ⟨q, c, A.ext E, r⟩
theorem Al.other {h' : Heap} {a b : Addr} {sl : Nat} {v : Value} {ty : FieldType} {vs : List Value} (A : Al Z h b ty vs) (W : Wr h h' a sl v) (ne : b ≠ a) : Al Z h' b ty vs := by obtain ⟨q, c, A, r⟩ := A; exact ⟨q, c, A.other W ne, r⟩
theorem Al.keep {h' : Heap} {a : Addr} {ty : FieldType} {vs : List Value} {ws : List Addr} (A : Al Z h a ty vs) (K : Keep h h' ws) (q : a ∉ ws) : Al Z h' a ty vs := by obtain ⟨q0, c, A, r⟩ := A; exact ⟨q0, c, ⟨K.2.1 a c A.1 q, A.2⟩, r⟩
theorem Al.set {h' : Heap} {a : Addr} {ty : FieldType} {vs : List Value} {i : Nat} {v : Value} (A : Al Z h a ty vs) (W : Wr h h' a i v) : Al Z h' a ty (vs.set i v) := by
  obtain ⟨q, c, A, r⟩ := A
  refine ⟨by simpa using q, c.setSlot i v, A.same W, ?_⟩
  simp [Cell.setSlot, r]
theorem Al.new {a : Addr} {ty : FieldType} {kc : ClassId} {z : Int32} {N : Nat} (A : Arr Z h a (newA kc ty z) ty) (hz : z.toInt = (N : Int)) : Al Z h a ty (List.replicate N (defaultValue ty)) := by
  have h1 : z.toNatClampNeg = N := by show z.toInt.toNat = N; omega
  have h2 := z.toInt_lt
  refine ⟨by simp; omega, _, A, ?_⟩
  simp [newA, h1]
theorem ne_al {a0 : Array Value} {a b : Addr} {C : String} {kk : Nat} {ty : FieldType} {vs : List Value} (F : Exa Z h a C) (wi : (Jvm.Cond.instantiable C kk).before a0 Z = true) (A : Al Z h b ty vs) : a ≠ b := by obtain ⟨-, c, A, -⟩ := A; exact ne_arr F wi A
theorem in_of {c : Cell} {vs : List Value} {j : Int32} {i : Nat} (r : c.slots = vs.toArray) (hj : j.toInt = (i : Int)) (hi : i < vs.length) : ¬ (j < 0 ∨ c.slots.size ≤ j.toNatClampNeg) := by
  have h1 : j.toNatClampNeg = i := by show j.toInt.toNat = i; omega
  rw [h1, r, Int32.lt_iff_toInt_lt]
  have z0 : (0 : Int32).toInt = 0 := rfl
  rw [z0]
  intro q
  rcases q with q | q
  · omega
  · rw [List.size_toArray] at q; omega
theorem at_of {c : Cell} {vs : List Value} {j : Int32} {i : Nat} {v : Value} (r : c.slots = vs.toArray) (hj : j.toInt = (i : Int)) (hv : vs[i]? = some v) : c.slots[j.toNatClampNeg]? = some v := by
  have h1 : j.toNatClampNeg = i := by show j.toInt.toNat = i; omega
  rw [h1, r]; simpa using hv
theorem Go.iaload {a : Addr} {vs : List Value} {j : Int32} {i : Nat} {v : Value} (hd : decode B pc = .ok (.iaload, 1)) (hp : pc + 1 = pc') (A : Al Z h a .int vs) (hj : j.toInt = (i : Int)) (hv : vs[i]? = some v) (g : Go Z l R B ml own rt mn pc' Ls (v :: rest) h L k n Q) : Go Z l R B ml own rt mn pc Ls (.int j :: .ref a :: rest) h L k n Q := by
  obtain ⟨q, c, A, r⟩ := A
  subst hp
  exact Go.stand (fun p e s m args below meth c' T t X hx hZ hB hown eT hr => X.iaload hx (j := j) (v := v) (by rw [eT]; exact A.1) (State.isArrayOf_alike hZ.alike A.2.1) A.2.2 (in_of r hj (List.getElem?_eq_some_iff.mp hv).1) (at_of r hj hv) (g := mkF m pc Ls (.int j :: .ref a :: rest)) rfl rfl (hb hB hd) _ hr) g
theorem Go.laload {a : Addr} {vs : List Value} {j : Int32} {i : Nat} {v : Value} (hd : decode B pc = .ok (.laload, 1)) (hp : pc + 1 = pc') (A : Al Z h a .long vs) (hj : j.toInt = (i : Int)) (hv : vs[i]? = some v) (g : Go Z l R B ml own rt mn pc' Ls (v :: rest) h L k n Q) : Go Z l R B ml own rt mn pc Ls (.int j :: .ref a :: rest) h L k n Q := by
  obtain ⟨q, c, A, r⟩ := A
  subst hp
  exact Go.stand (fun p e s m args below meth c' T t X hx hZ hB hown eT hr => X.laload hx (j := j) (v := v) (by rw [eT]; exact A.1) (State.isArrayOf_alike hZ.alike A.2.1) A.2.2 (in_of r hj (List.getElem?_eq_some_iff.mp hv).1) (at_of r hj hv) (g := mkF m pc Ls (.int j :: .ref a :: rest)) rfl rfl (hb hB hd) _ hr) g
theorem Go.baloadB {a : Addr} {vs : List Value} {j : Int32} {i : Nat} {v : Value} (hd : decode B pc = .ok (.baload, 1)) (hp : pc + 1 = pc') (A : Al Z h a .byte vs) (hj : j.toInt = (i : Int)) (hv : vs[i]? = some v) (g : Go Z l R B ml own rt mn pc' Ls (v :: rest) h L k n Q) : Go Z l R B ml own rt mn pc Ls (.int j :: .ref a :: rest) h L k n Q := by
  obtain ⟨q, c, A, r⟩ := A
  subst hp
  exact Go.stand (fun p e s m args below meth c' T t X hx hZ hB hown eT hr => X.baloadBytes hx (j := j) (v := v) (by rw [eT]; exact A.1) (State.isArrayOf_alike hZ.alike A.2.1) A.2.2 (in_of r hj (List.getElem?_eq_some_iff.mp hv).1) (at_of r hj hv) (g := mkF m pc Ls (.int j :: .ref a :: rest)) rfl rfl (hb hB hd) _ hr) g
theorem Go.baloadZ {a : Addr} {vs : List Value} {j : Int32} {i : Nat} {v : Value} (hd : decode B pc = .ok (.baload, 1)) (hp : pc + 1 = pc') (A : Al Z h a .boolean vs) (hj : j.toInt = (i : Int)) (hv : vs[i]? = some v) (g : Go Z l R B ml own rt mn pc' Ls (v :: rest) h L k n Q) : Go Z l R B ml own rt mn pc Ls (.int j :: .ref a :: rest) h L k n Q := by
  obtain ⟨q, c, A, r⟩ := A
  subst hp
  exact Go.stand (fun p e s m args below meth c' T t X hx hZ hB hown eT hr => X.baloadBooleans hx (j := j) (v := v) (by rw [eT]; exact A.1) (State.isArrayOf_alike hZ.alike A.2.1) A.2.2 (in_of r hj (List.getElem?_eq_some_iff.mp hv).1) (at_of r hj hv) (g := mkF m pc Ls (.int j :: .ref a :: rest)) rfl rfl (hb hB hd) _ hr) g
theorem Go.iastore {a : Addr} {vs vs' : List Value} {j : Int32} {x : Int32} {i : Nat} {v : Value} (hd : decode B pc = .ok (.iastore, 1)) (hp : pc + 1 = pc') (A : Al Z h a .int vs) (hj : j.toInt = (i : Int)) (hi : i < vs.length) (hv : .int x = v) (hs : vs.set i v = vs') (g : ∀ h' L', (∀ q, Fr q L → q ≤ a → Fr q L') → Wr h h' a i v → Al Z h' a .int vs' → Go Z l R B ml own rt mn pc' Ls rest h' L' k n Q) : Go Z l R B ml own rt mn pc Ls (.int x :: .int j :: .ref a :: rest) h L k n Q := by
  have A' := A
  obtain ⟨q, c, A, r⟩ := A
  subst hp hs
  intro p e s m args below meth c' T X hx hZ hby hml hown hrt hlk hnm eT
  obtain ⟨T', h', X', e', W', stp⟩ := stI X hx hZ eT A (j := j) (in_of r hj hi) (g := mkF m pc Ls (.int x :: .int j :: .ref a :: rest)) rfl rfl (hb hby hd)
  have h1 : j.toNatClampNeg = i := by show j.toInt.toNat = i; omega
  rw [h1] at X' W'
  subst hv
  obtain ⟨s₂, o, h1, h2⟩ := g h' _ (fun q N r => fr_one N r) W' (A'.set W') p e s m args below meth c' T' X' hx hZ hby hml hown hrt hlk hnm e'
  exact ⟨s₂, o, stp _ h1, h2⟩
theorem Go.lastore {a : Addr} {vs vs' : List Value} {j : Int32} {x : Int64} {i : Nat} {v : Value} (hd : decode B pc = .ok (.lastore, 1)) (hp : pc + 1 = pc') (A : Al Z h a .long vs) (hj : j.toInt = (i : Int)) (hi : i < vs.length) (hv : .long x = v) (hs : vs.set i v = vs') (g : ∀ h' L', (∀ q, Fr q L → q ≤ a → Fr q L') → Wr h h' a i v → Al Z h' a .long vs' → Go Z l R B ml own rt mn pc' Ls rest h' L' k n Q) : Go Z l R B ml own rt mn pc Ls (.long x :: .int j :: .ref a :: rest) h L k n Q := by
  have A' := A
  obtain ⟨q, c, A, r⟩ := A
  subst hp hs
  intro p e s m args below meth c' T X hx hZ hby hml hown hrt hlk hnm eT
  obtain ⟨T', h', X', e', W', stp⟩ := stJ X hx hZ eT A (j := j) (in_of r hj hi) (g := mkF m pc Ls (.long x :: .int j :: .ref a :: rest)) rfl rfl (hb hby hd)
  have h1 : j.toNatClampNeg = i := by show j.toInt.toNat = i; omega
  rw [h1] at X' W'
  subst hv
  obtain ⟨s₂, o, h1, h2⟩ := g h' _ (fun q N r => fr_one N r) W' (A'.set W') p e s m args below meth c' T' X' hx hZ hby hml hown hrt hlk hnm e'
  exact ⟨s₂, o, stp _ h1, h2⟩
theorem Go.bastoreB {a : Addr} {vs vs' : List Value} {j : Int32} {x : Int32} {i : Nat} {v : Value} (hd : decode B pc = .ok (.bastore, 1)) (hp : pc + 1 = pc') (A : Al Z h a .byte vs) (hj : j.toInt = (i : Int)) (hi : i < vs.length) (hv : .int (nar .byte x) = v) (hs : vs.set i v = vs') (g : ∀ h' L', (∀ q, Fr q L → q ≤ a → Fr q L') → Wr h h' a i v → Al Z h' a .byte vs' → Go Z l R B ml own rt mn pc' Ls rest h' L' k n Q) : Go Z l R B ml own rt mn pc Ls (.int x :: .int j :: .ref a :: rest) h L k n Q := by
  have A' := A
  obtain ⟨q, c, A, r⟩ := A
  subst hp hs
  intro p e s m args below meth c' T X hx hZ hby hml hown hrt hlk hnm eT
  obtain ⟨T', h', X', e', W', stp⟩ := stB X hx hZ eT A (j := j) (in_of r hj hi) (g := mkF m pc Ls (.int x :: .int j :: .ref a :: rest)) rfl rfl (hb hby hd)
  have h1 : j.toNatClampNeg = i := by show j.toInt.toNat = i; omega
  rw [h1] at X' W'
  subst hv
  obtain ⟨s₂, o, h1, h2⟩ := g h' _ (fun q N r => fr_one N r) W' (A'.set W') p e s m args below meth c' T' X' hx hZ hby hml hown hrt hlk hnm e'
  exact ⟨s₂, o, stp _ h1, h2⟩
theorem Go.bastoreZ {a : Addr} {vs vs' : List Value} {j : Int32} {x : Int32} {i : Nat} {v : Value} (hd : decode B pc = .ok (.bastore, 1)) (hp : pc + 1 = pc') (A : Al Z h a .boolean vs) (hj : j.toInt = (i : Int)) (hi : i < vs.length) (hv : .int (nar .boolean x) = v) (hs : vs.set i v = vs') (g : ∀ h' L', (∀ q, Fr q L → q ≤ a → Fr q L') → Wr h h' a i v → Al Z h' a .boolean vs' → Go Z l R B ml own rt mn pc' Ls rest h' L' k n Q) : Go Z l R B ml own rt mn pc Ls (.int x :: .int j :: .ref a :: rest) h L k n Q := by
  have A' := A
  obtain ⟨q, c, A, r⟩ := A
  subst hp hs
  intro p e s m args below meth c' T X hx hZ hby hml hown hrt hlk hnm eT
  obtain ⟨T', h', X', e', W', stp⟩ := stZ X hx hZ eT A (j := j) (in_of r hj hi) (g := mkF m pc Ls (.int x :: .int j :: .ref a :: rest)) rfl rfl (hb hby hd)
  have h1 : j.toNatClampNeg = i := by show j.toInt.toNat = i; omega
  rw [h1] at X' W'
  subst hv
  obtain ⟨s₂, o, h1, h2⟩ := g h' _ (fun q N r => fr_one N r) W' (A'.set W') p e s m args below meth c' T' X' hx hZ hby hml hown hrt hlk hnm e'
  exact ⟨s₂, o, stp _ h1, h2⟩
theorem Go.arraylength {a : Addr} {ty : FieldType} {vs : List Value} {z : Int32} (hd : decode B pc = .ok (.arraylength, 1)) (hp : pc + 1 = pc') (A : Al Z h a ty vs) (hz : vs.length.toInt32 = z) (g : Go Z l R B ml own rt mn pc' Ls (.int z :: rest) h L k n Q) : Go Z l R B ml own rt mn pc Ls (.ref a :: rest) h L k n Q := by
  obtain ⟨q, c, A, r⟩ := A
  subst hp hz
  refine Go.stand (fun p e s m args below meth c' T t X hx hZ hB hown eT hr => X.arraylength hx (by rw [eT]; exact A.1) (State.isArrayOf_alike hZ.alike A.2.1) (g := mkF m pc Ls (.ref a :: rest)) rfl rfl (hb hB hd) _ ?_) g
  rw [r]; simpa using hr
theorem Go.new_int {a0 : Array Value} {z : Int32} {N : Nat} {k' n' : Nat} {vs : List Value} (hd : decode B pc = .ok (.newarray .int, 2)) (hp : pc + 2 = pc') (w : (Jvm.Cond.arrayClass (.int)).before a0 Z = true) (hz : z.toInt = (N : Int)) (hvs : List.replicate N (defaultValue .int) = vs) (cap : Nat) (hcap : N ≤ cap) (h8 : cap * 8 ≤ 536870912) (hc : k + 1 ≤ R.cells) (hl : n + cap ≤ R.slots) (hk' : k + 1 = k') (hn' : n + cap = n')
    (g : ∀ h' a, a = h.size → Ext h h' → Al Z h' a .int vs → Go Z l R B ml own rt mn pc' Ls (.ref a :: rest) h' L k' n' Q) : Go Z l R B ml own rt mn pc Ls (.int z :: rest) h L k n Q := by
  subst hp hk' hn' hvs
  intro p e s m args below meth c T X hx hZ hby hml hown hrt hlk hnm eT
  have hz0 : ¬ z < 0 := by
    rw [Int32.lt_iff_toInt_lt]; have z0 : (0 : Int32).toInt = 0 := rfl
    omega
  obtain ⟨T', h', cA, X', e', E', A', stp⟩ := newP X hx hZ (aty := .int) w eT (g := mkF m pc Ls (.int z :: rest)) rfl (hb hby hd) rfl hz0 (cap := cap) (by show z.toInt.toNat ≤ cap; omega) h8 hc hl
  obtain ⟨s₂, o, h1, h2⟩ := g h' _ rfl E' (Al.new A' hz) p e s m args below meth c T' X' hx hZ hby hml hown hrt hlk hnm e'
  exact ⟨s₂, o, stp _ h1, h2⟩
theorem Go.new_long {a0 : Array Value} {z : Int32} {N : Nat} {k' n' : Nat} {vs : List Value} (hd : decode B pc = .ok (.newarray .long, 2)) (hp : pc + 2 = pc') (w : (Jvm.Cond.arrayClass (.long)).before a0 Z = true) (hz : z.toInt = (N : Int)) (hvs : List.replicate N (defaultValue .long) = vs) (cap : Nat) (hcap : N ≤ cap) (h8 : cap * 8 ≤ 536870912) (hc : k + 1 ≤ R.cells) (hl : n + cap ≤ R.slots) (hk' : k + 1 = k') (hn' : n + cap = n')
    (g : ∀ h' a, a = h.size → Ext h h' → Al Z h' a .long vs → Go Z l R B ml own rt mn pc' Ls (.ref a :: rest) h' L k' n' Q) : Go Z l R B ml own rt mn pc Ls (.int z :: rest) h L k n Q := by
  subst hp hk' hn' hvs
  intro p e s m args below meth c T X hx hZ hby hml hown hrt hlk hnm eT
  have hz0 : ¬ z < 0 := by
    rw [Int32.lt_iff_toInt_lt]; have z0 : (0 : Int32).toInt = 0 := rfl
    omega
  obtain ⟨T', h', cA, X', e', E', A', stp⟩ := newP X hx hZ (aty := .long) w eT (g := mkF m pc Ls (.int z :: rest)) rfl (hb hby hd) rfl hz0 (cap := cap) (by show z.toInt.toNat ≤ cap; omega) h8 hc hl
  obtain ⟨s₂, o, h1, h2⟩ := g h' _ rfl E' (Al.new A' hz) p e s m args below meth c T' X' hx hZ hby hml hown hrt hlk hnm e'
  exact ⟨s₂, o, stp _ h1, h2⟩
theorem Go.new_byte {a0 : Array Value} {z : Int32} {N : Nat} {k' n' : Nat} {vs : List Value} (hd : decode B pc = .ok (.newarray .byte, 2)) (hp : pc + 2 = pc') (w : (Jvm.Cond.arrayClass (.byte)).before a0 Z = true) (hz : z.toInt = (N : Int)) (hvs : List.replicate N (defaultValue .byte) = vs) (cap : Nat) (hcap : N ≤ cap) (h8 : cap * 8 ≤ 536870912) (hc : k + 1 ≤ R.cells) (hl : n + cap ≤ R.slots) (hk' : k + 1 = k') (hn' : n + cap = n')
    (g : ∀ h' a, a = h.size → Ext h h' → Al Z h' a .byte vs → Go Z l R B ml own rt mn pc' Ls (.ref a :: rest) h' L k' n' Q) : Go Z l R B ml own rt mn pc Ls (.int z :: rest) h L k n Q := by
  subst hp hk' hn' hvs
  intro p e s m args below meth c T X hx hZ hby hml hown hrt hlk hnm eT
  have hz0 : ¬ z < 0 := by
    rw [Int32.lt_iff_toInt_lt]; have z0 : (0 : Int32).toInt = 0 := rfl
    omega
  obtain ⟨T', h', cA, X', e', E', A', stp⟩ := newP X hx hZ (aty := .byte) w eT (g := mkF m pc Ls (.int z :: rest)) rfl (hb hby hd) rfl hz0 (cap := cap) (by show z.toInt.toNat ≤ cap; omega) h8 hc hl
  obtain ⟨s₂, o, h1, h2⟩ := g h' _ rfl E' (Al.new A' hz) p e s m args below meth c T' X' hx hZ hby hml hown hrt hlk hnm e'
  exact ⟨s₂, o, stp _ h1, h2⟩
theorem Go.new_boolean {a0 : Array Value} {z : Int32} {N : Nat} {k' n' : Nat} {vs : List Value} (hd : decode B pc = .ok (.newarray .boolean, 2)) (hp : pc + 2 = pc') (w : (Jvm.Cond.arrayClass (.boolean)).before a0 Z = true) (hz : z.toInt = (N : Int)) (hvs : List.replicate N (defaultValue .boolean) = vs) (cap : Nat) (hcap : N ≤ cap) (h8 : cap * 8 ≤ 536870912) (hc : k + 1 ≤ R.cells) (hl : n + cap ≤ R.slots) (hk' : k + 1 = k') (hn' : n + cap = n')
    (g : ∀ h' a, a = h.size → Ext h h' → Al Z h' a .boolean vs → Go Z l R B ml own rt mn pc' Ls (.ref a :: rest) h' L k' n' Q) : Go Z l R B ml own rt mn pc Ls (.int z :: rest) h L k n Q := by
  subst hp hk' hn' hvs
  intro p e s m args below meth c T X hx hZ hby hml hown hrt hlk hnm eT
  have hz0 : ¬ z < 0 := by
    rw [Int32.lt_iff_toInt_lt]; have z0 : (0 : Int32).toInt = 0 := rfl
    omega
  obtain ⟨T', h', cA, X', e', E', A', stp⟩ := newP X hx hZ (aty := .boolean) w eT (g := mkF m pc Ls (.int z :: rest)) rfl (hb hby hd) rfl hz0 (cap := cap) (by show z.toInt.toNat ≤ cap; omega) h8 hc hl
  obtain ⟨s₂, o, h1, h2⟩ := g h' _ rfl E' (Al.new A' hz) p e s m args below meth c T' X' hx hZ hby hml hown hrt hlk hnm e'
  exact ⟨s₂, o, stp _ h1, h2⟩
theorem iadd_eq {x y : Int32} (h1 : -2147483648 ≤ x.toInt + y.toInt) (h2 : x.toInt + y.toInt < 2147483648) : (x + y).toInt = x.toInt + y.toInt := by
  have e := c_iadd x y
  have r := rng32 (x + y)
  omega
theorem isub_eq {x y : Int32} (h1 : -2147483648 ≤ x.toInt - y.toInt) (h2 : x.toInt - y.toInt < 2147483648) : (x - y).toInt = x.toInt - y.toInt := by
  have e := c_isub x y
  have r := rng32 (x - y)
  omega
theorem ladd_eq {x y : Int64} (h1 : -9223372036854775808 ≤ x.toInt + y.toInt) (h2 : x.toInt + y.toInt < 9223372036854775808) : (x + y).toInt = x.toInt + y.toInt := by
  have e := c_ladd x y
  have r := rng64 (x + y)
  omega
theorem lsub_eq {x y : Int64} (h1 : -9223372036854775808 ≤ x.toInt - y.toInt) (h2 : x.toInt - y.toInt < 9223372036854775808) : (x - y).toInt = x.toInt - y.toInt := by
  have e := c_lsub x y
  have r := rng64 (x - y)
  omega
theorem irem_bd {x y : Int32} (h1 : 0 ≤ x.toInt) (h2 : 0 < y.toInt) : 0 ≤ (x % y).toInt ∧ (x % y).toInt < y.toInt ∧ (x % y).toInt ≤ x.toInt := by
  have q := (c_iremV x y).1 h1 h2
  exact ⟨q.1, q.2.1, q.2.2.1⟩
theorem mask31 (x : Int32) : 0 ≤ (x &&& (2147483647 : Int32)).toInt ∧ (x &&& (2147483647 : Int32)).toInt ≤ 2147483647 := by
  have q := c_and x (2147483647 : Int32) (by decide)
  have k : (2147483647 : Int32).toInt = 2147483647 := by decide
  omega
theorem nar_b8 (x : Int32) : nar .byte x.toInt8.toInt32 = x.toInt8.toInt32 := by
  show x.toInt8.toInt32.toInt8.toInt32 = x.toInt8.toInt32
  rw [Int8.toInt8_toInt32]
end Rules
end Jvm.OwnKit
namespace Jvm.Pilot.@@N@@
open Jvm Jvm.ClassFile Sem Op Lib Jvm.Free Jvm.Stand Jvm.LawKit Jvm.RoadKit Jvm.OwnKit Bundle Jvm.Pilot.@@N@@.Jvm.D
theorem w0 : (Jvm.Cond.constant "com/example/mixed_urn/mixedurn/index/ByteReaderReadNumberPinLaw" (7 : Nat) (2147483647 : Int32)) ∈ tables_1 := List.mem_of_getElem? (i := 0) rfl
theorem w1 : (Jvm.Cond.arrayClass Jvm.ClassFile.FieldType.byte) ∈ tables_1 := List.mem_of_getElem? (i := 1) rfl
theorem w2 : (Jvm.Cond.methodLink "com/example/mixed_urn/mixedurn/index/ByteReaderReadNumberPinLaw" (8 : Nat) ({ cls := "com/example/mixed_urn/mixedurn/index/ByteReaderReadNumberPinLaw", name := "at", desc := "(IJII)B" } : Jvm.MethodName)) ∈ tables_1 := List.mem_of_getElem? (i := 2) rfl
theorem w3 : (Jvm.Cond.static ({ cls := "com/example/mixed_urn/mixedurn/index/ByteReaderReadNumberPinLaw", name := "at", desc := "(IJII)B" } : Jvm.MethodName)) ∈ tables_1 := List.mem_of_getElem? (i := 3) rfl
theorem w4 : (Jvm.Cond.initialized "com/example/mixed_urn/mixedurn/index/ByteReaderReadNumberPinLaw") ∈ tables_1 := List.mem_of_getElem? (i := 4) rfl
theorem w5 : (Jvm.Cond.code ({ cls := "com/example/mixed_urn/mixedurn/index/ByteReaderReadNumberPinLaw", name := "at", desc := "(IJII)B" } : Jvm.MethodName) method_3_code (7 : Nat) (Option.some Jvm.ClassFile.FieldType.byte)) ∈ tables_1 := List.mem_of_getElem? (i := 5) rfl
theorem w6 : (Jvm.Cond.constantLong "com/example/mixed_urn/mixedurn/index/ByteReaderReadNumberPinLaw" (31 : Nat) (127 : Int64)) ∈ tables_1 := List.mem_of_getElem? (i := 6) rfl
theorem w7 : (Jvm.Cond.constantLong "com/example/mixed_urn/mixedurn/index/ByteReaderReadNumberPinLaw" (33 : Nat) (128 : Int64)) ∈ tables_1 := List.mem_of_getElem? (i := 7) rfl
theorem w8 : (Jvm.Cond.classLink "com/example/mixed_urn/mixedurn/index/ByteReaderReadNumberPinLaw" (14 : Nat) "com/example/mixed_urn/mixedurn/index/ByteReader") ∈ tables_1 := List.mem_of_getElem? (i := 8) rfl
theorem w9 : (Jvm.Cond.instantiable "com/example/mixed_urn/mixedurn/index/ByteReader" (3 : Nat)) ∈ tables_1 := List.mem_of_getElem? (i := 9) rfl
theorem w10 : (Jvm.Cond.initialized "com/example/mixed_urn/mixedurn/index/ByteReader") ∈ tables_1 := List.mem_of_getElem? (i := 10) rfl
theorem w11 : (Jvm.Cond.methodLink "com/example/mixed_urn/mixedurn/index/ByteReaderReadNumberPinLaw" (16 : Nat) ({ cls := "com/example/mixed_urn/mixedurn/index/ByteReader", name := "<init>", desc := "([BII)V" } : Jvm.MethodName)) ∈ tables_1 := List.mem_of_getElem? (i := 11) rfl
theorem w12 : (Jvm.Cond.instanceMethod ({ cls := "com/example/mixed_urn/mixedurn/index/ByteReader", name := "<init>", desc := "([BII)V" } : Jvm.MethodName)) ∈ tables_1 := List.mem_of_getElem? (i := 12) rfl
theorem w13 : (Jvm.Cond.code ({ cls := "com/example/mixed_urn/mixedurn/index/ByteReader", name := "<init>", desc := "([BII)V" } : Jvm.MethodName) prog_29_method_1_code (4 : Nat) (Option.none : Option Jvm.ClassFile.FieldType)) ∈ tables_1 := List.mem_of_getElem? (i := 13) rfl
theorem w14 : (Jvm.Cond.methodLink "com/example/mixed_urn/mixedurn/index/ByteReader" (1 : Nat) ({ cls := "java/lang/Object", name := "<init>", desc := "()V" } : Jvm.MethodName)) ∈ tables_1 := List.mem_of_getElem? (i := 14) rfl
theorem w15 : (Jvm.Cond.instanceMethod ({ cls := "java/lang/Object", name := "<init>", desc := "()V" } : Jvm.MethodName)) ∈ tables_1 := List.mem_of_getElem? (i := 15) rfl
theorem w16 : (Jvm.Cond.code ({ cls := "java/lang/Object", name := "<init>", desc := "()V" } : Jvm.MethodName) object_method_1_code (1 : Nat) (Option.none : Option Jvm.ClassFile.FieldType)) ∈ tables_1 := List.mem_of_getElem? (i := 16) rfl
theorem w17 : (Jvm.Cond.fieldLink "com/example/mixed_urn/mixedurn/index/ByteReader" (7 : Nat) "com/example/mixed_urn/mixedurn/index/ByteReader" "bytes" "[B") ∈ tables_1 := List.mem_of_getElem? (i := 17) rfl
theorem w18 : (Jvm.Cond.laysFinal "com/example/mixed_urn/mixedurn/index/ByteReader" "com/example/mixed_urn/mixedurn/index/ByteReader" "bytes" "[B") ∈ tables_1 := List.mem_of_getElem? (i := 18) rfl
theorem w19 : (Jvm.Cond.fieldLink "com/example/mixed_urn/mixedurn/index/ByteReader" (13 : Nat) "com/example/mixed_urn/mixedurn/index/ByteReader" "position" "I") ∈ tables_1 := List.mem_of_getElem? (i := 19) rfl
theorem w20 : (Jvm.Cond.lays "com/example/mixed_urn/mixedurn/index/ByteReader" "com/example/mixed_urn/mixedurn/index/ByteReader" "position" "I") ∈ tables_1 := List.mem_of_getElem? (i := 20) rfl
theorem w21 : (Jvm.Cond.fieldLink "com/example/mixed_urn/mixedurn/index/ByteReader" (17 : Nat) "com/example/mixed_urn/mixedurn/index/ByteReader" "end" "I") ∈ tables_1 := List.mem_of_getElem? (i := 21) rfl
theorem w22 : (Jvm.Cond.laysFinal "com/example/mixed_urn/mixedurn/index/ByteReader" "com/example/mixed_urn/mixedurn/index/ByteReader" "end" "I") ∈ tables_1 := List.mem_of_getElem? (i := 22) rfl
theorem w23 : (Jvm.Cond.methodLink "com/example/mixed_urn/mixedurn/index/ByteReaderReadNumberPinLaw" (19 : Nat) ({ cls := "com/example/mixed_urn/mixedurn/index/ByteReader", name := "readNumber", desc := "()J" } : Jvm.MethodName)) ∈ tables_1 := List.mem_of_getElem? (i := 23) rfl
theorem w24 : (Jvm.Cond.declares ({ cls := "com/example/mixed_urn/mixedurn/index/ByteReader", name := "readNumber", desc := "()J" } : Jvm.MethodName)) ∈ tables_1 := List.mem_of_getElem? (i := 24) rfl
theorem w25 : (Jvm.Cond.instanceMethod ({ cls := "com/example/mixed_urn/mixedurn/index/ByteReader", name := "readNumber", desc := "()J" } : Jvm.MethodName)) ∈ tables_1 := List.mem_of_getElem? (i := 25) rfl
theorem w26 : (Jvm.Cond.selects "com/example/mixed_urn/mixedurn/index/ByteReader" ({ cls := "com/example/mixed_urn/mixedurn/index/ByteReader", name := "readNumber", desc := "()J" } : Jvm.MethodName) ({ cls := "com/example/mixed_urn/mixedurn/index/ByteReader", name := "readNumber", desc := "()J" } : Jvm.MethodName)) ∈ tables_1 := List.mem_of_getElem? (i := 26) rfl
theorem w27 : (Jvm.Cond.code ({ cls := "com/example/mixed_urn/mixedurn/index/ByteReader", name := "readNumber", desc := "()J" } : Jvm.MethodName) prog_29_method_8_code (5 : Nat) (Option.some Jvm.ClassFile.FieldType.long)) ∈ tables_1 := List.mem_of_getElem? (i := 27) rfl
theorem w28 : (Jvm.Cond.methodLink "com/example/mixed_urn/mixedurn/index/ByteReader" (20 : Nat) ({ cls := "com/example/mixed_urn/mixedurn/index/ByteReader", name := "require", desc := "(J)V" } : Jvm.MethodName)) ∈ tables_1 := List.mem_of_getElem? (i := 28) rfl
theorem w29 : (Jvm.Cond.instanceMethod ({ cls := "com/example/mixed_urn/mixedurn/index/ByteReader", name := "require", desc := "(J)V" } : Jvm.MethodName)) ∈ tables_1 := List.mem_of_getElem? (i := 29) rfl
theorem w30 : (Jvm.Cond.privateMethod ({ cls := "com/example/mixed_urn/mixedurn/index/ByteReader", name := "require", desc := "(J)V" } : Jvm.MethodName)) ∈ tables_1 := List.mem_of_getElem? (i := 30) rfl
theorem w31 : (Jvm.Cond.code ({ cls := "com/example/mixed_urn/mixedurn/index/ByteReader", name := "require", desc := "(J)V" } : Jvm.MethodName) prog_29_method_13_code (3 : Nat) (Option.none : Option Jvm.ClassFile.FieldType)) ∈ tables_1 := List.mem_of_getElem? (i := 31) rfl
theorem w32 : (Jvm.Cond.methodLink "com/example/mixed_urn/mixedurn/index/ByteReaderReadNumberPinLaw" (23 : Nat) ({ cls := "com/example/mixed_urn/mixedurn/index/ByteReader", name := "position", desc := "()I" } : Jvm.MethodName)) ∈ tables_1 := List.mem_of_getElem? (i := 32) rfl
theorem w33 : (Jvm.Cond.declares ({ cls := "com/example/mixed_urn/mixedurn/index/ByteReader", name := "position", desc := "()I" } : Jvm.MethodName)) ∈ tables_1 := List.mem_of_getElem? (i := 33) rfl
theorem w34 : (Jvm.Cond.instanceMethod ({ cls := "com/example/mixed_urn/mixedurn/index/ByteReader", name := "position", desc := "()I" } : Jvm.MethodName)) ∈ tables_1 := List.mem_of_getElem? (i := 34) rfl
theorem w35 : (Jvm.Cond.selects "com/example/mixed_urn/mixedurn/index/ByteReader" ({ cls := "com/example/mixed_urn/mixedurn/index/ByteReader", name := "position", desc := "()I" } : Jvm.MethodName) ({ cls := "com/example/mixed_urn/mixedurn/index/ByteReader", name := "position", desc := "()I" } : Jvm.MethodName)) ∈ tables_1 := List.mem_of_getElem? (i := 35) rfl
theorem w36 : (Jvm.Cond.code ({ cls := "com/example/mixed_urn/mixedurn/index/ByteReader", name := "position", desc := "()I" } : Jvm.MethodName) prog_29_method_2_code (1 : Nat) (Option.some Jvm.ClassFile.FieldType.int)) ∈ tables_1 := List.mem_of_getElem? (i := 36) rfl
theorem w37 : (Jvm.Cond.methodLink "com/example/mixed_urn/mixedurn/index/ByteReaderReadNumberPinLaw" (27 : Nat) ({ cls := "com/example/mixed_urn/mixedurn/index/ByteReader", name := "hasRemaining", desc := "()Z" } : Jvm.MethodName)) ∈ tables_1 := List.mem_of_getElem? (i := 37) rfl
theorem w38 : (Jvm.Cond.declares ({ cls := "com/example/mixed_urn/mixedurn/index/ByteReader", name := "hasRemaining", desc := "()Z" } : Jvm.MethodName)) ∈ tables_1 := List.mem_of_getElem? (i := 38) rfl
theorem w39 : (Jvm.Cond.instanceMethod ({ cls := "com/example/mixed_urn/mixedurn/index/ByteReader", name := "hasRemaining", desc := "()Z" } : Jvm.MethodName)) ∈ tables_1 := List.mem_of_getElem? (i := 39) rfl
theorem w40 : (Jvm.Cond.selects "com/example/mixed_urn/mixedurn/index/ByteReader" ({ cls := "com/example/mixed_urn/mixedurn/index/ByteReader", name := "hasRemaining", desc := "()Z" } : Jvm.MethodName) ({ cls := "com/example/mixed_urn/mixedurn/index/ByteReader", name := "hasRemaining", desc := "()Z" } : Jvm.MethodName)) ∈ tables_1 := List.mem_of_getElem? (i := 40) rfl
theorem w41 : (Jvm.Cond.code ({ cls := "com/example/mixed_urn/mixedurn/index/ByteReader", name := "hasRemaining", desc := "()Z" } : Jvm.MethodName) prog_29_method_3_code (1 : Nat) (Option.some Jvm.ClassFile.FieldType.boolean)) ∈ tables_1 := List.mem_of_getElem? (i := 41) rfl
theorem d1_0 : decode method_3_code 0 = .ok (.iload_n 0, 1) := by decide +kernel
theorem d1_1 : decode method_3_code 1 = .ok (.ifCond .lt 8, 3) := by decide +kernel
theorem d1_4 : decode method_3_code 4 = .ok (.iload_n 0, 1) := by decide +kernel
theorem d1_5 : decode method_3_code 5 = .ok (.iload_n 3, 1) := by decide +kernel
theorem d1_6 : decode method_3_code 6 = .ok (.if_icmp .lt 7, 3) := by decide +kernel
theorem d1_9 : decode method_3_code 9 = .ok (.iload 4, 2) := by decide +kernel
theorem d1_11 : decode method_3_code 11 = .ok (.i2b, 1) := by decide +kernel
theorem d1_12 : decode method_3_code 12 = .ok (.ireturn, 1) := by decide +kernel
theorem d1_13 : decode method_3_code 13 = .ok (.lload_n 1, 1) := by decide +kernel
theorem d1_14 : decode method_3_code 14 = .ok (.bipush 7, 2) := by decide +kernel
theorem d1_16 : decode method_3_code 16 = .ok (.iload_n 0, 1) := by decide +kernel
theorem d1_17 : decode method_3_code 17 = .ok (.imul, 1) := by decide +kernel
theorem d1_18 : decode method_3_code 18 = .ok (.lushr, 1) := by decide +kernel
theorem d1_19 : decode method_3_code 19 = .ok (.ldc2_w 31, 3) := by decide +kernel
theorem d1_22 : decode method_3_code 22 = .ok (.land, 1) := by decide +kernel
theorem d1_23 : decode method_3_code 23 = .ok (.lstore 5, 2) := by decide +kernel
theorem d1_25 : decode method_3_code 25 = .ok (.iload_n 0, 1) := by decide +kernel
theorem d1_26 : decode method_3_code 26 = .ok (.iload_n 3, 1) := by decide +kernel
theorem d1_27 : decode method_3_code 27 = .ok (.iconst 1, 1) := by decide +kernel
theorem d1_28 : decode method_3_code 28 = .ok (.isub, 1) := by decide +kernel
theorem d1_29 : decode method_3_code 29 = .ok (.if_icmp .ge 12, 3) := by decide +kernel
theorem d1_32 : decode method_3_code 32 = .ok (.lload 5, 2) := by decide +kernel
theorem d1_34 : decode method_3_code 34 = .ok (.ldc2_w 33, 3) := by decide +kernel
theorem d1_37 : decode method_3_code 37 = .ok (.lor, 1) := by decide +kernel
theorem d1_38 : decode method_3_code 38 = .ok (.l2i, 1) := by decide +kernel
theorem d1_39 : decode method_3_code 39 = .ok (.i2b, 1) := by decide +kernel
theorem d1_40 : decode method_3_code 40 = .ok (.ireturn, 1) := by decide +kernel
theorem d1_41 : decode method_3_code 41 = .ok (.lload 5, 2) := by decide +kernel
theorem d1_43 : decode method_3_code 43 = .ok (.l2i, 1) := by decide +kernel
theorem d1_44 : decode method_3_code 44 = .ok (.i2b, 1) := by decide +kernel
theorem d1_45 : decode method_3_code 45 = .ok (.ireturn, 1) := by decide +kernel
theorem d2_0 : decode prog_29_method_1_code 0 = .ok (.aload_n 0, 1) := by decide +kernel
theorem d2_1 : decode prog_29_method_1_code 1 = .ok (.invokespecial 1, 3) := by decide +kernel
theorem d2_4 : decode prog_29_method_1_code 4 = .ok (.aload_n 0, 1) := by decide +kernel
theorem d2_5 : decode prog_29_method_1_code 5 = .ok (.aload_n 1, 1) := by decide +kernel
theorem d2_6 : decode prog_29_method_1_code 6 = .ok (.putfield 7, 3) := by decide +kernel
theorem d2_9 : decode prog_29_method_1_code 9 = .ok (.aload_n 0, 1) := by decide +kernel
theorem d2_10 : decode prog_29_method_1_code 10 = .ok (.iload_n 2, 1) := by decide +kernel
theorem d2_11 : decode prog_29_method_1_code 11 = .ok (.putfield 13, 3) := by decide +kernel
theorem d2_14 : decode prog_29_method_1_code 14 = .ok (.aload_n 0, 1) := by decide +kernel
theorem d2_15 : decode prog_29_method_1_code 15 = .ok (.iload_n 2, 1) := by decide +kernel
theorem d2_16 : decode prog_29_method_1_code 16 = .ok (.iload_n 3, 1) := by decide +kernel
theorem d2_17 : decode prog_29_method_1_code 17 = .ok (.iadd, 1) := by decide +kernel
theorem d2_18 : decode prog_29_method_1_code 18 = .ok (.putfield 17, 3) := by decide +kernel
theorem d2_21 : decode prog_29_method_1_code 21 = .ok (.return_, 1) := by decide +kernel
theorem d4_0 : decode prog_29_method_8_code 0 = .ok (.lconst 0, 1) := by decide +kernel
theorem d4_1 : decode prog_29_method_8_code 1 = .ok (.lstore_n 1, 1) := by decide +kernel
theorem d4_2 : decode prog_29_method_8_code 2 = .ok (.iconst 0, 1) := by decide +kernel
theorem d4_3 : decode prog_29_method_8_code 3 = .ok (.istore_n 3, 1) := by decide +kernel
theorem d4_4 : decode prog_29_method_8_code 4 = .ok (.iload_n 3, 1) := by decide +kernel
theorem d4_5 : decode prog_29_method_8_code 5 = .ok (.bipush 64, 2) := by decide +kernel
theorem d4_7 : decode prog_29_method_8_code 7 = .ok (.if_icmp .lt 13, 3) := by decide +kernel
theorem d4_20 : decode prog_29_method_8_code 20 = .ok (.aload_n 0, 1) := by decide +kernel
theorem d4_21 : decode prog_29_method_8_code 21 = .ok (.lconst 1, 1) := by decide +kernel
theorem d4_22 : decode prog_29_method_8_code 22 = .ok (.invokevirtual 20, 3) := by decide +kernel
theorem d4_25 : decode prog_29_method_8_code 25 = .ok (.aload_n 0, 1) := by decide +kernel
theorem d4_26 : decode prog_29_method_8_code 26 = .ok (.getfield 7, 3) := by decide +kernel
theorem d4_29 : decode prog_29_method_8_code 29 = .ok (.aload_n 0, 1) := by decide +kernel
theorem d4_30 : decode prog_29_method_8_code 30 = .ok (.dup, 1) := by decide +kernel
theorem d4_31 : decode prog_29_method_8_code 31 = .ok (.getfield 13, 3) := by decide +kernel
theorem d4_34 : decode prog_29_method_8_code 34 = .ok (.dup_x1, 1) := by decide +kernel
theorem d4_35 : decode prog_29_method_8_code 35 = .ok (.iconst 1, 1) := by decide +kernel
theorem d4_36 : decode prog_29_method_8_code 36 = .ok (.iadd, 1) := by decide +kernel
theorem d4_37 : decode prog_29_method_8_code 37 = .ok (.putfield 13, 3) := by decide +kernel
theorem d4_40 : decode prog_29_method_8_code 40 = .ok (.baload, 1) := by decide +kernel
theorem d4_41 : decode prog_29_method_8_code 41 = .ok (.istore 4, 2) := by decide +kernel
theorem d4_43 : decode prog_29_method_8_code 43 = .ok (.lload_n 1, 1) := by decide +kernel
theorem d4_44 : decode prog_29_method_8_code 44 = .ok (.iload 4, 2) := by decide +kernel
theorem d4_46 : decode prog_29_method_8_code 46 = .ok (.bipush 127, 2) := by decide +kernel
theorem d4_48 : decode prog_29_method_8_code 48 = .ok (.iand, 1) := by decide +kernel
theorem d4_49 : decode prog_29_method_8_code 49 = .ok (.i2l, 1) := by decide +kernel
theorem d4_50 : decode prog_29_method_8_code 50 = .ok (.iload_n 3, 1) := by decide +kernel
theorem d4_51 : decode prog_29_method_8_code 51 = .ok (.lshl, 1) := by decide +kernel
theorem d4_52 : decode prog_29_method_8_code 52 = .ok (.lor, 1) := by decide +kernel
theorem d4_53 : decode prog_29_method_8_code 53 = .ok (.lstore_n 1, 1) := by decide +kernel
theorem d4_54 : decode prog_29_method_8_code 54 = .ok (.iinc 3 7, 3) := by decide +kernel
theorem d4_57 : decode prog_29_method_8_code 57 = .ok (.iload 4, 2) := by decide +kernel
theorem d4_59 : decode prog_29_method_8_code 59 = .ok (.ifCond .lt (-55), 3) := by decide +kernel
theorem d4_62 : decode prog_29_method_8_code 62 = .ok (.lload_n 1, 1) := by decide +kernel
theorem d4_63 : decode prog_29_method_8_code 63 = .ok (.lreturn, 1) := by decide +kernel
theorem d5_0 : decode prog_29_method_13_code 0 = .ok (.lload_n 1, 1) := by decide +kernel
theorem d5_1 : decode prog_29_method_13_code 1 = .ok (.lconst 0, 1) := by decide +kernel
theorem d5_2 : decode prog_29_method_13_code 2 = .ok (.lcmp, 1) := by decide +kernel
theorem d5_3 : decode prog_29_method_13_code 3 = .ok (.ifCond .lt 18, 3) := by decide +kernel
theorem d5_6 : decode prog_29_method_13_code 6 = .ok (.lload_n 1, 1) := by decide +kernel
theorem d5_7 : decode prog_29_method_13_code 7 = .ok (.aload_n 0, 1) := by decide +kernel
theorem d5_8 : decode prog_29_method_13_code 8 = .ok (.getfield 17, 3) := by decide +kernel
theorem d5_11 : decode prog_29_method_13_code 11 = .ok (.aload_n 0, 1) := by decide +kernel
theorem d5_12 : decode prog_29_method_13_code 12 = .ok (.getfield 13, 3) := by decide +kernel
theorem d5_15 : decode prog_29_method_13_code 15 = .ok (.isub, 1) := by decide +kernel
theorem d5_16 : decode prog_29_method_13_code 16 = .ok (.i2l, 1) := by decide +kernel
theorem d5_17 : decode prog_29_method_13_code 17 = .ok (.lcmp, 1) := by decide +kernel
theorem d5_18 : decode prog_29_method_13_code 18 = .ok (.ifCond .le 26, 3) := by decide +kernel
theorem d5_44 : decode prog_29_method_13_code 44 = .ok (.return_, 1) := by decide +kernel
theorem d6_0 : decode prog_29_method_2_code 0 = .ok (.aload_n 0, 1) := by decide +kernel
theorem d6_1 : decode prog_29_method_2_code 1 = .ok (.getfield 13, 3) := by decide +kernel
theorem d6_4 : decode prog_29_method_2_code 4 = .ok (.ireturn, 1) := by decide +kernel
theorem d7_0 : decode prog_29_method_3_code 0 = .ok (.aload_n 0, 1) := by decide +kernel
theorem d7_1 : decode prog_29_method_3_code 1 = .ok (.getfield 13, 3) := by decide +kernel
theorem d7_4 : decode prog_29_method_3_code 4 = .ok (.aload_n 0, 1) := by decide +kernel
theorem d7_5 : decode prog_29_method_3_code 5 = .ok (.getfield 17, 3) := by decide +kernel
theorem d7_8 : decode prog_29_method_3_code 8 = .ok (.if_icmp .ge 7, 3) := by decide +kernel
theorem d7_11 : decode prog_29_method_3_code 11 = .ok (.iconst 1, 1) := by decide +kernel
theorem d7_12 : decode prog_29_method_3_code 12 = .ok (.goto 4, 3) := by decide +kernel
theorem d7_15 : decode prog_29_method_3_code 15 = .ok (.iconst 0, 1) := by decide +kernel
theorem d7_16 : decode prog_29_method_3_code 16 = .ok (.ireturn, 1) := by decide +kernel
theorem pd__28_29I : parseMethodDescriptor "()I" = some ⟨[], some .int⟩ := by decide +kernel
theorem pd__28_29J : parseMethodDescriptor "()J" = some ⟨[], some .long⟩ := by decide +kernel
theorem pd__28_29Z : parseMethodDescriptor "()Z" = some ⟨[], some .boolean⟩ := by decide +kernel
theorem pd__28IJII_29B : parseMethodDescriptor "(IJII)B" = some ⟨[.int, .long, .int, .int], some .byte⟩ := by decide +kernel
theorem pd__28J_29V : parseMethodDescriptor "(J)V" = some ⟨[.long], none⟩ := by decide +kernel
theorem pd__28_5bBII_29V : parseMethodDescriptor "([BII)V" = some ⟨[(.array .byte), .int, .int], none⟩ := by decide +kernel
set_option maxRecDepth 65536 in
set_option maxHeartbeats 40000000 in
theorem c_init {l : Launch} {Z : State} {a0 : Array Value} (hw : ∀ d ∈ tables_1, d.before a0 Z = true) {h0 : Heap} {n0 : Nat} (sz0 : n0 ≤ h0.size) (o b : Addr) (p n : Int32) (gn_o : n0 ≤ o) (E_o : Exa Z h0 o "com/example/mixed_urn/mixedurn/index/ByteReader") (F_o_bytes : Fld Z h0 o "com/example/mixed_urn/mixedurn/index/ByteReader" "bytes" "[B" .null) (F_o_position : Fld Z h0 o "com/example/mixed_urn/mixedurn/index/ByteReader" "position" "I" (.int (0 : Int32))) (F_o_end : Fld Z h0 o "com/example/mixed_urn/mixedurn/index/ByteReader" "end" "I" (.int (0 : Int32))) : Con l Z (⟨"com/example/mixed_urn/mixedurn/index/ByteReader", "<init>", "([BII)V"⟩ : MethodName) prog_29_method_1_code 4 none ({ frames := 1, cells := 0, slots := 0, locals := 12 } : Room) [] #[(.ref o), (.ref b), (.int p), (.int n)] h0 (fun v h L => v = none ∧ Fr n0 L ∧ Keep h0 h [o] ∧ Exa Z h o "com/example/mixed_urn/mixedurn/index/ByteReader" ∧ Fld Z h o "com/example/mixed_urn/mixedurn/index/ByteReader" "bytes" "[B" (.ref b) ∧ Fld Z h o "com/example/mixed_urn/mixedurn/index/ByteReader" "position" "I" (.int p) ∧ Fld Z h o "com/example/mixed_urn/mixedurn/index/ByteReader" "end" "I" (.int (p + n))) := by
  refine con_of (Ls := #[.val (.ref o), .val (.ref b), .val (.int p), .val (.int n)]) (plainFor_of_name (by first | (simp [plainName, overriddenIn]; done) | decide +kernel)) (fun m => by first | (simp [entryFrame, mkF, argsToLocals, Value.category]; done) | rfl) ?_
  have N0 : Fr n0 [] := Fr.nil _
  have K0 : Keep h0 h0 [o] := Keep.refl _ _
  refine Go.aloadN (pc' := 1) d2_0 rfl rfl rfl ?_
  refine Go.initO (pc' := 4) (W := 0) d2_1 rfl (hw _ w14) (hw _ w15) (hw _ w16) (by decide) (by decide) rfl (Nat.le_of_eq rfl) ?_
  refine Go.aloadN (pc' := 5) d2_4 rfl rfl rfl ?_
  refine Go.aloadN (pc' := 6) d2_5 rfl rfl rfl ?_
  refine Go.putF (pc' := 9) d2_6 rfl (hw _ w17) Via.refl F_o_bytes E_o (Or.inr ⟨(hw _ w18), rfl, rfl⟩) (hw _ w9) (ty := (.array .byte)) (by decide) rfl rfl ?_
  intro h1 L1 NL1 W1
  replace F_o_bytes := F_o_bytes.same W1
  replace N0 := NL1 _ N0 gn_o
  replace sz0 : n0 ≤ h1.size := by rw [W1.size]; exact sz0
  replace E_o := E_o.wr W1
  replace F_o_position := F_o_position.other W1 (Or.inr (slot_ne (Or.inl (hw _ w20)) (Or.inr (hw _ w18)) (by decide) (t := .int) (t' := (.array .byte)) (by decide) (by decide)))
  replace F_o_end := F_o_end.other W1 (Or.inr (slot_ne (Or.inr (hw _ w22)) (Or.inr (hw _ w18)) (by decide) (t := .int) (t' := (.array .byte)) (by decide) (by decide)))
  replace K0 := K0.wr W1 (Or.inl (by simp))
  refine Go.aloadN (pc' := 10) d2_9 rfl rfl rfl ?_
  refine Go.iloadN (pc' := 11) d2_10 rfl rfl ?_
  refine Go.putF (pc' := 14) d2_11 rfl (hw _ w19) Via.refl F_o_position E_o (Or.inl (hw _ w20)) (hw _ w9) (ty := .int) (by decide) rfl rfl ?_
  intro h2 L2 NL2 W2
  replace F_o_position := F_o_position.same W2
  replace N0 := NL2 _ N0 gn_o
  replace sz0 : n0 ≤ h2.size := by rw [W2.size]; exact sz0
  replace E_o := E_o.wr W2
  replace F_o_bytes := F_o_bytes.other W2 (Or.inr (slot_ne (Or.inr (hw _ w18)) (Or.inl (hw _ w20)) (by decide) (t := (.array .byte)) (t' := .int) (by decide) (by decide)))
  replace F_o_end := F_o_end.other W2 (Or.inr (slot_ne (Or.inr (hw _ w22)) (Or.inl (hw _ w20)) (by decide) (t := .int) (t' := .int) (by decide) (by decide)))
  replace K0 := K0.wr W2 (Or.inl (by simp))
  refine Go.aloadN (pc' := 15) d2_14 rfl rfl rfl ?_
  refine Go.iloadN (pc' := 16) d2_15 rfl rfl ?_
  refine Go.iloadN (pc' := 17) d2_16 rfl rfl ?_
  refine Go.iadd (pc' := 18) d2_17 rfl rfl ?_
  refine Go.putF (pc' := 21) d2_18 rfl (hw _ w21) Via.refl F_o_end E_o (Or.inr ⟨(hw _ w22), rfl, rfl⟩) (hw _ w9) (ty := .int) (by decide) rfl rfl ?_
  intro h3 L3 NL3 W3
  replace F_o_end := F_o_end.same W3
  replace N0 := NL3 _ N0 gn_o
  replace sz0 : n0 ≤ h3.size := by rw [W3.size]; exact sz0
  replace E_o := E_o.wr W3
  replace F_o_bytes := F_o_bytes.other W3 (Or.inr (slot_ne (Or.inr (hw _ w18)) (Or.inr (hw _ w22)) (by decide) (t := (.array .byte)) (t' := .int) (by decide) (by decide)))
  replace F_o_position := F_o_position.other W3 (Or.inr (slot_ne (Or.inl (hw _ w20)) (Or.inr (hw _ w22)) (by decide) (t := .int) (t' := .int) (by decide) (by decide)))
  replace K0 := K0.wr W3 (Or.inl (by simp))
  refine Go.retV d2_21 rfl (by decide) (by decide) ?_
  exact ⟨rfl, N0, K0, E_o, F_o_bytes, F_o_position, F_o_end⟩
set_option maxRecDepth 65536 in
set_option maxHeartbeats 40000000 in
theorem c_has {l : Launch} {Z : State} {a0 : Array Value} (hw : ∀ d ∈ tables_1, d.before a0 Z = true) {h0 : Heap} (o b : Addr) (p e r : Int32) (E_o : Exa Z h0 o "com/example/mixed_urn/mixedurn/index/ByteReader") (F_o_bytes : Fld Z h0 o "com/example/mixed_urn/mixedurn/index/ByteReader" "bytes" "[B" (.ref b)) (F_o_position : Fld Z h0 o "com/example/mixed_urn/mixedurn/index/ByteReader" "position" "I" (.int p)) (F_o_end : Fld Z h0 o "com/example/mixed_urn/mixedurn/index/ByteReader" "end" "I" (.int e)) (hr : (if p.toInt < e.toInt then (1 : Int32) else 0) = r) : Con l Z (⟨"com/example/mixed_urn/mixedurn/index/ByteReader", "hasRemaining", "()Z"⟩ : MethodName) prog_29_method_3_code 1 (some .boolean) ({ frames := 0, cells := 0, slots := 0, locals := 0 } : Room) [] #[(.ref o)] h0 (PQ h0 (some (.int r))) := by
  refine con_of (Ls := #[.val (.ref o)]) (plainFor_of_name (by first | (simp [plainName, overriddenIn]; done) | decide +kernel)) (fun m => by first | (simp [entryFrame, mkF, argsToLocals, Value.category]; done) | rfl) ?_
  refine Go.aloadN (pc' := 1) d7_0 rfl rfl rfl ?_
  refine Go.getF (pc' := 4) d7_1 rfl (hw _ w19) Via.refl F_o_position ?_
  refine Go.aloadN (pc' := 5) d7_4 rfl rfl rfl ?_
  refine Go.getF (pc' := 8) d7_5 rfl (hw _ w21) Via.refl F_o_end ?_
  by_cases hc1 : p.toInt < e.toInt
  · refine Go.icmpF (pc' := 11) (X := p.toInt) (Y := e.toInt) d7_8 rfl rfl rfl (hc1 : p.toInt < e.toInt) ?_
    refine Go.iconst (pc' := 12) d7_11 rfl (z := (1 : Int32)) (by decide) ?_
    refine Go.goto (pc' := 16) d7_12 (by decide) ?_
    refine Go.retZ d7_16 rfl (by decide) (by decide) (by decide) ?_
    refine ⟨congrArg (fun q => some (Value.int q)) ?_, rfl, rfl⟩
    rw [← hr, if_pos hc1]
  · refine Go.icmpT (pc' := 15) (X := p.toInt) (Y := e.toInt) d7_8 (by decide) rfl rfl (hc1 : ¬ p.toInt < e.toInt) ?_
    refine Go.iconst (pc' := 16) d7_15 rfl (z := (0 : Int32)) (by decide) ?_
    refine Go.retZ d7_16 rfl (by decide) (by decide) (by decide) ?_
    refine ⟨congrArg (fun q => some (Value.int q)) ?_, rfl, rfl⟩
    rw [← hr, if_neg hc1]
set_option maxRecDepth 65536 in
set_option maxHeartbeats 40000000 in
theorem c_req {l : Launch} {Z : State} {a0 : Array Value} (hw : ∀ d ∈ tables_1, d.before a0 Z = true) {h0 : Heap} (o b : Addr) (p e : Int32) (q : Int64) (E_o : Exa Z h0 o "com/example/mixed_urn/mixedurn/index/ByteReader") (F_o_bytes : Fld Z h0 o "com/example/mixed_urn/mixedurn/index/ByteReader" "bytes" "[B" (.ref b)) (F_o_position : Fld Z h0 o "com/example/mixed_urn/mixedurn/index/ByteReader" "position" "I" (.int p)) (F_o_end : Fld Z h0 o "com/example/mixed_urn/mixedurn/index/ByteReader" "end" "I" (.int e)) (h1 : ¬ q.toInt < 0) (h2 : ¬ (e - p).toInt64.toInt < q.toInt) : Con l Z (⟨"com/example/mixed_urn/mixedurn/index/ByteReader", "require", "(J)V"⟩ : MethodName) prog_29_method_13_code 3 none ({ frames := 0, cells := 0, slots := 0, locals := 0 } : Room) [] #[(.ref o), (.long q)] h0 (PQ h0 none) := by
  refine con_of (Ls := #[.val (.ref o), .val (.long q), .second]) (plainFor_of_name (by first | (simp [plainName, overriddenIn]; done) | decide +kernel)) (fun m => by first | (simp [entryFrame, mkF, argsToLocals, Value.category]; done) | rfl) ?_
  refine Go.lloadN (pc' := 1) d5_0 rfl rfl ?_
  refine Go.lconst (pc' := 2) d5_1 rfl (z := (0 : Int64)) (by decide) ?_
  refine Go.lcmpF (pc' := 6) (X := q.toInt) (Y := (0 : Int)) d5_2 d5_3 rfl rfl rfl (by decide) (h1 : ¬ q.toInt < (0 : Int)) ?_
  refine Go.lloadN (pc' := 7) d5_6 rfl rfl ?_
  refine Go.aloadN (pc' := 8) d5_7 rfl rfl rfl ?_
  refine Go.getF (pc' := 11) d5_8 rfl (hw _ w21) Via.refl F_o_end ?_
  refine Go.aloadN (pc' := 12) d5_11 rfl rfl rfl ?_
  refine Go.getF (pc' := 15) d5_12 rfl (hw _ w19) Via.refl F_o_position ?_
  refine Go.isub (pc' := 16) d5_15 rfl rfl ?_
  refine Go.i2l (pc' := 17) d5_16 rfl rfl ?_
  refine Go.lcmpT (pc' := 44) (X := q.toInt) (Y := (e - p).toInt64.toInt) d5_17 d5_18 rfl (by decide) rfl rfl (h2 : ¬ (e - p).toInt64.toInt < q.toInt) ?_
  refine Go.retV d5_44 rfl (by decide) (by decide) ?_
  exact ⟨rfl, rfl, rfl⟩
set_option maxRecDepth 65536 in
set_option maxHeartbeats 40000000 in
theorem c_pos {l : Launch} {Z : State} {a0 : Array Value} (hw : ∀ d ∈ tables_1, d.before a0 Z = true) {h0 : Heap} (o b : Addr) (p e : Int32) (E_o : Exa Z h0 o "com/example/mixed_urn/mixedurn/index/ByteReader") (F_o_bytes : Fld Z h0 o "com/example/mixed_urn/mixedurn/index/ByteReader" "bytes" "[B" (.ref b)) (F_o_position : Fld Z h0 o "com/example/mixed_urn/mixedurn/index/ByteReader" "position" "I" (.int p)) (F_o_end : Fld Z h0 o "com/example/mixed_urn/mixedurn/index/ByteReader" "end" "I" (.int e)) : Con l Z (⟨"com/example/mixed_urn/mixedurn/index/ByteReader", "position", "()I"⟩ : MethodName) prog_29_method_2_code 1 (some .int) ({ frames := 0, cells := 0, slots := 0, locals := 0 } : Room) [] #[(.ref o)] h0 (PQ h0 (some (.int p))) := by
  refine con_of (Ls := #[.val (.ref o)]) (plainFor_of_name (by first | (simp [plainName, overriddenIn]; done) | decide +kernel)) (fun m => by first | (simp [entryFrame, mkF, argsToLocals, Value.category]; done) | rfl) ?_
  refine Go.aloadN (pc' := 1) d6_0 rfl rfl rfl ?_
  refine Go.getF (pc' := 4) d6_1 rfl (hw _ w19) Via.refl F_o_position ?_
  refine Go.retI d6_4 rfl (by decide) (by decide) ?_
  exact ⟨rfl, rfl, rfl⟩
def f_c_at (i : Int32) (v : Int64) (kk : Int32) (g : Int32) : Int32 := (if i.toInt < (0 : Int) then g.toInt8.toInt32 else (if i.toInt < kk.toInt then (if i.toInt < (kk - (1 : Int32)).toInt then ((((v.toUInt64 >>> (((7 : Int32) * i) &&& 0x3f).toInt64.toUInt64).toInt64) &&& (127 : Int64)) ||| (128 : Int64)).toInt32.toInt8.toInt32 else (((v.toUInt64 >>> (((7 : Int32) * i) &&& 0x3f).toInt64.toUInt64).toInt64) &&& (127 : Int64)).toInt32.toInt8.toInt32) else g.toInt8.toInt32))
set_option maxRecDepth 65536 in
set_option maxHeartbeats 40000000 in
theorem c_at {l : Launch} {Z : State} {a0 : Array Value} (hw : ∀ d ∈ tables_1, d.before a0 Z = true) {h0 : Heap} (i : Int32) (v : Int64) (kk : Int32) (g : Int32) {r : Int32} (hr : f_c_at i v kk g = r) : Con l Z (⟨"com/example/mixed_urn/mixedurn/index/ByteReaderReadNumberPinLaw", "at", "(IJII)B"⟩ : MethodName) method_3_code 7 (some .byte) ({ frames := 0, cells := 0, slots := 0, locals := 0 } : Room) [] #[(.int i), (.long v), (.int kk), (.int g)] h0 (PQ h0 (some (.int r))) := by
  refine con_of (Ls := #[.val (.int i), .val (.long v), .second, .val (.int kk), .val (.int g), .unset, .unset]) (plainFor_of_name (by first | (simp [plainName, overriddenIn]; done) | decide +kernel)) (fun m => by first | (simp [entryFrame, mkF, argsToLocals, Value.category]; done) | rfl) ?_
  refine Go.iloadN (pc' := 1) d1_0 rfl rfl ?_
  by_cases hc1 : i.toInt < (0 : Int)
  · refine Go.ifT (pc' := 9) (X := i.toInt) d1_1 (by decide) rfl (hc1 : i.toInt < 0) ?_
    refine Go.iload (pc' := 11) d1_9 rfl rfl ?_
    refine Go.i2b (pc' := 12) d1_11 rfl rfl ?_
    refine Go.retB d1_12 rfl (nar_b8 _) (by decide) (by decide) ?_
    refine ⟨congrArg (fun q => some (Value.int q)) ?_, rfl, rfl⟩
    rw [← hr]
    show _ = f_c_at i v kk g
    unfold f_c_at
    rw [if_pos hc1]
  · refine Go.ifF (pc' := 4) (X := i.toInt) d1_1 rfl rfl (hc1 : ¬ i.toInt < 0) ?_
    refine Go.iloadN (pc' := 5) d1_4 rfl rfl ?_
    refine Go.iloadN (pc' := 6) d1_5 rfl rfl ?_
    by_cases hc2 : i.toInt < kk.toInt
    · refine Go.icmpT (pc' := 13) (X := i.toInt) (Y := kk.toInt) d1_6 (by decide) rfl rfl (hc2 : i.toInt < kk.toInt) ?_
      refine Go.lloadN (pc' := 14) d1_13 rfl rfl ?_
      refine Go.bipush (pc' := 16) d1_14 rfl (z := (7 : Int32)) (by decide) ?_
      refine Go.iloadN (pc' := 17) d1_16 rfl rfl ?_
      refine Go.imul (pc' := 18) d1_17 rfl rfl ?_
      refine Go.lushr (pc' := 19) d1_18 rfl rfl ?_
      refine Go.ldc2 (pc' := 22) d1_19 rfl (hw _ w6) ?_
      refine Go.land (pc' := 23) d1_22 rfl rfl ?_
      refine Go.lstore (pc' := 25) d1_23 rfl (Ls' := #[.val (.int i), .val (.long v), .second, .val (.int kk), .val (.int g), .val (.long (((v.toUInt64 >>> (((7 : Int32) * i) &&& 0x3f).toInt64.toUInt64).toInt64) &&& (127 : Int64))), .second]) rfl ?_
      refine Go.iloadN (pc' := 26) d1_25 rfl rfl ?_
      refine Go.iloadN (pc' := 27) d1_26 rfl rfl ?_
      refine Go.iconst (pc' := 28) d1_27 rfl (z := (1 : Int32)) (by decide) ?_
      refine Go.isub (pc' := 29) d1_28 rfl rfl ?_
      by_cases hc3 : i.toInt < (kk - (1 : Int32)).toInt
      · refine Go.icmpF (pc' := 32) (X := i.toInt) (Y := (kk - (1 : Int32)).toInt) d1_29 rfl rfl rfl (hc3 : i.toInt < (kk - (1 : Int32)).toInt) ?_
        refine Go.lload (pc' := 34) d1_32 rfl rfl ?_
        refine Go.ldc2 (pc' := 37) d1_34 rfl (hw _ w7) ?_
        refine Go.lor (pc' := 38) d1_37 rfl rfl ?_
        refine Go.l2i (pc' := 39) d1_38 rfl rfl ?_
        refine Go.i2b (pc' := 40) d1_39 rfl rfl ?_
        refine Go.retB d1_40 rfl (nar_b8 _) (by decide) (by decide) ?_
        refine ⟨congrArg (fun q => some (Value.int q)) ?_, rfl, rfl⟩
        rw [← hr]
        show _ = f_c_at i v kk g
        unfold f_c_at
        rw [if_neg hc1, if_pos hc2, if_pos hc3]
      · refine Go.icmpT (pc' := 41) (X := i.toInt) (Y := (kk - (1 : Int32)).toInt) d1_29 (by decide) rfl rfl (hc3 : ¬ i.toInt < (kk - (1 : Int32)).toInt) ?_
        refine Go.lload (pc' := 43) d1_41 rfl rfl ?_
        refine Go.l2i (pc' := 44) d1_43 rfl rfl ?_
        refine Go.i2b (pc' := 45) d1_44 rfl rfl ?_
        refine Go.retB d1_45 rfl (nar_b8 _) (by decide) (by decide) ?_
        refine ⟨congrArg (fun q => some (Value.int q)) ?_, rfl, rfl⟩
        rw [← hr]
        show _ = f_c_at i v kk g
        unfold f_c_at
        rw [if_neg hc1, if_pos hc2, if_neg hc3]
    · refine Go.icmpF (pc' := 9) (X := i.toInt) (Y := kk.toInt) d1_6 rfl rfl rfl (hc2 : ¬ i.toInt < kk.toInt) ?_
      refine Go.iload (pc' := 11) d1_9 rfl rfl ?_
      refine Go.i2b (pc' := 12) d1_11 rfl rfl ?_
      refine Go.retB d1_12 rfl (nar_b8 _) (by decide) (by decide) ?_
      refine ⟨congrArg (fun q => some (Value.int q)) ?_, rfl, rfl⟩
      rw [← hr]
      show _ = f_c_at i v kk g
      unfold f_c_at
      rw [if_neg hc1, if_neg hc2]
theorem own_kk (kq kk : Int32) (h : (1 : Int32) + ((kq &&& (2147483647 : Int32)) % (10 : Int32)) = kk) : 1 ≤ kk.toInt ∧ kk.toInt ≤ 10 := by
  have k1 : (10 : Int32).toInt = 10 := by decide
  have k2 : (1 : Int32).toInt = 1 := by decide
  have m := mask31 kq
  have q := irem_bd (x := kq &&& (2147483647 : Int32)) (y := (10 : Int32)) m.1 (by omega)
  rw [← h, iadd_eq (by omega) (by omega)]
  omega
theorem own_ex (ee ex : Int32) (h : ee &&& (3 : Int32) = ex) : 0 ≤ ex.toInt ∧ ex.toInt ≤ 3 := by
  have mx : (ee &&& (3 : Int32)).toInt = ee.toInt % (2 ^ 2 : Nat) := c_mask ee 3 2 (by decide) (by decide)
  rw [h] at mx
  omega
theorem own_nar (i : Int32) (v : Int64) (kk g : Int32) : nar .byte (f_c_at i v kk g) = f_c_at i v kk g := by
  unfold f_c_at
  repeat' split
  all_goals exact nar_b8 _
theorem own_four (x off : Int32) (h : x &&& (3 : Int32) = off) : off = (0 : Int32) ∨ off = (1 : Int32) ∨ off = (2 : Int32) ∨ off = (3 : Int32) := by
  have e1 : (x &&& (3 : Int32)).toInt = x.toInt % (2 ^ 2 : Nat) := c_mask x 3 2 (by decide) (by decide)
  rw [h] at e1
  have h0 : (0 : Int32).toInt = 0 := by decide
  have h1 : (1 : Int32).toInt = 1 := by decide
  have h2 : (2 : Int32).toInt = 2 := by decide
  have h3 : (3 : Int32).toInt = 3 := by decide
  simp only [← Int32.toInt_inj]
  omega
theorem own_ten (kk : Int32) (K : Nat) (h : kk.toInt = (K : Int)) (h1 : 1 ≤ K) (h10 : K ≤ 10) : kk = (1 : Int32) ∨ kk = (2 : Int32) ∨ kk = (3 : Int32) ∨ kk = (4 : Int32) ∨ kk = (5 : Int32) ∨ kk = (6 : Int32) ∨ kk = (7 : Int32) ∨ kk = (8 : Int32) ∨ kk = (9 : Int32) ∨ kk = (10 : Int32) := by
  have q1 : (1 : Int32).toInt = 1 := by decide
  have q2 : (2 : Int32).toInt = 2 := by decide
  have q3 : (3 : Int32).toInt = 3 := by decide
  have q4 : (4 : Int32).toInt = 4 := by decide
  have q5 : (5 : Int32).toInt = 5 := by decide
  have q6 : (6 : Int32).toInt = 6 := by decide
  have q7 : (7 : Int32).toInt = 7 := by decide
  have q8 : (8 : Int32).toInt = 8 := by decide
  have q9 : (9 : Int32).toInt = 9 := by decide
  have q10 : (10 : Int32).toInt = 10 := by decide
  simp only [← Int32.toInt_inj]
  omega
/-- the low n bits of v, and nothing else -/
def own_low (v : Int64) (n : Nat) (acc : Int64) : Prop := ∀ j, j < 64 → acc.toBitVec.getLsbD j = (decide (j < n) && v.toBitVec.getLsbD j)
theorem own_low0 (v : Int64) : own_low v (7 * 0) (0 : Int64) := by
  intro j hj
  simp
/-- what the i-th of k bytes says of v -/
def own_byte (v : Int64) (k i : Nat) (b : Int32) : Prop := (i + 1 < k → b.toInt < 0) ∧ (i + 1 = k → ¬ b.toInt < 0) ∧ ∀ t, t < 7 → b.toBitVec.getLsbD t = v.toBitVec.getLsbD (7 * i + t)
theorem own_full (v res : Int64) (h : own_low v (7 * 10) res) : res = v := by
  apply Int64.toBitVec_inj.mp
  apply BitVec.eq_of_getLsbD_eq
  intro j hj
  rw [h j hj, decide_eq_true (show j < 7 * 10 by omega), Bool.true_and]
theorem own_want (v res m : Int64) (n : Nat) (hm : ∀ j : Fin 64, m.toBitVec.getLsbD j.val = decide (j.val < n)) (h : own_low v n res) : res = v &&& m := by
  apply Int64.toBitVec_inj.mp
  apply BitVec.eq_of_getLsbD_eq
  intro j hj
  rw [h j hj, Int64.toBitVec_and, BitVec.getLsbD_and, hm ⟨j, hj⟩, Bool.and_comm]
theorem own_lowbits (b : Int32) (t : Nat) (ht : t < 64) : ((b &&& (127 : Int32)).toInt64).toBitVec.getLsbD t = (decide (t < 7) && b.toBitVec.getLsbD t) := by
  have hm : ∀ j : Fin 32, (127 : Int32).toBitVec.getLsbD j.val = decide (j.val < 7) := by decide
  rw [Int32.toBitVec_toInt64, BitVec.getLsbD_signExtend, Int32.toBitVec_and]
  by_cases h : t < 32
  · rw [if_pos h, BitVec.getLsbD_and, hm ⟨t, h⟩, decide_eq_true ht, Bool.true_and, Bool.and_comm]
  · rw [if_neg h, decide_eq_false (show ¬ t < 7 by omega), Bool.false_and, BitVec.msb_and, show (127 : Int32).toBitVec.msb = false by decide, Bool.and_false, Bool.and_false]
theorem own_or (v acc acc2 : Int64) (b sh : Int32) (i : Nat) (hi : i < 10) (hsh : sh.toInt = ((7 * i : Nat) : Int)) (hacc : own_low v (7 * i) acc) (hb : ∀ t, t < 7 → b.toBitVec.getLsbD t = v.toBitVec.getLsbD (7 * i + t)) (h2 : acc ||| ((b &&& (127 : Int32)).toInt64 <<< (sh &&& 0x3f).toInt64) = acc2) : own_low v (7 * (i + 1)) acc2 := by
  intro j hj
  have hs : sh.toBitVec.toNat % 64 = 7 * i := by
    have e1 : (sh.toInt) = (sh.toBitVec.toInt) := rfl
    have e2 := sh.toBitVec.isLt
    rw [e1, BitVec.toInt_eq_toNat_cond] at hsh
    split at hsh <;> omega
  obtain ⟨s1, s2⟩ := sm64 sh (7 * i) hs
  rw [← h2, Int64.toBitVec_or, BitVec.getLsbD_or, hacc j hj, Int64.toBitVec_shiftLeft, s1]
  rw [BitVec.shiftLeft_eq', smod64 (7 * i) s2, BitVec.getLsbD_shiftLeft, decide_eq_true hj, Bool.true_and]
  by_cases q : j < 7 * i
  · rw [decide_eq_true q, decide_eq_true (show j < 7 * (i + 1) by omega)]; simp
  · rw [decide_eq_false q, Bool.false_and, Bool.false_or, Bool.not_false, Bool.true_and, own_lowbits b (j - 7 * i) (by omega)]
    by_cases r : j - 7 * i < 7
    · rw [decide_eq_true r, decide_eq_true (show j < 7 * (i + 1) by omega), hb _ r, show 7 * i + (j - 7 * i) = j by omega]
    · rw [decide_eq_false r, decide_eq_false (show ¬ j < 7 * (i + 1) by omega), Bool.false_and, Bool.false_and]
theorem own_b8 (x : Int64) (t : Nat) (ht : t < 8) : (x.toInt32.toInt8.toInt32).toBitVec.getLsbD t = x.toBitVec.getLsbD t := by
  rw [Int8.toBitVec_toInt32, BitVec.getLsbD_signExtend, if_pos ht, decide_eq_true (show t < 32 by omega), Bool.true_and, Int32.toBitVec_toInt8, BitVec.getLsbD_signExtend, decide_eq_true ht, Bool.true_and, if_pos (show t < 32 by omega), Int64.toBitVec_toInt32, BitVec.getLsbD_signExtend, decide_eq_true (show t < 32 by omega), Bool.true_and, if_pos (show t < 64 by omega)]
theorem own_s8 (x : Int64) : (x.toInt32.toInt8.toInt32).toInt < 0 ↔ x.toBitVec.getLsbD 7 = true := by
  have e1 : (x.toInt32.toInt8.toInt32).toInt = x.toInt32.toInt8.toBitVec.toInt := Int8.toInt_toInt32 _
  rw [e1]
  have e2 : x.toInt32.toInt8.toBitVec.msb = decide (x.toInt32.toInt8.toBitVec.toInt < 0) := BitVec.msb_eq_toInt
  have e3 : x.toInt32.toInt8.toBitVec.msb = x.toBitVec.getLsbD 7 := by
    rw [BitVec.msb_eq_getLsbD_last, ← own_b8 x 7 (by decide), Int8.toBitVec_toInt32, BitVec.getLsbD_signExtend]
    rfl
  rw [← e3, e2]; simp
theorem own_gr (v : Int64) (q : Int32) (i : Nat) (hq : q.toBitVec.toNat % 64 = 7 * i) (t : Nat) (ht : t < 8) : (((v.toUInt64 >>> (q &&& 0x3f).toInt64.toUInt64).toInt64) &&& (127 : Int64)).toBitVec.getLsbD t = (decide (t < 7) && v.toBitVec.getLsbD (7 * i + t)) := by
  have hm : ∀ j : Fin 8, (127 : Int64).toBitVec.getLsbD j.val = decide (j.val < 7) := by decide
  obtain ⟨s1, s2⟩ := sm64 q (7 * i) hq
  have e1 : ((v.toUInt64 >>> (q &&& 0x3f).toInt64.toUInt64).toInt64).toBitVec = v.toBitVec >>> (7 * i) := by
    show v.toBitVec >>> ((q &&& 0x3f).toInt64.toBitVec % 64) = _
    rw [BitVec.ushiftRight_eq', s1, BitVec.toNat_umod, BitVec.toNat_ofNat, show 7 * i % 2 ^ 64 % (64 : BitVec 64).toNat = 7 * i by show 7 * i % 2 ^ 64 % 64 = 7 * i; omega]
  rw [Int64.toBitVec_and, BitVec.getLsbD_and, hm ⟨t, ht⟩, e1, BitVec.getLsbD_ushiftRight, Bool.and_comm]
theorem own_at (v : Int64) (kk g : Int32) (K i : Nat) (hK : kk.toInt = (K : Int)) (hi : i < K) (h10 : K ≤ 10) : own_byte v K i (f_c_at (Int32.ofNat i) v kk g) := by
  have e0 : (Int32.ofNat i).toInt = (i : Int) := Int32.toInt_ofNat_of_lt (by omega)
  have k1 : (1 : Int32).toInt = 1 := by decide
  have k7 : (7 : Int32).toInt = 7 := by decide
  have e1 := c_isub kk (1 : Int32)
  have r1 := rng32 (kk - (1 : Int32))
  have e2 := c_imul (7 : Int32) (Int32.ofNat i)
  have r2 := rng32 ((7 : Int32) * Int32.ofNat i)
  have hq : ((7 : Int32) * Int32.ofNat i).toBitVec.toNat % 64 = 7 * i := by
    have q1 : ((7 : Int32) * Int32.ofNat i).toInt = 7 * (i : Int) := by rw [k7, e0] at e2; omega
    have q2 : ((7 : Int32) * Int32.ofNat i).toInt = ((7 : Int32) * Int32.ofNat i).toBitVec.toInt := rfl
    have q3 := ((7 : Int32) * Int32.ofNat i).toBitVec.isLt
    rw [q2, BitVec.toInt_eq_toNat_cond] at q1
    split at q1 <;> omega
  have hor : ∀ j : Fin 8, (128 : Int64).toBitVec.getLsbD j.val = decide (j.val = 7) := by decide
  unfold f_c_at
  rw [if_neg (by rw [e0]; omega), if_pos (by rw [e0, hK]; omega)]
  by_cases hl : i + 1 < K
  · rw [if_pos (by rw [e0]; omega)]
    refine ⟨fun _ => ?_, fun q => by omega, fun t ht => ?_⟩
    · rw [own_s8, Int64.toBitVec_or, BitVec.getLsbD_or, hor ⟨7, by decide⟩]; simp
    · rw [own_b8 _ t (by omega), Int64.toBitVec_or, BitVec.getLsbD_or, hor ⟨t, by omega⟩, own_gr v _ i hq t (by omega), decide_eq_true ht]
      rw [decide_eq_false (show ¬ t = 7 by omega)]; simp
  · rw [if_neg (by rw [e0]; omega)]
    refine ⟨fun q => by omega, fun _ => ?_, fun t ht => ?_⟩
    · rw [own_s8, own_gr v _ i hq 7 (by decide)]; simp
    · rw [own_b8 _ t (by omega), own_gr v _ i hq t (by omega), decide_eq_true ht, Bool.true_and]
set_option maxRecDepth 65536 in
set_option maxHeartbeats 40000000 in
theorem loop_rn {l : Launch} {Z : State} {a0 : Array Value} (hw : ∀ d ∈ tables_1, d.before a0 Z = true) {h0 : Heap} {n0 : Nat} (o b : Addr) (gn_o : n0 ≤ o) (e : Int32) (v : Int64) (vs : List Value) (bt : Nat → Int32) (p0 k : Nat) (hk : k ≤ 10) (he : ((p0 + k : Nat) : Int) ≤ e.toInt) (hvs : ∀ i, i < k → vs[p0 + i]? = some (.int (bt i))) (hbt : ∀ i, i < k → own_byte v k i (bt i)) : ∀ (m i : Nat) (acc : Int64) (sh bb p : Int32) (h : Heap) (L : List Loc), i + m + 1 = k → sh.toInt = ((7 * i : Nat) : Int) → p.toInt = ((p0 + i : Nat) : Int) → own_low v (7 * i) acc → Fr n0 L → n0 ≤ h.size → Keep h0 h [o] → Exa Z h o "com/example/mixed_urn/mixedurn/index/ByteReader" → Fld Z h o "com/example/mixed_urn/mixedurn/index/ByteReader" "bytes" "[B" (.ref b) → Fld Z h o "com/example/mixed_urn/mixedurn/index/ByteReader" "position" "I" (.int p) → Fld Z h o "com/example/mixed_urn/mixedurn/index/ByteReader" "end" "I" (.int e) → Al Z h b .byte vs → Go Z l ({ frames := 1, cells := 0, slots := 0, locals := 14 } : Room) prog_29_method_8_code 5 "com/example/mixed_urn/mixedurn/index/ByteReader" (some .long) "readNumber" 4 #[.val (.ref o), .val (.long acc), .second, .val (.int sh), .val (.int bb)] [] h L 0 0 (fun w h L => ∃ (res : Int64) (pk : Int32), w = some (.long res) ∧ Fr n0 L ∧ Keep h0 h [o] ∧ Exa Z h o "com/example/mixed_urn/mixedurn/index/ByteReader" ∧ Fld Z h o "com/example/mixed_urn/mixedurn/index/ByteReader" "bytes" "[B" (.ref b) ∧ Fld Z h o "com/example/mixed_urn/mixedurn/index/ByteReader" "position" "I" (.int pk) ∧ Fld Z h o "com/example/mixed_urn/mixedurn/index/ByteReader" "end" "I" (.int e) ∧ pk.toInt = ((p0 + k : Nat) : Int) ∧ own_low v (7 * k) res) := by
  intro m
  induction m with
  | zero =>
    intro i acc sh bb p h L him hsh hp hacc N0 sz0 K0 E_o F_o_bytes F_o_position F_o_end A_b
    have ne_o_b : o ≠ b := ne_al E_o (hw _ w9) A_b
    refine Go.iloadN (pc' := 5) d4_4 rfl rfl ?_
    refine Go.bipush (pc' := 7) d4_5 rfl (z := (64 : Int32)) (by decide) ?_
    refine Go.icmpT (pc' := 20) (X := sh.toInt) (Y := (64 : Int)) d4_7 (by decide) rfl (by decide) (by omega : sh.toInt < (64 : Int)) ?_
    refine Go.aloadN (pc' := 21) d4_20 rfl rfl rfl ?_
    refine Go.lconst (pc' := 22) d4_21 rfl (z := (1 : Int64)) (by decide) ?_
    refine Go.callP0 (pc' := 25) (W := 0) (a := o) (argsL := [(.long (1 : Int64))]) (rest := []) (v0 := none) (st2 := []) d4_22 rfl (hw _ w28) (hw _ w29) (hw _ w9) (hw _ w30) (hw _ w10) (hw _ w31) E_o (by decide) (c_req hw o b p e (1 : Int64) E_o F_o_bytes F_o_position F_o_end (by decide) (by have k2 := rng32 e; rw [Int32.toInt_toInt64, isub_eq (by omega) (by omega), show (1 : Int64).toInt = 1 by decide]; omega)) (by decide) (by decide) rfl rfl rfl (by decide) (by decide) rfl pd__28J_29V rfl rfl (Nat.le_of_eq rfl) ?_
    refine Go.aloadN (pc' := 26) d4_25 rfl rfl rfl ?_
    refine Go.getF (pc' := 29) d4_26 rfl (hw _ w17) Via.refl F_o_bytes ?_
    refine Go.aloadN (pc' := 30) d4_29 rfl rfl rfl ?_
    refine Go.dup (pc' := 31) d4_30 rfl rfl ?_
    refine Go.getF (pc' := 34) d4_31 rfl (hw _ w19) Via.refl F_o_position ?_
    refine Go.dupX1 (pc' := 35) d4_34 rfl rfl rfl ?_
    refine Go.iconst (pc' := 36) d4_35 rfl (z := (1 : Int32)) (by decide) ?_
    refine Go.iadd (pc' := 37) d4_36 rfl rfl ?_
    refine Go.putF (pc' := 40) d4_37 rfl (hw _ w19) Via.refl F_o_position E_o (Or.inl (hw _ w20)) (hw _ w9) (ty := .int) (by decide) rfl rfl ?_
    intro h1 L1 NL1 W1
    replace F_o_position := F_o_position.same W1
    replace N0 := NL1 _ N0 gn_o
    replace sz0 : n0 ≤ h1.size := by rw [W1.size]; exact sz0
    replace E_o := E_o.wr W1
    replace F_o_bytes := F_o_bytes.other W1 (Or.inr (slot_ne (Or.inr (hw _ w18)) (Or.inl (hw _ w20)) (by decide) (t := (.array .byte)) (t' := .int) (by decide) (by decide)))
    replace F_o_end := F_o_end.other W1 (Or.inr (slot_ne (Or.inr (hw _ w22)) (Or.inl (hw _ w20)) (by decide) (t := .int) (t' := .int) (by decide) (by decide)))
    replace A_b := A_b.other W1 (Ne.symm ne_o_b)
    replace K0 := K0.wr W1 (Or.inl (by simp))
    refine Go.baloadB (pc' := 41) d4_40 rfl (i := (p0 + i)) (v := (.int (bt i))) A_b (by omega) (hvs i (by omega)) ?_
    generalize hv_b2 : (bt i) = b2
    refine Go.istore (pc' := 43) d4_41 rfl (Ls' := #[.val (.ref o), .val (.long acc), .second, .val (.int sh), .val (.int b2)]) rfl ?_
    refine Go.lloadN (pc' := 44) d4_43 rfl rfl ?_
    refine Go.iload (pc' := 46) d4_44 rfl rfl ?_
    refine Go.bipush (pc' := 48) d4_46 rfl (z := (127 : Int32)) (by decide) ?_
    refine Go.iand (pc' := 49) d4_48 rfl rfl ?_
    refine Go.i2l (pc' := 50) d4_49 rfl rfl ?_
    refine Go.iloadN (pc' := 51) d4_50 rfl rfl ?_
    refine Go.lshl (pc' := 52) d4_51 rfl rfl ?_
    refine Go.lor (pc' := 53) d4_52 rfl rfl ?_
    generalize hv_acc2 : (acc ||| ((b2 &&& (127 : Int32)).toInt64 <<< (sh &&& 0x3f).toInt64)) = acc2
    refine Go.lstoreN (pc' := 54) d4_53 rfl (Ls' := #[.val (.ref o), .val (.long acc2), .second, .val (.int sh), .val (.int b2)]) rfl ?_
    obtain ⟨sh2, hv_sh2⟩ : ∃ v : Int32, (sh + (7 : Int32)) = v := ⟨_, rfl⟩
    refine Go.iinc (pc' := 57) d4_54 rfl rfl (z := sh2) hv_sh2 (Ls' := #[.val (.ref o), .val (.long acc2), .second, .val (.int sh2), .val (.int b2)]) rfl ?_
    refine Go.iload (pc' := 59) d4_57 rfl rfl ?_
    refine Go.ifF (pc' := 62) (X := b2.toInt) d4_59 rfl rfl (by rw [← hv_b2]; exact (hbt i (by omega)).2.1 (by omega) : ¬ b2.toInt < 0) ?_
    refine Go.lloadN (pc' := 63) d4_62 rfl rfl ?_
    refine Go.retJ d4_63 rfl (by decide) (by decide) ?_
    exact ⟨acc2, (p + 1), rfl, N0, K0, E_o, F_o_bytes, F_o_position, F_o_end, by have e1 := c_iadd p (1 : Int32); have r1 := rng32 (p + (1 : Int32)); have k1 : (1 : Int32).toInt = 1 := (by decide); have k2 := rng32 e; omega, by have q := (own_or v acc acc2 b2 sh i (by omega) hsh hacc (by rw [← hv_b2]; exact (hbt i (by omega)).2.2) hv_acc2); rw [show 7 * (i + 1) = 7 * k by omega] at q; exact q⟩
  | succ m ih =>
    intro i acc sh bb p h L him hsh hp hacc N0 sz0 K0 E_o F_o_bytes F_o_position F_o_end A_b
    have ne_o_b : o ≠ b := ne_al E_o (hw _ w9) A_b
    refine Go.iloadN (pc' := 5) d4_4 rfl rfl ?_
    refine Go.bipush (pc' := 7) d4_5 rfl (z := (64 : Int32)) (by decide) ?_
    refine Go.icmpT (pc' := 20) (X := sh.toInt) (Y := (64 : Int)) d4_7 (by decide) rfl (by decide) (by omega : sh.toInt < (64 : Int)) ?_
    refine Go.aloadN (pc' := 21) d4_20 rfl rfl rfl ?_
    refine Go.lconst (pc' := 22) d4_21 rfl (z := (1 : Int64)) (by decide) ?_
    refine Go.callP0 (pc' := 25) (W := 0) (a := o) (argsL := [(.long (1 : Int64))]) (rest := []) (v0 := none) (st2 := []) d4_22 rfl (hw _ w28) (hw _ w29) (hw _ w9) (hw _ w30) (hw _ w10) (hw _ w31) E_o (by decide) (c_req hw o b p e (1 : Int64) E_o F_o_bytes F_o_position F_o_end (by decide) (by have k2 := rng32 e; rw [Int32.toInt_toInt64, isub_eq (by omega) (by omega), show (1 : Int64).toInt = 1 by decide]; omega)) (by decide) (by decide) rfl rfl rfl (by decide) (by decide) rfl pd__28J_29V rfl rfl (Nat.le_of_eq rfl) ?_
    refine Go.aloadN (pc' := 26) d4_25 rfl rfl rfl ?_
    refine Go.getF (pc' := 29) d4_26 rfl (hw _ w17) Via.refl F_o_bytes ?_
    refine Go.aloadN (pc' := 30) d4_29 rfl rfl rfl ?_
    refine Go.dup (pc' := 31) d4_30 rfl rfl ?_
    refine Go.getF (pc' := 34) d4_31 rfl (hw _ w19) Via.refl F_o_position ?_
    refine Go.dupX1 (pc' := 35) d4_34 rfl rfl rfl ?_
    refine Go.iconst (pc' := 36) d4_35 rfl (z := (1 : Int32)) (by decide) ?_
    refine Go.iadd (pc' := 37) d4_36 rfl rfl ?_
    refine Go.putF (pc' := 40) d4_37 rfl (hw _ w19) Via.refl F_o_position E_o (Or.inl (hw _ w20)) (hw _ w9) (ty := .int) (by decide) rfl rfl ?_
    intro h1 L1 NL1 W1
    replace F_o_position := F_o_position.same W1
    replace N0 := NL1 _ N0 gn_o
    replace sz0 : n0 ≤ h1.size := by rw [W1.size]; exact sz0
    replace E_o := E_o.wr W1
    replace F_o_bytes := F_o_bytes.other W1 (Or.inr (slot_ne (Or.inr (hw _ w18)) (Or.inl (hw _ w20)) (by decide) (t := (.array .byte)) (t' := .int) (by decide) (by decide)))
    replace F_o_end := F_o_end.other W1 (Or.inr (slot_ne (Or.inr (hw _ w22)) (Or.inl (hw _ w20)) (by decide) (t := .int) (t' := .int) (by decide) (by decide)))
    replace A_b := A_b.other W1 (Ne.symm ne_o_b)
    replace K0 := K0.wr W1 (Or.inl (by simp))
    refine Go.baloadB (pc' := 41) d4_40 rfl (i := (p0 + i)) (v := (.int (bt i))) A_b (by omega) (hvs i (by omega)) ?_
    generalize hv_b2 : (bt i) = b2
    refine Go.istore (pc' := 43) d4_41 rfl (Ls' := #[.val (.ref o), .val (.long acc), .second, .val (.int sh), .val (.int b2)]) rfl ?_
    refine Go.lloadN (pc' := 44) d4_43 rfl rfl ?_
    refine Go.iload (pc' := 46) d4_44 rfl rfl ?_
    refine Go.bipush (pc' := 48) d4_46 rfl (z := (127 : Int32)) (by decide) ?_
    refine Go.iand (pc' := 49) d4_48 rfl rfl ?_
    refine Go.i2l (pc' := 50) d4_49 rfl rfl ?_
    refine Go.iloadN (pc' := 51) d4_50 rfl rfl ?_
    refine Go.lshl (pc' := 52) d4_51 rfl rfl ?_
    refine Go.lor (pc' := 53) d4_52 rfl rfl ?_
    generalize hv_acc2 : (acc ||| ((b2 &&& (127 : Int32)).toInt64 <<< (sh &&& 0x3f).toInt64)) = acc2
    refine Go.lstoreN (pc' := 54) d4_53 rfl (Ls' := #[.val (.ref o), .val (.long acc2), .second, .val (.int sh), .val (.int b2)]) rfl ?_
    obtain ⟨sh2, hv_sh2⟩ : ∃ v : Int32, (sh + (7 : Int32)) = v := ⟨_, rfl⟩
    refine Go.iinc (pc' := 57) d4_54 rfl rfl (z := sh2) hv_sh2 (Ls' := #[.val (.ref o), .val (.long acc2), .second, .val (.int sh2), .val (.int b2)]) rfl ?_
    refine Go.iload (pc' := 59) d4_57 rfl rfl ?_
    refine Go.ifT (pc' := 4) (X := b2.toInt) d4_59 (by decide) rfl (by rw [← hv_b2]; exact (hbt i (by omega)).1 (by omega) : b2.toInt < 0) ?_
    refine ih (i + 1) acc2 sh2 b2 (p + 1) h1 L1 (by omega) ?_ ?_ (own_or v acc acc2 b2 sh i (by omega) hsh hacc (by rw [← hv_b2]; exact (hbt i (by omega)).2.2) hv_acc2) N0 sz0 K0 E_o F_o_bytes F_o_position F_o_end A_b
    · rw [← hv_sh2]; have e1 := c_iadd sh (7 : Int32); have r1 := rng32 (sh + (7 : Int32)); have k1 : (7 : Int32).toInt = 7 := (by decide); omega
    · have e1 := c_iadd p (1 : Int32); have r1 := rng32 (p + (1 : Int32)); have k1 : (1 : Int32).toInt = 1 := (by decide); have k2 := rng32 e; omega
set_option maxRecDepth 65536 in
set_option maxHeartbeats 40000000 in
theorem c_rn {l : Launch} {Z : State} {a0 : Array Value} (hw : ∀ d ∈ tables_1, d.before a0 Z = true) {h0 : Heap} {n0 : Nat} (sz0 : n0 ≤ h0.size) (o b : Addr) (gn_o : n0 ≤ o) (e : Int32) (v : Int64) (vs : List Value) (bt : Nat → Int32) (p0 k : Nat) (hk : k ≤ 10) (he : ((p0 + k : Nat) : Int) ≤ e.toInt) (hvs : ∀ i, i < k → vs[p0 + i]? = some (.int (bt i))) (hbt : ∀ i, i < k → own_byte v k i (bt i)) (p : Int32) (E_o : Exa Z h0 o "com/example/mixed_urn/mixedurn/index/ByteReader") (F_o_bytes : Fld Z h0 o "com/example/mixed_urn/mixedurn/index/ByteReader" "bytes" "[B" (.ref b)) (F_o_position : Fld Z h0 o "com/example/mixed_urn/mixedurn/index/ByteReader" "position" "I" (.int p)) (F_o_end : Fld Z h0 o "com/example/mixed_urn/mixedurn/index/ByteReader" "end" "I" (.int e)) (A_b : Al Z h0 b .byte vs) (hp : p.toInt = (p0 : Int)) (hk1' : 1 ≤ k) : Con l Z (⟨"com/example/mixed_urn/mixedurn/index/ByteReader", "readNumber", "()J"⟩ : MethodName) prog_29_method_8_code 5 (some .long) ({ frames := 1, cells := 0, slots := 0, locals := 14 } : Room) [] #[(.ref o)] h0 (fun w h L => ∃ (res : Int64) (pk : Int32), w = some (.long res) ∧ Fr n0 L ∧ Keep h0 h [o] ∧ Exa Z h o "com/example/mixed_urn/mixedurn/index/ByteReader" ∧ Fld Z h o "com/example/mixed_urn/mixedurn/index/ByteReader" "bytes" "[B" (.ref b) ∧ Fld Z h o "com/example/mixed_urn/mixedurn/index/ByteReader" "position" "I" (.int pk) ∧ Fld Z h o "com/example/mixed_urn/mixedurn/index/ByteReader" "end" "I" (.int e) ∧ pk.toInt = ((p0 + k : Nat) : Int) ∧ own_low v (7 * k) res) := by
  refine con_of (Ls := #[.val (.ref o), .unset, .unset, .unset, .unset]) (plainFor_of_name (by first | (simp [plainName, overriddenIn]; done) | decide +kernel)) (fun m => by first | (simp [entryFrame, mkF, argsToLocals, Value.category]; done) | rfl) ?_
  have N0 : Fr n0 [] := Fr.nil _
  have K0 : Keep h0 h0 [o] := Keep.refl _ _
  have ne_o_b : o ≠ b := ne_al E_o (hw _ w9) A_b
  refine Go.lconst (pc' := 1) d4_0 rfl (z := (0 : Int64)) (by decide) ?_
  refine Go.lstoreN (pc' := 2) d4_1 rfl (Ls' := #[.val (.ref o), .val (.long (0 : Int64)), .second, .unset, .unset]) rfl ?_
  refine Go.iconst (pc' := 3) d4_2 rfl (z := (0 : Int32)) (by decide) ?_
  refine Go.istoreN (pc' := 4) d4_3 rfl (Ls' := #[.val (.ref o), .val (.long (0 : Int64)), .second, .val (.int (0 : Int32)), .unset]) rfl ?_
  refine Go.iloadN (pc' := 5) d4_4 rfl rfl ?_
  refine Go.bipush (pc' := 7) d4_5 rfl (z := (64 : Int32)) (by decide) ?_
  refine Go.icmpT (pc' := 20) (X := (0 : Int)) (Y := (64 : Int)) d4_7 (by decide) (by decide) (by decide) (by decide : (0 : Int) < (64 : Int)) ?_
  refine Go.aloadN (pc' := 21) d4_20 rfl rfl rfl ?_
  refine Go.lconst (pc' := 22) d4_21 rfl (z := (1 : Int64)) (by decide) ?_
  refine Go.callP0 (pc' := 25) (W := 0) (a := o) (argsL := [(.long (1 : Int64))]) (rest := []) (v0 := none) (st2 := []) d4_22 rfl (hw _ w28) (hw _ w29) (hw _ w9) (hw _ w30) (hw _ w10) (hw _ w31) E_o (by decide) (c_req hw o b p e (1 : Int64) E_o F_o_bytes F_o_position F_o_end (by decide) (by have k2 := rng32 e; rw [Int32.toInt_toInt64, isub_eq (by omega) (by omega), show (1 : Int64).toInt = 1 by decide]; omega)) (by decide) (by decide) rfl rfl rfl (by decide) (by decide) rfl pd__28J_29V rfl rfl (Nat.le_of_eq rfl) ?_
  refine Go.aloadN (pc' := 26) d4_25 rfl rfl rfl ?_
  refine Go.getF (pc' := 29) d4_26 rfl (hw _ w17) Via.refl F_o_bytes ?_
  refine Go.aloadN (pc' := 30) d4_29 rfl rfl rfl ?_
  refine Go.dup (pc' := 31) d4_30 rfl rfl ?_
  refine Go.getF (pc' := 34) d4_31 rfl (hw _ w19) Via.refl F_o_position ?_
  refine Go.dupX1 (pc' := 35) d4_34 rfl rfl rfl ?_
  refine Go.iconst (pc' := 36) d4_35 rfl (z := (1 : Int32)) (by decide) ?_
  refine Go.iadd (pc' := 37) d4_36 rfl rfl ?_
  refine Go.putF (pc' := 40) d4_37 rfl (hw _ w19) Via.refl F_o_position E_o (Or.inl (hw _ w20)) (hw _ w9) (ty := .int) (by decide) rfl rfl ?_
  intro h1 L1 NL1 W1
  replace F_o_position := F_o_position.same W1
  replace N0 := NL1 _ N0 gn_o
  replace sz0 : n0 ≤ h1.size := by rw [W1.size]; exact sz0
  replace E_o := E_o.wr W1
  replace F_o_bytes := F_o_bytes.other W1 (Or.inr (slot_ne (Or.inr (hw _ w18)) (Or.inl (hw _ w20)) (by decide) (t := (.array .byte)) (t' := .int) (by decide) (by decide)))
  replace F_o_end := F_o_end.other W1 (Or.inr (slot_ne (Or.inr (hw _ w22)) (Or.inl (hw _ w20)) (by decide) (t := .int) (t' := .int) (by decide) (by decide)))
  replace A_b := A_b.other W1 (Ne.symm ne_o_b)
  replace K0 := K0.wr W1 (Or.inl (by simp))
  refine Go.baloadB (pc' := 41) d4_40 rfl (i := p0) (v := (.int (bt 0))) A_b hp (hvs 0 (by omega)) ?_
  generalize hv_b2 : (bt 0) = b2
  refine Go.istore (pc' := 43) d4_41 rfl (Ls' := #[.val (.ref o), .val (.long (0 : Int64)), .second, .val (.int (0 : Int32)), .val (.int b2)]) rfl ?_
  refine Go.lloadN (pc' := 44) d4_43 rfl rfl ?_
  refine Go.iload (pc' := 46) d4_44 rfl rfl ?_
  refine Go.bipush (pc' := 48) d4_46 rfl (z := (127 : Int32)) (by decide) ?_
  refine Go.iand (pc' := 49) d4_48 rfl rfl ?_
  refine Go.i2l (pc' := 50) d4_49 rfl rfl ?_
  refine Go.iloadN (pc' := 51) d4_50 rfl rfl ?_
  refine Go.lshl (pc' := 52) d4_51 rfl rfl ?_
  refine Go.lor (pc' := 53) d4_52 rfl rfl ?_
  generalize hv_acc2 : ((0 : Int64) ||| ((b2 &&& (127 : Int32)).toInt64 <<< ((0 : Int32) &&& 0x3f).toInt64)) = acc2
  refine Go.lstoreN (pc' := 54) d4_53 rfl (Ls' := #[.val (.ref o), .val (.long acc2), .second, .val (.int (0 : Int32)), .val (.int b2)]) rfl ?_
  refine Go.iinc (pc' := 57) d4_54 rfl rfl (z := (7 : Int32)) (by decide) (Ls' := #[.val (.ref o), .val (.long acc2), .second, .val (.int (7 : Int32)), .val (.int b2)]) rfl ?_
  have hacc2 : own_low v (7 * (0 + 1)) acc2 := own_or v (0 : Int64) acc2 b2 (0 : Int32) 0 (by omega) (by decide) (own_low0 v) (by rw [← hv_b2]; exact (hbt 0 (by omega)).2.2) hv_acc2
  by_cases hk1 : k = 1
  · have _ := hk1
    refine Go.iload (pc' := 59) d4_57 rfl rfl ?_
    refine Go.ifF (pc' := 62) (X := b2.toInt) d4_59 rfl rfl (by rw [← hv_b2]; exact (hbt 0 (by omega)).2.1 (by omega) : ¬ b2.toInt < 0) ?_
    refine Go.lloadN (pc' := 63) d4_62 rfl rfl ?_
    refine Go.retJ d4_63 rfl (by decide) (by decide) ?_
    exact ⟨acc2, (p + 1), rfl, N0, K0, E_o, F_o_bytes, F_o_position, F_o_end, by have e1 := c_iadd p (1 : Int32); have r1 := rng32 (p + (1 : Int32)); have k1 : (1 : Int32).toInt = 1 := (by decide); have k2 := rng32 e; omega, by rw [show 7 * k = 7 * 1 by omega]; exact hacc2⟩
  · have _ := hk1
    refine Go.iload (pc' := 59) d4_57 rfl rfl ?_
    refine Go.ifT (pc' := 4) (X := b2.toInt) d4_59 (by decide) rfl (by rw [← hv_b2]; exact (hbt 0 (by omega)).1 (by omega) : b2.toInt < 0) ?_
    refine loop_rn hw o b gn_o e v vs bt p0 k hk he hvs hbt (k - 2) 1 acc2 (7 : Int32) b2 (p + 1) h1 L1 (by omega) (by decide) ?_ hacc2 N0 sz0 K0 E_o F_o_bytes F_o_position F_o_end A_b
    have e1 := c_iadd p (1 : Int32)
    have r1 := rng32 (p + (1 : Int32))
    have k1 : (1 : Int32).toInt = 1 := by decide
    have k2 := rng32 e
    omega
set_option maxRecDepth 65536 in
set_option maxHeartbeats 40000000 in
theorem law_con {l : Launch} {Z : State} {a0 : Array Value} (hw : ∀ d ∈ tables_1, d.before a0 Z = true) {h0 : Heap} {n0 : Nat} (sz0 : n0 ≤ h0.size) (v : Int64) (kq : Int32) (oo : Int32) (ee : Int32) (g : Int32) : Con l Z x code maxLocals ret room_1 tables_1 #[(.long v), (.int kq), (.int oo), (.int ee), (.int g)] h0 (LawQ n0) := by
  refine con_of (Ls := #[.val (.long v), .second, .val (.int kq), .val (.int oo), .val (.int ee), .val (.int g), .unset, .unset, .unset, .unset, .unset, .unset, .unset, .unset, .unset]) (plainFor_of_name (by first | (simp [plainName, overriddenIn]; done) | decide +kernel)) (fun m => by first | (simp [entryFrame, mkF, argsToLocals, Value.category, maxLocals]; done) | rfl) ?_
  have N0 : Fr n0 [] := Fr.nil _
  refine Go.iconst (pc' := 1) at_0 rfl (z := (1 : Int32)) (by decide) ?_
  refine Go.iloadN (pc' := 2) at_1 rfl rfl ?_
  refine Go.ldcI (pc' := 4) at_2 rfl (hw _ w0) ?_
  refine Go.iand (pc' := 5) at_4 rfl rfl ?_
  refine Go.bipush (pc' := 7) at_5 rfl (z := (10 : Int32)) (by decide) ?_
  refine Go.irem (pc' := 8) at_7 rfl (by decide) rfl ?_
  refine Go.iadd (pc' := 9) at_8 rfl rfl ?_
  generalize hv_kk : ((1 : Int32) + ((kq &&& (2147483647 : Int32)) % (10 : Int32))) = kk
  refine Go.istore (pc' := 11) at_9 rfl (Ls' := #[.val (.long v), .second, .val (.int kq), .val (.int oo), .val (.int ee), .val (.int g), .val (.int kk), .unset, .unset, .unset, .unset, .unset, .unset, .unset, .unset]) rfl ?_
  have hkk := own_kk kq kk hv_kk
  obtain ⟨K, hK, hK1, hK10⟩ : ∃ K : Nat, kk.toInt = (K : Int) ∧ 1 ≤ K ∧ K ≤ 10 := ⟨kk.toInt.toNat, by omega, by omega, by omega⟩
  refine Go.iloadN (pc' := 12) at_11 rfl rfl ?_
  refine Go.iconst (pc' := 13) at_12 rfl (z := (3 : Int32)) (by decide) ?_
  refine Go.iand (pc' := 14) at_13 rfl rfl ?_
  generalize hv_off : (oo &&& (3 : Int32)) = off
  refine Go.istore (pc' := 16) at_14 rfl (Ls' := #[.val (.long v), .second, .val (.int kq), .val (.int oo), .val (.int ee), .val (.int g), .val (.int kk), .val (.int off), .unset, .unset, .unset, .unset, .unset, .unset, .unset]) rfl ?_
  rcases own_four oo off hv_off with hs1 | hs1 | hs1 | hs1
  · subst hs1
    refine Go.iload (pc' := 18) at_16 rfl rfl ?_
    refine Go.iconst (pc' := 19) at_18 rfl (z := (3 : Int32)) (by decide) ?_
    refine Go.iand (pc' := 20) at_19 rfl rfl ?_
    generalize hv_ex : (ee &&& (3 : Int32)) = ex
    refine Go.istore (pc' := 22) at_20 rfl (Ls' := #[.val (.long v), .second, .val (.int kq), .val (.int oo), .val (.int ee), .val (.int g), .val (.int kk), .val (.int (0 : Int32)), .val (.int ex), .unset, .unset, .unset, .unset, .unset, .unset]) rfl ?_
    have hex3 := own_ex ee ex hv_ex
    refine Go.bipush (pc' := 24) at_22 rfl (z := (16 : Int32)) (by decide) ?_
    refine Go.new_byte (pc' := 26) (k' := 1) (n' := 16) (N := 16) (vs := [(.int (0 : Int32)), (.int (0 : Int32)), (.int (0 : Int32)), (.int (0 : Int32)), (.int (0 : Int32)), (.int (0 : Int32)), (.int (0 : Int32)), (.int (0 : Int32)), (.int (0 : Int32)), (.int (0 : Int32)), (.int (0 : Int32)), (.int (0 : Int32)), (.int (0 : Int32)), (.int (0 : Int32)), (.int (0 : Int32)), (.int (0 : Int32))]) at_24 rfl (hw _ w1) (by decide) rfl 16 (Nat.le_refl _) (by decide) (by decide) (by decide) rfl rfl ?_
    intro h2 arr ha_arr X2 A_arr
    have gn_arr : n0 ≤ arr := by rw [ha_arr]; exact sz0
    replace sz0 : n0 ≤ h2.size := Nat.le_trans sz0 X2.1
    refine Go.astore (pc' := 28) at_26 rfl rfl (Ls' := #[.val (.long v), .second, .val (.int kq), .val (.int oo), .val (.int ee), .val (.int g), .val (.int kk), .val (.int (0 : Int32)), .val (.int ex), .val (.ref arr), .unset, .unset, .unset, .unset, .unset]) rfl ?_
    refine Go.aload (pc' := 30) at_28 rfl rfl rfl ?_
    refine Go.iconst (pc' := 31) at_30 rfl (z := (0 : Int32)) (by decide) ?_
    refine Go.iconst (pc' := 32) at_31 rfl (z := (0 : Int32)) (by decide) ?_
    refine Go.iload (pc' := 34) at_32 rfl rfl ?_
    refine Go.isub (pc' := 35) at_34 rfl (z := (0 : Int32)) (by decide) ?_
    refine Go.lloadN (pc' := 36) at_35 rfl rfl ?_
    refine Go.iload (pc' := 38) at_36 rfl rfl ?_
    refine Go.iload (pc' := 40) at_38 rfl rfl ?_
    refine Go.callS0 (pc' := 43) (W := 2) (argsL := [(.int (0 : Int32)), (.long v), (.int kk), (.int g)]) (rest := [(.int (0 : Int32)), (.ref arr)]) (v0 := some (.int (f_c_at (0 : Int32) v kk g))) (st2 := [(.int (f_c_at (0 : Int32) v kk g)), (.int (0 : Int32)), (.ref arr)]) at_40 rfl (hw _ w2) (hw _ w3) (hw _ w4) (hw _ w5) (by decide) (c_at hw (0 : Int32) v kk g rfl) (by decide) (by decide) rfl rfl rfl (by decide) (by decide) rfl pd__28IJII_29B rfl rfl (Nat.le_of_eq rfl) ?_
    refine Go.bastoreB (pc' := 44) (i := 0) (v := (.int (f_c_at (0 : Int32) v kk g))) (vs' := [(.int (f_c_at (0 : Int32) v kk g)), (.int (0 : Int32)), (.int (0 : Int32)), (.int (0 : Int32)), (.int (0 : Int32)), (.int (0 : Int32)), (.int (0 : Int32)), (.int (0 : Int32)), (.int (0 : Int32)), (.int (0 : Int32)), (.int (0 : Int32)), (.int (0 : Int32)), (.int (0 : Int32)), (.int (0 : Int32)), (.int (0 : Int32)), (.int (0 : Int32))]) at_43 rfl A_arr (by decide) (Nat.le_of_ble_eq_true rfl) (congrArg Value.int (own_nar _ _ _ _)) rfl ?_
    intro h3 L3 NL3 W3 B3
    replace N0 := NL3 _ N0 gn_arr
    replace sz0 : n0 ≤ h3.size := by rw [W3.size]; exact sz0
    clear A_arr; have A_arr := B3
    refine Go.aload (pc' := 46) at_44 rfl rfl rfl ?_
    refine Go.iconst (pc' := 47) at_46 rfl (z := (1 : Int32)) (by decide) ?_
    refine Go.iconst (pc' := 48) at_47 rfl (z := (1 : Int32)) (by decide) ?_
    refine Go.iload (pc' := 50) at_48 rfl rfl ?_
    refine Go.isub (pc' := 51) at_50 rfl (z := (1 : Int32)) (by decide) ?_
    refine Go.lloadN (pc' := 52) at_51 rfl rfl ?_
    refine Go.iload (pc' := 54) at_52 rfl rfl ?_
    refine Go.iload (pc' := 56) at_54 rfl rfl ?_
    refine Go.callS0 (pc' := 59) (W := 2) (argsL := [(.int (1 : Int32)), (.long v), (.int kk), (.int g)]) (rest := [(.int (1 : Int32)), (.ref arr)]) (v0 := some (.int (f_c_at (1 : Int32) v kk g))) (st2 := [(.int (f_c_at (1 : Int32) v kk g)), (.int (1 : Int32)), (.ref arr)]) at_56 rfl (hw _ w2) (hw _ w3) (hw _ w4) (hw _ w5) (by decide) (c_at hw (1 : Int32) v kk g rfl) (by decide) (by decide) rfl rfl rfl (by decide) (by decide) rfl pd__28IJII_29B rfl rfl (Nat.le_of_eq rfl) ?_
    refine Go.bastoreB (pc' := 60) (i := 1) (v := (.int (f_c_at (1 : Int32) v kk g))) (vs' := [(.int (f_c_at (0 : Int32) v kk g)), (.int (f_c_at (1 : Int32) v kk g)), (.int (0 : Int32)), (.int (0 : Int32)), (.int (0 : Int32)), (.int (0 : Int32)), (.int (0 : Int32)), (.int (0 : Int32)), (.int (0 : Int32)), (.int (0 : Int32)), (.int (0 : Int32)), (.int (0 : Int32)), (.int (0 : Int32)), (.int (0 : Int32)), (.int (0 : Int32)), (.int (0 : Int32))]) at_59 rfl A_arr (by decide) (Nat.le_of_ble_eq_true rfl) (congrArg Value.int (own_nar _ _ _ _)) rfl ?_
    intro h4 L4 NL4 W4 B4
    replace N0 := NL4 _ N0 gn_arr
    replace sz0 : n0 ≤ h4.size := by rw [W4.size]; exact sz0
    clear A_arr; have A_arr := B4
    refine Go.aload (pc' := 62) at_60 rfl rfl rfl ?_
    refine Go.iconst (pc' := 63) at_62 rfl (z := (2 : Int32)) (by decide) ?_
    refine Go.iconst (pc' := 64) at_63 rfl (z := (2 : Int32)) (by decide) ?_
    refine Go.iload (pc' := 66) at_64 rfl rfl ?_
    refine Go.isub (pc' := 67) at_66 rfl (z := (2 : Int32)) (by decide) ?_
    refine Go.lloadN (pc' := 68) at_67 rfl rfl ?_
    refine Go.iload (pc' := 70) at_68 rfl rfl ?_
    refine Go.iload (pc' := 72) at_70 rfl rfl ?_
    refine Go.callS0 (pc' := 75) (W := 2) (argsL := [(.int (2 : Int32)), (.long v), (.int kk), (.int g)]) (rest := [(.int (2 : Int32)), (.ref arr)]) (v0 := some (.int (f_c_at (2 : Int32) v kk g))) (st2 := [(.int (f_c_at (2 : Int32) v kk g)), (.int (2 : Int32)), (.ref arr)]) at_72 rfl (hw _ w2) (hw _ w3) (hw _ w4) (hw _ w5) (by decide) (c_at hw (2 : Int32) v kk g rfl) (by decide) (by decide) rfl rfl rfl (by decide) (by decide) rfl pd__28IJII_29B rfl rfl (Nat.le_of_eq rfl) ?_
    refine Go.bastoreB (pc' := 76) (i := 2) (v := (.int (f_c_at (2 : Int32) v kk g))) (vs' := [(.int (f_c_at (0 : Int32) v kk g)), (.int (f_c_at (1 : Int32) v kk g)), (.int (f_c_at (2 : Int32) v kk g)), (.int (0 : Int32)), (.int (0 : Int32)), (.int (0 : Int32)), (.int (0 : Int32)), (.int (0 : Int32)), (.int (0 : Int32)), (.int (0 : Int32)), (.int (0 : Int32)), (.int (0 : Int32)), (.int (0 : Int32)), (.int (0 : Int32)), (.int (0 : Int32)), (.int (0 : Int32))]) at_75 rfl A_arr (by decide) (Nat.le_of_ble_eq_true rfl) (congrArg Value.int (own_nar _ _ _ _)) rfl ?_
    intro h5 L5 NL5 W5 B5
    replace N0 := NL5 _ N0 gn_arr
    replace sz0 : n0 ≤ h5.size := by rw [W5.size]; exact sz0
    clear A_arr; have A_arr := B5
    refine Go.aload (pc' := 78) at_76 rfl rfl rfl ?_
    refine Go.iconst (pc' := 79) at_78 rfl (z := (3 : Int32)) (by decide) ?_
    refine Go.iconst (pc' := 80) at_79 rfl (z := (3 : Int32)) (by decide) ?_
    refine Go.iload (pc' := 82) at_80 rfl rfl ?_
    refine Go.isub (pc' := 83) at_82 rfl (z := (3 : Int32)) (by decide) ?_
    refine Go.lloadN (pc' := 84) at_83 rfl rfl ?_
    refine Go.iload (pc' := 86) at_84 rfl rfl ?_
    refine Go.iload (pc' := 88) at_86 rfl rfl ?_
    refine Go.callS0 (pc' := 91) (W := 2) (argsL := [(.int (3 : Int32)), (.long v), (.int kk), (.int g)]) (rest := [(.int (3 : Int32)), (.ref arr)]) (v0 := some (.int (f_c_at (3 : Int32) v kk g))) (st2 := [(.int (f_c_at (3 : Int32) v kk g)), (.int (3 : Int32)), (.ref arr)]) at_88 rfl (hw _ w2) (hw _ w3) (hw _ w4) (hw _ w5) (by decide) (c_at hw (3 : Int32) v kk g rfl) (by decide) (by decide) rfl rfl rfl (by decide) (by decide) rfl pd__28IJII_29B rfl rfl (Nat.le_of_eq rfl) ?_
    refine Go.bastoreB (pc' := 92) (i := 3) (v := (.int (f_c_at (3 : Int32) v kk g))) (vs' := [(.int (f_c_at (0 : Int32) v kk g)), (.int (f_c_at (1 : Int32) v kk g)), (.int (f_c_at (2 : Int32) v kk g)), (.int (f_c_at (3 : Int32) v kk g)), (.int (0 : Int32)), (.int (0 : Int32)), (.int (0 : Int32)), (.int (0 : Int32)), (.int (0 : Int32)), (.int (0 : Int32)), (.int (0 : Int32)), (.int (0 : Int32)), (.int (0 : Int32)), (.int (0 : Int32)), (.int (0 : Int32)), (.int (0 : Int32))]) at_91 rfl A_arr (by decide) (Nat.le_of_ble_eq_true rfl) (congrArg Value.int (own_nar _ _ _ _)) rfl ?_
    intro h6 L6 NL6 W6 B6
    replace N0 := NL6 _ N0 gn_arr
    replace sz0 : n0 ≤ h6.size := by rw [W6.size]; exact sz0
    clear A_arr; have A_arr := B6
    refine Go.aload (pc' := 94) at_92 rfl rfl rfl ?_
    refine Go.iconst (pc' := 95) at_94 rfl (z := (4 : Int32)) (by decide) ?_
    refine Go.iconst (pc' := 96) at_95 rfl (z := (4 : Int32)) (by decide) ?_
    refine Go.iload (pc' := 98) at_96 rfl rfl ?_
    refine Go.isub (pc' := 99) at_98 rfl (z := (4 : Int32)) (by decide) ?_
    refine Go.lloadN (pc' := 100) at_99 rfl rfl ?_
    refine Go.iload (pc' := 102) at_100 rfl rfl ?_
    refine Go.iload (pc' := 104) at_102 rfl rfl ?_
    refine Go.callS0 (pc' := 107) (W := 2) (argsL := [(.int (4 : Int32)), (.long v), (.int kk), (.int g)]) (rest := [(.int (4 : Int32)), (.ref arr)]) (v0 := some (.int (f_c_at (4 : Int32) v kk g))) (st2 := [(.int (f_c_at (4 : Int32) v kk g)), (.int (4 : Int32)), (.ref arr)]) at_104 rfl (hw _ w2) (hw _ w3) (hw _ w4) (hw _ w5) (by decide) (c_at hw (4 : Int32) v kk g rfl) (by decide) (by decide) rfl rfl rfl (by decide) (by decide) rfl pd__28IJII_29B rfl rfl (Nat.le_of_eq rfl) ?_
    refine Go.bastoreB (pc' := 108) (i := 4) (v := (.int (f_c_at (4 : Int32) v kk g))) (vs' := [(.int (f_c_at (0 : Int32) v kk g)), (.int (f_c_at (1 : Int32) v kk g)), (.int (f_c_at (2 : Int32) v kk g)), (.int (f_c_at (3 : Int32) v kk g)), (.int (f_c_at (4 : Int32) v kk g)), (.int (0 : Int32)), (.int (0 : Int32)), (.int (0 : Int32)), (.int (0 : Int32)), (.int (0 : Int32)), (.int (0 : Int32)), (.int (0 : Int32)), (.int (0 : Int32)), (.int (0 : Int32)), (.int (0 : Int32)), (.int (0 : Int32))]) at_107 rfl A_arr (by decide) (Nat.le_of_ble_eq_true rfl) (congrArg Value.int (own_nar _ _ _ _)) rfl ?_
    intro h7 L7 NL7 W7 B7
    replace N0 := NL7 _ N0 gn_arr
    replace sz0 : n0 ≤ h7.size := by rw [W7.size]; exact sz0
    clear A_arr; have A_arr := B7
    refine Go.aload (pc' := 110) at_108 rfl rfl rfl ?_
    refine Go.iconst (pc' := 111) at_110 rfl (z := (5 : Int32)) (by decide) ?_
    refine Go.iconst (pc' := 112) at_111 rfl (z := (5 : Int32)) (by decide) ?_
    refine Go.iload (pc' := 114) at_112 rfl rfl ?_
    refine Go.isub (pc' := 115) at_114 rfl (z := (5 : Int32)) (by decide) ?_
    refine Go.lloadN (pc' := 116) at_115 rfl rfl ?_
    refine Go.iload (pc' := 118) at_116 rfl rfl ?_
    refine Go.iload (pc' := 120) at_118 rfl rfl ?_
    refine Go.callS0 (pc' := 123) (W := 2) (argsL := [(.int (5 : Int32)), (.long v), (.int kk), (.int g)]) (rest := [(.int (5 : Int32)), (.ref arr)]) (v0 := some (.int (f_c_at (5 : Int32) v kk g))) (st2 := [(.int (f_c_at (5 : Int32) v kk g)), (.int (5 : Int32)), (.ref arr)]) at_120 rfl (hw _ w2) (hw _ w3) (hw _ w4) (hw _ w5) (by decide) (c_at hw (5 : Int32) v kk g rfl) (by decide) (by decide) rfl rfl rfl (by decide) (by decide) rfl pd__28IJII_29B rfl rfl (Nat.le_of_eq rfl) ?_
    refine Go.bastoreB (pc' := 124) (i := 5) (v := (.int (f_c_at (5 : Int32) v kk g))) (vs' := [(.int (f_c_at (0 : Int32) v kk g)), (.int (f_c_at (1 : Int32) v kk g)), (.int (f_c_at (2 : Int32) v kk g)), (.int (f_c_at (3 : Int32) v kk g)), (.int (f_c_at (4 : Int32) v kk g)), (.int (f_c_at (5 : Int32) v kk g)), (.int (0 : Int32)), (.int (0 : Int32)), (.int (0 : Int32)), (.int (0 : Int32)), (.int (0 : Int32)), (.int (0 : Int32)), (.int (0 : Int32)), (.int (0 : Int32)), (.int (0 : Int32)), (.int (0 : Int32))]) at_123 rfl A_arr (by decide) (Nat.le_of_ble_eq_true rfl) (congrArg Value.int (own_nar _ _ _ _)) rfl ?_
    intro h8 L8 NL8 W8 B8
    replace N0 := NL8 _ N0 gn_arr
    replace sz0 : n0 ≤ h8.size := by rw [W8.size]; exact sz0
    clear A_arr; have A_arr := B8
    refine Go.aload (pc' := 126) at_124 rfl rfl rfl ?_
    refine Go.bipush (pc' := 128) at_126 rfl (z := (6 : Int32)) (by decide) ?_
    refine Go.bipush (pc' := 130) at_128 rfl (z := (6 : Int32)) (by decide) ?_
    refine Go.iload (pc' := 132) at_130 rfl rfl ?_
    refine Go.isub (pc' := 133) at_132 rfl (z := (6 : Int32)) (by decide) ?_
    refine Go.lloadN (pc' := 134) at_133 rfl rfl ?_
    refine Go.iload (pc' := 136) at_134 rfl rfl ?_
    refine Go.iload (pc' := 138) at_136 rfl rfl ?_
    refine Go.callS0 (pc' := 141) (W := 2) (argsL := [(.int (6 : Int32)), (.long v), (.int kk), (.int g)]) (rest := [(.int (6 : Int32)), (.ref arr)]) (v0 := some (.int (f_c_at (6 : Int32) v kk g))) (st2 := [(.int (f_c_at (6 : Int32) v kk g)), (.int (6 : Int32)), (.ref arr)]) at_138 rfl (hw _ w2) (hw _ w3) (hw _ w4) (hw _ w5) (by decide) (c_at hw (6 : Int32) v kk g rfl) (by decide) (by decide) rfl rfl rfl (by decide) (by decide) rfl pd__28IJII_29B rfl rfl (Nat.le_of_eq rfl) ?_
    refine Go.bastoreB (pc' := 142) (i := 6) (v := (.int (f_c_at (6 : Int32) v kk g))) (vs' := [(.int (f_c_at (0 : Int32) v kk g)), (.int (f_c_at (1 : Int32) v kk g)), (.int (f_c_at (2 : Int32) v kk g)), (.int (f_c_at (3 : Int32) v kk g)), (.int (f_c_at (4 : Int32) v kk g)), (.int (f_c_at (5 : Int32) v kk g)), (.int (f_c_at (6 : Int32) v kk g)), (.int (0 : Int32)), (.int (0 : Int32)), (.int (0 : Int32)), (.int (0 : Int32)), (.int (0 : Int32)), (.int (0 : Int32)), (.int (0 : Int32)), (.int (0 : Int32)), (.int (0 : Int32))]) at_141 rfl A_arr (by decide) (Nat.le_of_ble_eq_true rfl) (congrArg Value.int (own_nar _ _ _ _)) rfl ?_
    intro h9 L9 NL9 W9 B9
    replace N0 := NL9 _ N0 gn_arr
    replace sz0 : n0 ≤ h9.size := by rw [W9.size]; exact sz0
    clear A_arr; have A_arr := B9
    refine Go.aload (pc' := 144) at_142 rfl rfl rfl ?_
    refine Go.bipush (pc' := 146) at_144 rfl (z := (7 : Int32)) (by decide) ?_
    refine Go.bipush (pc' := 148) at_146 rfl (z := (7 : Int32)) (by decide) ?_
    refine Go.iload (pc' := 150) at_148 rfl rfl ?_
    refine Go.isub (pc' := 151) at_150 rfl (z := (7 : Int32)) (by decide) ?_
    refine Go.lloadN (pc' := 152) at_151 rfl rfl ?_
    refine Go.iload (pc' := 154) at_152 rfl rfl ?_
    refine Go.iload (pc' := 156) at_154 rfl rfl ?_
    refine Go.callS0 (pc' := 159) (W := 2) (argsL := [(.int (7 : Int32)), (.long v), (.int kk), (.int g)]) (rest := [(.int (7 : Int32)), (.ref arr)]) (v0 := some (.int (f_c_at (7 : Int32) v kk g))) (st2 := [(.int (f_c_at (7 : Int32) v kk g)), (.int (7 : Int32)), (.ref arr)]) at_156 rfl (hw _ w2) (hw _ w3) (hw _ w4) (hw _ w5) (by decide) (c_at hw (7 : Int32) v kk g rfl) (by decide) (by decide) rfl rfl rfl (by decide) (by decide) rfl pd__28IJII_29B rfl rfl (Nat.le_of_eq rfl) ?_
    refine Go.bastoreB (pc' := 160) (i := 7) (v := (.int (f_c_at (7 : Int32) v kk g))) (vs' := [(.int (f_c_at (0 : Int32) v kk g)), (.int (f_c_at (1 : Int32) v kk g)), (.int (f_c_at (2 : Int32) v kk g)), (.int (f_c_at (3 : Int32) v kk g)), (.int (f_c_at (4 : Int32) v kk g)), (.int (f_c_at (5 : Int32) v kk g)), (.int (f_c_at (6 : Int32) v kk g)), (.int (f_c_at (7 : Int32) v kk g)), (.int (0 : Int32)), (.int (0 : Int32)), (.int (0 : Int32)), (.int (0 : Int32)), (.int (0 : Int32)), (.int (0 : Int32)), (.int (0 : Int32)), (.int (0 : Int32))]) at_159 rfl A_arr (by decide) (Nat.le_of_ble_eq_true rfl) (congrArg Value.int (own_nar _ _ _ _)) rfl ?_
    intro h10 L10 NL10 W10 B10
    replace N0 := NL10 _ N0 gn_arr
    replace sz0 : n0 ≤ h10.size := by rw [W10.size]; exact sz0
    clear A_arr; have A_arr := B10
    refine Go.aload (pc' := 162) at_160 rfl rfl rfl ?_
    refine Go.bipush (pc' := 164) at_162 rfl (z := (8 : Int32)) (by decide) ?_
    refine Go.bipush (pc' := 166) at_164 rfl (z := (8 : Int32)) (by decide) ?_
    refine Go.iload (pc' := 168) at_166 rfl rfl ?_
    refine Go.isub (pc' := 169) at_168 rfl (z := (8 : Int32)) (by decide) ?_
    refine Go.lloadN (pc' := 170) at_169 rfl rfl ?_
    refine Go.iload (pc' := 172) at_170 rfl rfl ?_
    refine Go.iload (pc' := 174) at_172 rfl rfl ?_
    refine Go.callS0 (pc' := 177) (W := 2) (argsL := [(.int (8 : Int32)), (.long v), (.int kk), (.int g)]) (rest := [(.int (8 : Int32)), (.ref arr)]) (v0 := some (.int (f_c_at (8 : Int32) v kk g))) (st2 := [(.int (f_c_at (8 : Int32) v kk g)), (.int (8 : Int32)), (.ref arr)]) at_174 rfl (hw _ w2) (hw _ w3) (hw _ w4) (hw _ w5) (by decide) (c_at hw (8 : Int32) v kk g rfl) (by decide) (by decide) rfl rfl rfl (by decide) (by decide) rfl pd__28IJII_29B rfl rfl (Nat.le_of_eq rfl) ?_
    refine Go.bastoreB (pc' := 178) (i := 8) (v := (.int (f_c_at (8 : Int32) v kk g))) (vs' := [(.int (f_c_at (0 : Int32) v kk g)), (.int (f_c_at (1 : Int32) v kk g)), (.int (f_c_at (2 : Int32) v kk g)), (.int (f_c_at (3 : Int32) v kk g)), (.int (f_c_at (4 : Int32) v kk g)), (.int (f_c_at (5 : Int32) v kk g)), (.int (f_c_at (6 : Int32) v kk g)), (.int (f_c_at (7 : Int32) v kk g)), (.int (f_c_at (8 : Int32) v kk g)), (.int (0 : Int32)), (.int (0 : Int32)), (.int (0 : Int32)), (.int (0 : Int32)), (.int (0 : Int32)), (.int (0 : Int32)), (.int (0 : Int32))]) at_177 rfl A_arr (by decide) (Nat.le_of_ble_eq_true rfl) (congrArg Value.int (own_nar _ _ _ _)) rfl ?_
    intro h11 L11 NL11 W11 B11
    replace N0 := NL11 _ N0 gn_arr
    replace sz0 : n0 ≤ h11.size := by rw [W11.size]; exact sz0
    clear A_arr; have A_arr := B11
    refine Go.aload (pc' := 180) at_178 rfl rfl rfl ?_
    refine Go.bipush (pc' := 182) at_180 rfl (z := (9 : Int32)) (by decide) ?_
    refine Go.bipush (pc' := 184) at_182 rfl (z := (9 : Int32)) (by decide) ?_
    refine Go.iload (pc' := 186) at_184 rfl rfl ?_
    refine Go.isub (pc' := 187) at_186 rfl (z := (9 : Int32)) (by decide) ?_
    refine Go.lloadN (pc' := 188) at_187 rfl rfl ?_
    refine Go.iload (pc' := 190) at_188 rfl rfl ?_
    refine Go.iload (pc' := 192) at_190 rfl rfl ?_
    refine Go.callS0 (pc' := 195) (W := 2) (argsL := [(.int (9 : Int32)), (.long v), (.int kk), (.int g)]) (rest := [(.int (9 : Int32)), (.ref arr)]) (v0 := some (.int (f_c_at (9 : Int32) v kk g))) (st2 := [(.int (f_c_at (9 : Int32) v kk g)), (.int (9 : Int32)), (.ref arr)]) at_192 rfl (hw _ w2) (hw _ w3) (hw _ w4) (hw _ w5) (by decide) (c_at hw (9 : Int32) v kk g rfl) (by decide) (by decide) rfl rfl rfl (by decide) (by decide) rfl pd__28IJII_29B rfl rfl (Nat.le_of_eq rfl) ?_
    refine Go.bastoreB (pc' := 196) (i := 9) (v := (.int (f_c_at (9 : Int32) v kk g))) (vs' := [(.int (f_c_at (0 : Int32) v kk g)), (.int (f_c_at (1 : Int32) v kk g)), (.int (f_c_at (2 : Int32) v kk g)), (.int (f_c_at (3 : Int32) v kk g)), (.int (f_c_at (4 : Int32) v kk g)), (.int (f_c_at (5 : Int32) v kk g)), (.int (f_c_at (6 : Int32) v kk g)), (.int (f_c_at (7 : Int32) v kk g)), (.int (f_c_at (8 : Int32) v kk g)), (.int (f_c_at (9 : Int32) v kk g)), (.int (0 : Int32)), (.int (0 : Int32)), (.int (0 : Int32)), (.int (0 : Int32)), (.int (0 : Int32)), (.int (0 : Int32))]) at_195 rfl A_arr (by decide) (Nat.le_of_ble_eq_true rfl) (congrArg Value.int (own_nar _ _ _ _)) rfl ?_
    intro h12 L12 NL12 W12 B12
    replace N0 := NL12 _ N0 gn_arr
    replace sz0 : n0 ≤ h12.size := by rw [W12.size]; exact sz0
    clear A_arr; have A_arr := B12
    refine Go.aload (pc' := 198) at_196 rfl rfl rfl ?_
    refine Go.bipush (pc' := 200) at_198 rfl (z := (10 : Int32)) (by decide) ?_
    refine Go.bipush (pc' := 202) at_200 rfl (z := (10 : Int32)) (by decide) ?_
    refine Go.iload (pc' := 204) at_202 rfl rfl ?_
    refine Go.isub (pc' := 205) at_204 rfl (z := (10 : Int32)) (by decide) ?_
    refine Go.lloadN (pc' := 206) at_205 rfl rfl ?_
    refine Go.iload (pc' := 208) at_206 rfl rfl ?_
    refine Go.iload (pc' := 210) at_208 rfl rfl ?_
    refine Go.callS0 (pc' := 213) (W := 2) (argsL := [(.int (10 : Int32)), (.long v), (.int kk), (.int g)]) (rest := [(.int (10 : Int32)), (.ref arr)]) (v0 := some (.int (f_c_at (10 : Int32) v kk g))) (st2 := [(.int (f_c_at (10 : Int32) v kk g)), (.int (10 : Int32)), (.ref arr)]) at_210 rfl (hw _ w2) (hw _ w3) (hw _ w4) (hw _ w5) (by decide) (c_at hw (10 : Int32) v kk g rfl) (by decide) (by decide) rfl rfl rfl (by decide) (by decide) rfl pd__28IJII_29B rfl rfl (Nat.le_of_eq rfl) ?_
    refine Go.bastoreB (pc' := 214) (i := 10) (v := (.int (f_c_at (10 : Int32) v kk g))) (vs' := [(.int (f_c_at (0 : Int32) v kk g)), (.int (f_c_at (1 : Int32) v kk g)), (.int (f_c_at (2 : Int32) v kk g)), (.int (f_c_at (3 : Int32) v kk g)), (.int (f_c_at (4 : Int32) v kk g)), (.int (f_c_at (5 : Int32) v kk g)), (.int (f_c_at (6 : Int32) v kk g)), (.int (f_c_at (7 : Int32) v kk g)), (.int (f_c_at (8 : Int32) v kk g)), (.int (f_c_at (9 : Int32) v kk g)), (.int (f_c_at (10 : Int32) v kk g)), (.int (0 : Int32)), (.int (0 : Int32)), (.int (0 : Int32)), (.int (0 : Int32)), (.int (0 : Int32))]) at_213 rfl A_arr (by decide) (Nat.le_of_ble_eq_true rfl) (congrArg Value.int (own_nar _ _ _ _)) rfl ?_
    intro h13 L13 NL13 W13 B13
    replace N0 := NL13 _ N0 gn_arr
    replace sz0 : n0 ≤ h13.size := by rw [W13.size]; exact sz0
    clear A_arr; have A_arr := B13
    refine Go.aload (pc' := 216) at_214 rfl rfl rfl ?_
    refine Go.bipush (pc' := 218) at_216 rfl (z := (11 : Int32)) (by decide) ?_
    refine Go.bipush (pc' := 220) at_218 rfl (z := (11 : Int32)) (by decide) ?_
    refine Go.iload (pc' := 222) at_220 rfl rfl ?_
    refine Go.isub (pc' := 223) at_222 rfl (z := (11 : Int32)) (by decide) ?_
    refine Go.lloadN (pc' := 224) at_223 rfl rfl ?_
    refine Go.iload (pc' := 226) at_224 rfl rfl ?_
    refine Go.iload (pc' := 228) at_226 rfl rfl ?_
    refine Go.callS0 (pc' := 231) (W := 2) (argsL := [(.int (11 : Int32)), (.long v), (.int kk), (.int g)]) (rest := [(.int (11 : Int32)), (.ref arr)]) (v0 := some (.int (f_c_at (11 : Int32) v kk g))) (st2 := [(.int (f_c_at (11 : Int32) v kk g)), (.int (11 : Int32)), (.ref arr)]) at_228 rfl (hw _ w2) (hw _ w3) (hw _ w4) (hw _ w5) (by decide) (c_at hw (11 : Int32) v kk g rfl) (by decide) (by decide) rfl rfl rfl (by decide) (by decide) rfl pd__28IJII_29B rfl rfl (Nat.le_of_eq rfl) ?_
    refine Go.bastoreB (pc' := 232) (i := 11) (v := (.int (f_c_at (11 : Int32) v kk g))) (vs' := [(.int (f_c_at (0 : Int32) v kk g)), (.int (f_c_at (1 : Int32) v kk g)), (.int (f_c_at (2 : Int32) v kk g)), (.int (f_c_at (3 : Int32) v kk g)), (.int (f_c_at (4 : Int32) v kk g)), (.int (f_c_at (5 : Int32) v kk g)), (.int (f_c_at (6 : Int32) v kk g)), (.int (f_c_at (7 : Int32) v kk g)), (.int (f_c_at (8 : Int32) v kk g)), (.int (f_c_at (9 : Int32) v kk g)), (.int (f_c_at (10 : Int32) v kk g)), (.int (f_c_at (11 : Int32) v kk g)), (.int (0 : Int32)), (.int (0 : Int32)), (.int (0 : Int32)), (.int (0 : Int32))]) at_231 rfl A_arr (by decide) (Nat.le_of_ble_eq_true rfl) (congrArg Value.int (own_nar _ _ _ _)) rfl ?_
    intro h14 L14 NL14 W14 B14
    replace N0 := NL14 _ N0 gn_arr
    replace sz0 : n0 ≤ h14.size := by rw [W14.size]; exact sz0
    clear A_arr; have A_arr := B14
    refine Go.aload (pc' := 234) at_232 rfl rfl rfl ?_
    refine Go.bipush (pc' := 236) at_234 rfl (z := (12 : Int32)) (by decide) ?_
    refine Go.bipush (pc' := 238) at_236 rfl (z := (12 : Int32)) (by decide) ?_
    refine Go.iload (pc' := 240) at_238 rfl rfl ?_
    refine Go.isub (pc' := 241) at_240 rfl (z := (12 : Int32)) (by decide) ?_
    refine Go.lloadN (pc' := 242) at_241 rfl rfl ?_
    refine Go.iload (pc' := 244) at_242 rfl rfl ?_
    refine Go.iload (pc' := 246) at_244 rfl rfl ?_
    refine Go.callS0 (pc' := 249) (W := 2) (argsL := [(.int (12 : Int32)), (.long v), (.int kk), (.int g)]) (rest := [(.int (12 : Int32)), (.ref arr)]) (v0 := some (.int (f_c_at (12 : Int32) v kk g))) (st2 := [(.int (f_c_at (12 : Int32) v kk g)), (.int (12 : Int32)), (.ref arr)]) at_246 rfl (hw _ w2) (hw _ w3) (hw _ w4) (hw _ w5) (by decide) (c_at hw (12 : Int32) v kk g rfl) (by decide) (by decide) rfl rfl rfl (by decide) (by decide) rfl pd__28IJII_29B rfl rfl (Nat.le_of_eq rfl) ?_
    refine Go.bastoreB (pc' := 250) (i := 12) (v := (.int (f_c_at (12 : Int32) v kk g))) (vs' := [(.int (f_c_at (0 : Int32) v kk g)), (.int (f_c_at (1 : Int32) v kk g)), (.int (f_c_at (2 : Int32) v kk g)), (.int (f_c_at (3 : Int32) v kk g)), (.int (f_c_at (4 : Int32) v kk g)), (.int (f_c_at (5 : Int32) v kk g)), (.int (f_c_at (6 : Int32) v kk g)), (.int (f_c_at (7 : Int32) v kk g)), (.int (f_c_at (8 : Int32) v kk g)), (.int (f_c_at (9 : Int32) v kk g)), (.int (f_c_at (10 : Int32) v kk g)), (.int (f_c_at (11 : Int32) v kk g)), (.int (f_c_at (12 : Int32) v kk g)), (.int (0 : Int32)), (.int (0 : Int32)), (.int (0 : Int32))]) at_249 rfl A_arr (by decide) (Nat.le_of_ble_eq_true rfl) (congrArg Value.int (own_nar _ _ _ _)) rfl ?_
    intro h15 L15 NL15 W15 B15
    replace N0 := NL15 _ N0 gn_arr
    replace sz0 : n0 ≤ h15.size := by rw [W15.size]; exact sz0
    clear A_arr; have A_arr := B15
    refine Go.aload (pc' := 252) at_250 rfl rfl rfl ?_
    refine Go.bipush (pc' := 254) at_252 rfl (z := (13 : Int32)) (by decide) ?_
    refine Go.bipush (pc' := 256) at_254 rfl (z := (13 : Int32)) (by decide) ?_
    refine Go.iload (pc' := 258) at_256 rfl rfl ?_
    refine Go.isub (pc' := 259) at_258 rfl (z := (13 : Int32)) (by decide) ?_
    refine Go.lloadN (pc' := 260) at_259 rfl rfl ?_
    refine Go.iload (pc' := 262) at_260 rfl rfl ?_
    refine Go.iload (pc' := 264) at_262 rfl rfl ?_
    refine Go.callS0 (pc' := 267) (W := 2) (argsL := [(.int (13 : Int32)), (.long v), (.int kk), (.int g)]) (rest := [(.int (13 : Int32)), (.ref arr)]) (v0 := some (.int (f_c_at (13 : Int32) v kk g))) (st2 := [(.int (f_c_at (13 : Int32) v kk g)), (.int (13 : Int32)), (.ref arr)]) at_264 rfl (hw _ w2) (hw _ w3) (hw _ w4) (hw _ w5) (by decide) (c_at hw (13 : Int32) v kk g rfl) (by decide) (by decide) rfl rfl rfl (by decide) (by decide) rfl pd__28IJII_29B rfl rfl (Nat.le_of_eq rfl) ?_
    refine Go.bastoreB (pc' := 268) (i := 13) (v := (.int (f_c_at (13 : Int32) v kk g))) (vs' := [(.int (f_c_at (0 : Int32) v kk g)), (.int (f_c_at (1 : Int32) v kk g)), (.int (f_c_at (2 : Int32) v kk g)), (.int (f_c_at (3 : Int32) v kk g)), (.int (f_c_at (4 : Int32) v kk g)), (.int (f_c_at (5 : Int32) v kk g)), (.int (f_c_at (6 : Int32) v kk g)), (.int (f_c_at (7 : Int32) v kk g)), (.int (f_c_at (8 : Int32) v kk g)), (.int (f_c_at (9 : Int32) v kk g)), (.int (f_c_at (10 : Int32) v kk g)), (.int (f_c_at (11 : Int32) v kk g)), (.int (f_c_at (12 : Int32) v kk g)), (.int (f_c_at (13 : Int32) v kk g)), (.int (0 : Int32)), (.int (0 : Int32))]) at_267 rfl A_arr (by decide) (Nat.le_of_ble_eq_true rfl) (congrArg Value.int (own_nar _ _ _ _)) rfl ?_
    intro h16 L16 NL16 W16 B16
    replace N0 := NL16 _ N0 gn_arr
    replace sz0 : n0 ≤ h16.size := by rw [W16.size]; exact sz0
    clear A_arr; have A_arr := B16
    refine Go.aload (pc' := 270) at_268 rfl rfl rfl ?_
    refine Go.bipush (pc' := 272) at_270 rfl (z := (14 : Int32)) (by decide) ?_
    refine Go.bipush (pc' := 274) at_272 rfl (z := (14 : Int32)) (by decide) ?_
    refine Go.iload (pc' := 276) at_274 rfl rfl ?_
    refine Go.isub (pc' := 277) at_276 rfl (z := (14 : Int32)) (by decide) ?_
    refine Go.lloadN (pc' := 278) at_277 rfl rfl ?_
    refine Go.iload (pc' := 280) at_278 rfl rfl ?_
    refine Go.iload (pc' := 282) at_280 rfl rfl ?_
    refine Go.callS0 (pc' := 285) (W := 2) (argsL := [(.int (14 : Int32)), (.long v), (.int kk), (.int g)]) (rest := [(.int (14 : Int32)), (.ref arr)]) (v0 := some (.int (f_c_at (14 : Int32) v kk g))) (st2 := [(.int (f_c_at (14 : Int32) v kk g)), (.int (14 : Int32)), (.ref arr)]) at_282 rfl (hw _ w2) (hw _ w3) (hw _ w4) (hw _ w5) (by decide) (c_at hw (14 : Int32) v kk g rfl) (by decide) (by decide) rfl rfl rfl (by decide) (by decide) rfl pd__28IJII_29B rfl rfl (Nat.le_of_eq rfl) ?_
    refine Go.bastoreB (pc' := 286) (i := 14) (v := (.int (f_c_at (14 : Int32) v kk g))) (vs' := [(.int (f_c_at (0 : Int32) v kk g)), (.int (f_c_at (1 : Int32) v kk g)), (.int (f_c_at (2 : Int32) v kk g)), (.int (f_c_at (3 : Int32) v kk g)), (.int (f_c_at (4 : Int32) v kk g)), (.int (f_c_at (5 : Int32) v kk g)), (.int (f_c_at (6 : Int32) v kk g)), (.int (f_c_at (7 : Int32) v kk g)), (.int (f_c_at (8 : Int32) v kk g)), (.int (f_c_at (9 : Int32) v kk g)), (.int (f_c_at (10 : Int32) v kk g)), (.int (f_c_at (11 : Int32) v kk g)), (.int (f_c_at (12 : Int32) v kk g)), (.int (f_c_at (13 : Int32) v kk g)), (.int (f_c_at (14 : Int32) v kk g)), (.int (0 : Int32))]) at_285 rfl A_arr (by decide) (Nat.le_of_ble_eq_true rfl) (congrArg Value.int (own_nar _ _ _ _)) rfl ?_
    intro h17 L17 NL17 W17 B17
    replace N0 := NL17 _ N0 gn_arr
    replace sz0 : n0 ≤ h17.size := by rw [W17.size]; exact sz0
    clear A_arr; have A_arr := B17
    refine Go.aload (pc' := 288) at_286 rfl rfl rfl ?_
    refine Go.bipush (pc' := 290) at_288 rfl (z := (15 : Int32)) (by decide) ?_
    refine Go.bipush (pc' := 292) at_290 rfl (z := (15 : Int32)) (by decide) ?_
    refine Go.iload (pc' := 294) at_292 rfl rfl ?_
    refine Go.isub (pc' := 295) at_294 rfl (z := (15 : Int32)) (by decide) ?_
    refine Go.lloadN (pc' := 296) at_295 rfl rfl ?_
    refine Go.iload (pc' := 298) at_296 rfl rfl ?_
    refine Go.iload (pc' := 300) at_298 rfl rfl ?_
    refine Go.callS0 (pc' := 303) (W := 2) (argsL := [(.int (15 : Int32)), (.long v), (.int kk), (.int g)]) (rest := [(.int (15 : Int32)), (.ref arr)]) (v0 := some (.int (f_c_at (15 : Int32) v kk g))) (st2 := [(.int (f_c_at (15 : Int32) v kk g)), (.int (15 : Int32)), (.ref arr)]) at_300 rfl (hw _ w2) (hw _ w3) (hw _ w4) (hw _ w5) (by decide) (c_at hw (15 : Int32) v kk g rfl) (by decide) (by decide) rfl rfl rfl (by decide) (by decide) rfl pd__28IJII_29B rfl rfl (Nat.le_of_eq rfl) ?_
    refine Go.bastoreB (pc' := 304) (i := 15) (v := (.int (f_c_at (15 : Int32) v kk g))) (vs' := [(.int (f_c_at (0 : Int32) v kk g)), (.int (f_c_at (1 : Int32) v kk g)), (.int (f_c_at (2 : Int32) v kk g)), (.int (f_c_at (3 : Int32) v kk g)), (.int (f_c_at (4 : Int32) v kk g)), (.int (f_c_at (5 : Int32) v kk g)), (.int (f_c_at (6 : Int32) v kk g)), (.int (f_c_at (7 : Int32) v kk g)), (.int (f_c_at (8 : Int32) v kk g)), (.int (f_c_at (9 : Int32) v kk g)), (.int (f_c_at (10 : Int32) v kk g)), (.int (f_c_at (11 : Int32) v kk g)), (.int (f_c_at (12 : Int32) v kk g)), (.int (f_c_at (13 : Int32) v kk g)), (.int (f_c_at (14 : Int32) v kk g)), (.int (f_c_at (15 : Int32) v kk g))]) at_303 rfl A_arr (by decide) (Nat.le_of_ble_eq_true rfl) (congrArg Value.int (own_nar _ _ _ _)) rfl ?_
    intro h18 L18 NL18 W18 B18
    replace N0 := NL18 _ N0 gn_arr
    replace sz0 : n0 ≤ h18.size := by rw [W18.size]; exact sz0
    clear A_arr; have A_arr := B18
    refine Go.newO (pc' := 307) (k' := 2) (n' := 19) at_304 rfl (hw _ w8) (hw _ w9) (hw _ w10) (by decide) (by decide) rfl rfl ?_
    intro h19 a19 ha_a19 X19 E_a19 D19
    have ne_arr_a19 : arr ≠ a19 := Nat.ne_of_lt (by rw [ha_a19]; exact A_arr.lt)
    have gn_a19 : n0 ≤ a19 := by rw [ha_a19]; exact sz0
    replace sz0 : n0 ≤ h19.size := Nat.le_trans sz0 X19.1
    replace A_arr := A_arr.ext X19
    have F_a19_bytes : Fld Z h19 a19 "com/example/mixed_urn/mixedurn/index/ByteReader" "bytes" "[B" .null := D19 (Or.inr (hw _ w18)) (ty := (.array .byte)) (by decide)
    have F_a19_position : Fld Z h19 a19 "com/example/mixed_urn/mixedurn/index/ByteReader" "position" "I" (.int (0 : Int32)) := D19 (Or.inl (hw _ w20)) (ty := .int) (by decide)
    have F_a19_end : Fld Z h19 a19 "com/example/mixed_urn/mixedurn/index/ByteReader" "end" "I" (.int (0 : Int32)) := D19 (Or.inr (hw _ w22)) (ty := .int) (by decide)
    refine Go.dup (pc' := 308) at_307 rfl rfl ?_
    refine Go.aload (pc' := 310) at_308 rfl rfl rfl ?_
    refine Go.iload (pc' := 312) at_310 rfl rfl ?_
    refine Go.iload (pc' := 314) at_312 rfl rfl ?_
    refine Go.iload (pc' := 316) at_314 rfl rfl ?_
    refine Go.iadd (pc' := 317) at_316 rfl rfl ?_
    refine Go.callI (pc' := 320) (W := 1) (a := a19) (argsL := [(.ref arr), (.int (0 : Int32)), (.int (kk + ex))]) (rest := [(.ref a19)]) (k' := 2) (n' := 19) at_317 rfl rfl (hw _ w11) (hw _ w12) (hw _ w10) (hw _ w13) (by decide) (c_init hw sz0 a19 arr (0 : Int32) (kk + ex) gn_a19 E_a19 F_a19_bytes F_a19_position F_a19_end) (by decide) (by decide) (by decide) (by decide) rfl rfl rfl pd__28_5bBII_29V rfl rfl (Nat.le_of_eq rfl) ?_
    intro v20 h20 P20 L20 NL20 hq20
    obtain ⟨rfl, N20, K20, E_a19_20, F_a19_bytes_20, F_a19_position_20, F_a19_end_20⟩ := hq20
    dsimp only [Option.toList, List.cons_append, List.nil_append]
    replace N0 := NL20 _ N0 N20
    replace sz0 : n0 ≤ h20.size := Nat.le_trans sz0 K20.1
    clear E_a19
    clear F_a19_bytes
    clear F_a19_position
    clear F_a19_end
    replace A_arr := A_arr.keep K20 (ninS ne_arr_a19 nin0)
    have E_a19 := E_a19_20; clear E_a19_20
    have F_a19_bytes := F_a19_bytes_20; clear F_a19_bytes_20
    have F_a19_position := F_a19_position_20; clear F_a19_position_20
    have F_a19_end := F_a19_end_20; clear F_a19_end_20
    refine Go.astore (pc' := 322) at_320 rfl rfl (Ls' := #[.val (.long v), .second, .val (.int kq), .val (.int oo), .val (.int ee), .val (.int g), .val (.int kk), .val (.int (0 : Int32)), .val (.int ex), .val (.ref arr), .val (.ref a19), .unset, .unset, .unset, .unset]) rfl ?_
    refine Go.aload (pc' := 324) at_322 rfl rfl rfl ?_
    have hvs : ∀ i, i < K → ([(.int (f_c_at (0 : Int32) v kk g)), (.int (f_c_at (1 : Int32) v kk g)), (.int (f_c_at (2 : Int32) v kk g)), (.int (f_c_at (3 : Int32) v kk g)), (.int (f_c_at (4 : Int32) v kk g)), (.int (f_c_at (5 : Int32) v kk g)), (.int (f_c_at (6 : Int32) v kk g)), (.int (f_c_at (7 : Int32) v kk g)), (.int (f_c_at (8 : Int32) v kk g)), (.int (f_c_at (9 : Int32) v kk g)), (.int (f_c_at (10 : Int32) v kk g)), (.int (f_c_at (11 : Int32) v kk g)), (.int (f_c_at (12 : Int32) v kk g)), (.int (f_c_at (13 : Int32) v kk g)), (.int (f_c_at (14 : Int32) v kk g)), (.int (f_c_at (15 : Int32) v kk g))] : List Value)[0 + i]? = some (.int (f_c_at (Int32.ofNat i) v kk g)) := by
      intro i hi
      match i, (show i < 10 by omega) with
      | 0, _ => rfl
      | 1, _ => rfl
      | 2, _ => rfl
      | 3, _ => rfl
      | 4, _ => rfl
      | 5, _ => rfl
      | 6, _ => rfl
      | 7, _ => rfl
      | 8, _ => rfl
      | 9, _ => rfl
    have ko : (0 : Int32).toInt = 0 := by decide
    have ea : (kk + ex).toInt = kk.toInt + ex.toInt := iadd_eq (by omega) (by omega)
    have eb : ((0 : Int32) + (kk + ex)).toInt = 0 + kk.toInt + ex.toInt := by rw [iadd_eq (by omega) (by omega), ko, ea]; omega
    refine Go.callV (pc' := 327) (W := 0) (a := a19) (argsL := []) (rest := []) (k' := 2) (n' := 19) at_324 rfl (hw _ w23) (hw _ w24) (nf_sel (hw _ w26)) (hw _ w26) (hw _ w25) (hw _ w10) (hw _ w27) E_a19 (by decide) (c_rn hw sz0 a19 arr gn_a19 ((0 : Int32) + (kk + ex)) v _ (fun i => f_c_at (Int32.ofNat i) v kk g) 0 K hK10 (by omega) hvs (fun i hi => own_at v kk g K i hK hi hK10) (0 : Int32) E_a19 F_a19_bytes F_a19_position F_a19_end A_arr (by decide) hK1) (by decide) (by decide) (by decide) (by decide) rfl rfl rfl pd__28_29J rfl rfl (Nat.le_of_eq rfl) ?_
    intro v21 h21 P21 L21 NL21 hq21
    obtain ⟨res, pk, rfl, N21, K21, E_a19_21, F_a19_bytes_21, F_a19_position_21, F_a19_end_21, hpk, hres⟩ := hq21
    dsimp only [Option.toList, List.cons_append, List.nil_append]
    replace N0 := NL21 _ N0 N21
    replace sz0 : n0 ≤ h21.size := Nat.le_trans sz0 K21.1
    clear E_a19
    clear F_a19_bytes
    clear F_a19_position
    clear F_a19_end
    replace A_arr := A_arr.keep K21 (ninS ne_arr_a19 nin0)
    have E_a19 := E_a19_21; clear E_a19_21
    have F_a19_bytes := F_a19_bytes_21; clear F_a19_bytes_21
    have F_a19_position := F_a19_position_21; clear F_a19_position_21
    have F_a19_end := F_a19_end_21; clear F_a19_end_21
    refine Go.lstore (pc' := 329) at_327 rfl (Ls' := #[.val (.long v), .second, .val (.int kq), .val (.int oo), .val (.int ee), .val (.int g), .val (.int kk), .val (.int (0 : Int32)), .val (.int ex), .val (.ref arr), .val (.ref a19), .val (.long res), .second, .unset, .unset]) rfl ?_
    rcases own_ten kk K hK hK1 hK10 with hs22 | hs22 | hs22 | hs22 | hs22 | hs22 | hs22 | hs22 | hs22 | hs22
    · subst hs22
      have kn : (1 : Int32).toInt = 1 := by decide
      obtain rfl : K = 1 := by omega
      refine Go.bipush (pc' := 331) at_329 rfl (z := (7 : Int32)) (by decide) ?_
      refine Go.iload (pc' := 333) at_331 rfl rfl ?_
      refine Go.imul (pc' := 334) at_333 rfl (z := (7 : Int32)) (by decide) ?_
      refine Go.bipush (pc' := 336) at_334 rfl (z := (64 : Int32)) (by decide) ?_
      refine Go.icmpT (pc' := 343) (X := (7 : Int)) (Y := (64 : Int)) at_336 (by decide) (by decide) (by decide) (by decide : (7 : Int) < (64 : Int)) ?_
      refine Go.lloadN (pc' := 344) at_343 rfl rfl ?_
      refine Go.lconst (pc' := 345) at_344 rfl (z := (1 : Int64)) (by decide) ?_
      refine Go.bipush (pc' := 347) at_345 rfl (z := (7 : Int32)) (by decide) ?_
      refine Go.iload (pc' := 349) at_347 rfl rfl ?_
      refine Go.imul (pc' := 350) at_349 rfl (z := (7 : Int32)) (by decide) ?_
      refine Go.lshl (pc' := 351) at_350 rfl (z := (128 : Int64)) (by decide) ?_
      refine Go.lconst (pc' := 352) at_351 rfl (z := (1 : Int64)) (by decide) ?_
      refine Go.lsub (pc' := 353) at_352 rfl (z := (127 : Int64)) (by decide) ?_
      refine Go.land (pc' := 354) at_353 rfl rfl ?_
      generalize hv_want : (v &&& (127 : Int64)) = want
      refine Go.lstore (pc' := 356) at_354 rfl (Ls' := #[.val (.long v), .second, .val (.int kq), .val (.int oo), .val (.int ee), .val (.int g), .val (.int (1 : Int32)), .val (.int (0 : Int32)), .val (.int ex), .val (.ref arr), .val (.ref a19), .val (.long res), .second, .val (.long want), .second]) rfl ?_
      
      by_cases hex : 0 < ex.toInt
      · have _ := hex
        refine Go.lload (pc' := 358) at_356 rfl rfl ?_
        refine Go.lload (pc' := 360) at_358 rfl rfl ?_
        refine Go.lcmpF (pc' := 364) (X := res.toInt) (Y := want.toInt) at_360 at_361 rfl rfl rfl rfl (by rw [← hv_want]; exact congrArg _ (own_want v res (127 : Int64) (7 * 1) (by decide) hres) : res.toInt = want.toInt) ?_
        refine Go.aload (pc' := 366) at_364 rfl rfl rfl ?_
        refine Go.callV0 (pc' := 369) (W := 0) (a := a19) (argsL := []) (rest := []) (v0 := some (.int pk)) (st2 := [(.int pk)]) at_366 rfl (hw _ w32) (hw _ w33) (nf_sel (hw _ w35)) (hw _ w35) (hw _ w34) (hw _ w10) (hw _ w36) E_a19 (by decide) (c_pos hw a19 arr pk ((0 : Int32) + ((1 : Int32) + ex)) E_a19 F_a19_bytes F_a19_position F_a19_end) (by decide) (by decide) rfl rfl rfl (by decide) (by decide) rfl pd__28_29I rfl rfl (Nat.le_of_eq rfl) ?_
        refine Go.iload (pc' := 371) at_369 rfl rfl ?_
        refine Go.iload (pc' := 373) at_371 rfl rfl ?_
        refine Go.iadd (pc' := 374) at_373 rfl (z := (1 : Int32)) (by decide) ?_
        refine Go.icmpF (pc' := 377) (X := pk.toInt) (Y := (1 : Int)) at_374 rfl rfl (by decide) (by omega : pk.toInt = (1 : Int)) ?_
        refine Go.aload (pc' := 379) at_377 rfl rfl rfl ?_
        refine Go.callV0 (pc' := 382) (W := 0) (a := a19) (argsL := []) (rest := []) (v0 := some (.int (1 : Int32))) (st2 := [(.int (1 : Int32))]) at_379 rfl (hw _ w37) (hw _ w38) (nf_sel (hw _ w40)) (hw _ w40) (hw _ w39) (hw _ w10) (hw _ w41) E_a19 (by decide) (c_has hw a19 arr pk ((0 : Int32) + ((1 : Int32) + ex)) (1 : Int32) E_a19 F_a19_bytes F_a19_position F_a19_end (if_pos (by omega))) (by decide) (by decide) rfl rfl rfl (by decide) (by decide) rfl pd__28_29Z rfl rfl (Nat.le_of_eq rfl) ?_
        refine Go.iload (pc' := 384) at_382 rfl rfl ?_
        refine Go.ifF (pc' := 387) (X := ex.toInt) at_384 rfl rfl (by omega : 0 < ex.toInt) ?_
        refine Go.iconst (pc' := 388) at_387 rfl (z := (1 : Int32)) (by decide) ?_
        refine Go.goto (pc' := 392) at_388 (by decide) ?_
        refine Go.icmpF (pc' := 395) (X := (1 : Int)) (Y := (1 : Int)) at_392 rfl (by decide) (by decide) (by decide : (1 : Int) = (1 : Int)) ?_
        refine Go.iconst (pc' := 396) at_395 rfl (z := (1 : Int32)) (by decide) ?_
        refine Go.goto (pc' := 400) at_396 (by decide) ?_
        refine Go.retZ at_400 rfl (by decide) (by decide) (by decide) ?_
        exact ⟨rfl, N0⟩
      · have _ := hex
        refine Go.lload (pc' := 358) at_356 rfl rfl ?_
        refine Go.lload (pc' := 360) at_358 rfl rfl ?_
        refine Go.lcmpF (pc' := 364) (X := res.toInt) (Y := want.toInt) at_360 at_361 rfl rfl rfl rfl (by rw [← hv_want]; exact congrArg _ (own_want v res (127 : Int64) (7 * 1) (by decide) hres) : res.toInt = want.toInt) ?_
        refine Go.aload (pc' := 366) at_364 rfl rfl rfl ?_
        refine Go.callV0 (pc' := 369) (W := 0) (a := a19) (argsL := []) (rest := []) (v0 := some (.int pk)) (st2 := [(.int pk)]) at_366 rfl (hw _ w32) (hw _ w33) (nf_sel (hw _ w35)) (hw _ w35) (hw _ w34) (hw _ w10) (hw _ w36) E_a19 (by decide) (c_pos hw a19 arr pk ((0 : Int32) + ((1 : Int32) + ex)) E_a19 F_a19_bytes F_a19_position F_a19_end) (by decide) (by decide) rfl rfl rfl (by decide) (by decide) rfl pd__28_29I rfl rfl (Nat.le_of_eq rfl) ?_
        refine Go.iload (pc' := 371) at_369 rfl rfl ?_
        refine Go.iload (pc' := 373) at_371 rfl rfl ?_
        refine Go.iadd (pc' := 374) at_373 rfl (z := (1 : Int32)) (by decide) ?_
        refine Go.icmpF (pc' := 377) (X := pk.toInt) (Y := (1 : Int)) at_374 rfl rfl (by decide) (by omega : pk.toInt = (1 : Int)) ?_
        refine Go.aload (pc' := 379) at_377 rfl rfl rfl ?_
        refine Go.callV0 (pc' := 382) (W := 0) (a := a19) (argsL := []) (rest := []) (v0 := some (.int (0 : Int32))) (st2 := [(.int (0 : Int32))]) at_379 rfl (hw _ w37) (hw _ w38) (nf_sel (hw _ w40)) (hw _ w40) (hw _ w39) (hw _ w10) (hw _ w41) E_a19 (by decide) (c_has hw a19 arr pk ((0 : Int32) + ((1 : Int32) + ex)) (0 : Int32) E_a19 F_a19_bytes F_a19_position F_a19_end (if_neg (by omega))) (by decide) (by decide) rfl rfl rfl (by decide) (by decide) rfl pd__28_29Z rfl rfl (Nat.le_of_eq rfl) ?_
        refine Go.iload (pc' := 384) at_382 rfl rfl ?_
        refine Go.ifT (pc' := 391) (X := ex.toInt) at_384 (by decide) rfl (by omega : ¬ 0 < ex.toInt) ?_
        refine Go.iconst (pc' := 392) at_391 rfl (z := (0 : Int32)) (by decide) ?_
        refine Go.icmpF (pc' := 395) (X := (0 : Int)) (Y := (0 : Int)) at_392 rfl (by decide) (by decide) (by decide : (0 : Int) = (0 : Int)) ?_
        refine Go.iconst (pc' := 396) at_395 rfl (z := (1 : Int32)) (by decide) ?_
        refine Go.goto (pc' := 400) at_396 (by decide) ?_
        refine Go.retZ at_400 rfl (by decide) (by decide) (by decide) ?_
        exact ⟨rfl, N0⟩
    · subst hs22
      have kn : (2 : Int32).toInt = 2 := by decide
      obtain rfl : K = 2 := by omega
      refine Go.bipush (pc' := 331) at_329 rfl (z := (7 : Int32)) (by decide) ?_
      refine Go.iload (pc' := 333) at_331 rfl rfl ?_
      refine Go.imul (pc' := 334) at_333 rfl (z := (14 : Int32)) (by decide) ?_
      refine Go.bipush (pc' := 336) at_334 rfl (z := (64 : Int32)) (by decide) ?_
      refine Go.icmpT (pc' := 343) (X := (14 : Int)) (Y := (64 : Int)) at_336 (by decide) (by decide) (by decide) (by decide : (14 : Int) < (64 : Int)) ?_
      refine Go.lloadN (pc' := 344) at_343 rfl rfl ?_
      refine Go.lconst (pc' := 345) at_344 rfl (z := (1 : Int64)) (by decide) ?_
      refine Go.bipush (pc' := 347) at_345 rfl (z := (7 : Int32)) (by decide) ?_
      refine Go.iload (pc' := 349) at_347 rfl rfl ?_
      refine Go.imul (pc' := 350) at_349 rfl (z := (14 : Int32)) (by decide) ?_
      refine Go.lshl (pc' := 351) at_350 rfl (z := (16384 : Int64)) (by decide) ?_
      refine Go.lconst (pc' := 352) at_351 rfl (z := (1 : Int64)) (by decide) ?_
      refine Go.lsub (pc' := 353) at_352 rfl (z := (16383 : Int64)) (by decide) ?_
      refine Go.land (pc' := 354) at_353 rfl rfl ?_
      generalize hv_want : (v &&& (16383 : Int64)) = want
      refine Go.lstore (pc' := 356) at_354 rfl (Ls' := #[.val (.long v), .second, .val (.int kq), .val (.int oo), .val (.int ee), .val (.int g), .val (.int (2 : Int32)), .val (.int (0 : Int32)), .val (.int ex), .val (.ref arr), .val (.ref a19), .val (.long res), .second, .val (.long want), .second]) rfl ?_
      
      by_cases hex : 0 < ex.toInt
      · have _ := hex
        refine Go.lload (pc' := 358) at_356 rfl rfl ?_
        refine Go.lload (pc' := 360) at_358 rfl rfl ?_
        refine Go.lcmpF (pc' := 364) (X := res.toInt) (Y := want.toInt) at_360 at_361 rfl rfl rfl rfl (by rw [← hv_want]; exact congrArg _ (own_want v res (16383 : Int64) (7 * 2) (by decide) hres) : res.toInt = want.toInt) ?_
        refine Go.aload (pc' := 366) at_364 rfl rfl rfl ?_
        refine Go.callV0 (pc' := 369) (W := 0) (a := a19) (argsL := []) (rest := []) (v0 := some (.int pk)) (st2 := [(.int pk)]) at_366 rfl (hw _ w32) (hw _ w33) (nf_sel (hw _ w35)) (hw _ w35) (hw _ w34) (hw _ w10) (hw _ w36) E_a19 (by decide) (c_pos hw a19 arr pk ((0 : Int32) + ((2 : Int32) + ex)) E_a19 F_a19_bytes F_a19_position F_a19_end) (by decide) (by decide) rfl rfl rfl (by decide) (by decide) rfl pd__28_29I rfl rfl (Nat.le_of_eq rfl) ?_
        refine Go.iload (pc' := 371) at_369 rfl rfl ?_
        refine Go.iload (pc' := 373) at_371 rfl rfl ?_
        refine Go.iadd (pc' := 374) at_373 rfl (z := (2 : Int32)) (by decide) ?_
        refine Go.icmpF (pc' := 377) (X := pk.toInt) (Y := (2 : Int)) at_374 rfl rfl (by decide) (by omega : pk.toInt = (2 : Int)) ?_
        refine Go.aload (pc' := 379) at_377 rfl rfl rfl ?_
        refine Go.callV0 (pc' := 382) (W := 0) (a := a19) (argsL := []) (rest := []) (v0 := some (.int (1 : Int32))) (st2 := [(.int (1 : Int32))]) at_379 rfl (hw _ w37) (hw _ w38) (nf_sel (hw _ w40)) (hw _ w40) (hw _ w39) (hw _ w10) (hw _ w41) E_a19 (by decide) (c_has hw a19 arr pk ((0 : Int32) + ((2 : Int32) + ex)) (1 : Int32) E_a19 F_a19_bytes F_a19_position F_a19_end (if_pos (by omega))) (by decide) (by decide) rfl rfl rfl (by decide) (by decide) rfl pd__28_29Z rfl rfl (Nat.le_of_eq rfl) ?_
        refine Go.iload (pc' := 384) at_382 rfl rfl ?_
        refine Go.ifF (pc' := 387) (X := ex.toInt) at_384 rfl rfl (by omega : 0 < ex.toInt) ?_
        refine Go.iconst (pc' := 388) at_387 rfl (z := (1 : Int32)) (by decide) ?_
        refine Go.goto (pc' := 392) at_388 (by decide) ?_
        refine Go.icmpF (pc' := 395) (X := (1 : Int)) (Y := (1 : Int)) at_392 rfl (by decide) (by decide) (by decide : (1 : Int) = (1 : Int)) ?_
        refine Go.iconst (pc' := 396) at_395 rfl (z := (1 : Int32)) (by decide) ?_
        refine Go.goto (pc' := 400) at_396 (by decide) ?_
        refine Go.retZ at_400 rfl (by decide) (by decide) (by decide) ?_
        exact ⟨rfl, N0⟩
      · have _ := hex
        refine Go.lload (pc' := 358) at_356 rfl rfl ?_
        refine Go.lload (pc' := 360) at_358 rfl rfl ?_
        refine Go.lcmpF (pc' := 364) (X := res.toInt) (Y := want.toInt) at_360 at_361 rfl rfl rfl rfl (by rw [← hv_want]; exact congrArg _ (own_want v res (16383 : Int64) (7 * 2) (by decide) hres) : res.toInt = want.toInt) ?_
        refine Go.aload (pc' := 366) at_364 rfl rfl rfl ?_
        refine Go.callV0 (pc' := 369) (W := 0) (a := a19) (argsL := []) (rest := []) (v0 := some (.int pk)) (st2 := [(.int pk)]) at_366 rfl (hw _ w32) (hw _ w33) (nf_sel (hw _ w35)) (hw _ w35) (hw _ w34) (hw _ w10) (hw _ w36) E_a19 (by decide) (c_pos hw a19 arr pk ((0 : Int32) + ((2 : Int32) + ex)) E_a19 F_a19_bytes F_a19_position F_a19_end) (by decide) (by decide) rfl rfl rfl (by decide) (by decide) rfl pd__28_29I rfl rfl (Nat.le_of_eq rfl) ?_
        refine Go.iload (pc' := 371) at_369 rfl rfl ?_
        refine Go.iload (pc' := 373) at_371 rfl rfl ?_
        refine Go.iadd (pc' := 374) at_373 rfl (z := (2 : Int32)) (by decide) ?_
        refine Go.icmpF (pc' := 377) (X := pk.toInt) (Y := (2 : Int)) at_374 rfl rfl (by decide) (by omega : pk.toInt = (2 : Int)) ?_
        refine Go.aload (pc' := 379) at_377 rfl rfl rfl ?_
        refine Go.callV0 (pc' := 382) (W := 0) (a := a19) (argsL := []) (rest := []) (v0 := some (.int (0 : Int32))) (st2 := [(.int (0 : Int32))]) at_379 rfl (hw _ w37) (hw _ w38) (nf_sel (hw _ w40)) (hw _ w40) (hw _ w39) (hw _ w10) (hw _ w41) E_a19 (by decide) (c_has hw a19 arr pk ((0 : Int32) + ((2 : Int32) + ex)) (0 : Int32) E_a19 F_a19_bytes F_a19_position F_a19_end (if_neg (by omega))) (by decide) (by decide) rfl rfl rfl (by decide) (by decide) rfl pd__28_29Z rfl rfl (Nat.le_of_eq rfl) ?_
        refine Go.iload (pc' := 384) at_382 rfl rfl ?_
        refine Go.ifT (pc' := 391) (X := ex.toInt) at_384 (by decide) rfl (by omega : ¬ 0 < ex.toInt) ?_
        refine Go.iconst (pc' := 392) at_391 rfl (z := (0 : Int32)) (by decide) ?_
        refine Go.icmpF (pc' := 395) (X := (0 : Int)) (Y := (0 : Int)) at_392 rfl (by decide) (by decide) (by decide : (0 : Int) = (0 : Int)) ?_
        refine Go.iconst (pc' := 396) at_395 rfl (z := (1 : Int32)) (by decide) ?_
        refine Go.goto (pc' := 400) at_396 (by decide) ?_
        refine Go.retZ at_400 rfl (by decide) (by decide) (by decide) ?_
        exact ⟨rfl, N0⟩
    · subst hs22
      have kn : (3 : Int32).toInt = 3 := by decide
      obtain rfl : K = 3 := by omega
      refine Go.bipush (pc' := 331) at_329 rfl (z := (7 : Int32)) (by decide) ?_
      refine Go.iload (pc' := 333) at_331 rfl rfl ?_
      refine Go.imul (pc' := 334) at_333 rfl (z := (21 : Int32)) (by decide) ?_
      refine Go.bipush (pc' := 336) at_334 rfl (z := (64 : Int32)) (by decide) ?_
      refine Go.icmpT (pc' := 343) (X := (21 : Int)) (Y := (64 : Int)) at_336 (by decide) (by decide) (by decide) (by decide : (21 : Int) < (64 : Int)) ?_
      refine Go.lloadN (pc' := 344) at_343 rfl rfl ?_
      refine Go.lconst (pc' := 345) at_344 rfl (z := (1 : Int64)) (by decide) ?_
      refine Go.bipush (pc' := 347) at_345 rfl (z := (7 : Int32)) (by decide) ?_
      refine Go.iload (pc' := 349) at_347 rfl rfl ?_
      refine Go.imul (pc' := 350) at_349 rfl (z := (21 : Int32)) (by decide) ?_
      refine Go.lshl (pc' := 351) at_350 rfl (z := (2097152 : Int64)) (by decide) ?_
      refine Go.lconst (pc' := 352) at_351 rfl (z := (1 : Int64)) (by decide) ?_
      refine Go.lsub (pc' := 353) at_352 rfl (z := (2097151 : Int64)) (by decide) ?_
      refine Go.land (pc' := 354) at_353 rfl rfl ?_
      generalize hv_want : (v &&& (2097151 : Int64)) = want
      refine Go.lstore (pc' := 356) at_354 rfl (Ls' := #[.val (.long v), .second, .val (.int kq), .val (.int oo), .val (.int ee), .val (.int g), .val (.int (3 : Int32)), .val (.int (0 : Int32)), .val (.int ex), .val (.ref arr), .val (.ref a19), .val (.long res), .second, .val (.long want), .second]) rfl ?_
      
      by_cases hex : 0 < ex.toInt
      · have _ := hex
        refine Go.lload (pc' := 358) at_356 rfl rfl ?_
        refine Go.lload (pc' := 360) at_358 rfl rfl ?_
        refine Go.lcmpF (pc' := 364) (X := res.toInt) (Y := want.toInt) at_360 at_361 rfl rfl rfl rfl (by rw [← hv_want]; exact congrArg _ (own_want v res (2097151 : Int64) (7 * 3) (by decide) hres) : res.toInt = want.toInt) ?_
        refine Go.aload (pc' := 366) at_364 rfl rfl rfl ?_
        refine Go.callV0 (pc' := 369) (W := 0) (a := a19) (argsL := []) (rest := []) (v0 := some (.int pk)) (st2 := [(.int pk)]) at_366 rfl (hw _ w32) (hw _ w33) (nf_sel (hw _ w35)) (hw _ w35) (hw _ w34) (hw _ w10) (hw _ w36) E_a19 (by decide) (c_pos hw a19 arr pk ((0 : Int32) + ((3 : Int32) + ex)) E_a19 F_a19_bytes F_a19_position F_a19_end) (by decide) (by decide) rfl rfl rfl (by decide) (by decide) rfl pd__28_29I rfl rfl (Nat.le_of_eq rfl) ?_
        refine Go.iload (pc' := 371) at_369 rfl rfl ?_
        refine Go.iload (pc' := 373) at_371 rfl rfl ?_
        refine Go.iadd (pc' := 374) at_373 rfl (z := (3 : Int32)) (by decide) ?_
        refine Go.icmpF (pc' := 377) (X := pk.toInt) (Y := (3 : Int)) at_374 rfl rfl (by decide) (by omega : pk.toInt = (3 : Int)) ?_
        refine Go.aload (pc' := 379) at_377 rfl rfl rfl ?_
        refine Go.callV0 (pc' := 382) (W := 0) (a := a19) (argsL := []) (rest := []) (v0 := some (.int (1 : Int32))) (st2 := [(.int (1 : Int32))]) at_379 rfl (hw _ w37) (hw _ w38) (nf_sel (hw _ w40)) (hw _ w40) (hw _ w39) (hw _ w10) (hw _ w41) E_a19 (by decide) (c_has hw a19 arr pk ((0 : Int32) + ((3 : Int32) + ex)) (1 : Int32) E_a19 F_a19_bytes F_a19_position F_a19_end (if_pos (by omega))) (by decide) (by decide) rfl rfl rfl (by decide) (by decide) rfl pd__28_29Z rfl rfl (Nat.le_of_eq rfl) ?_
        refine Go.iload (pc' := 384) at_382 rfl rfl ?_
        refine Go.ifF (pc' := 387) (X := ex.toInt) at_384 rfl rfl (by omega : 0 < ex.toInt) ?_
        refine Go.iconst (pc' := 388) at_387 rfl (z := (1 : Int32)) (by decide) ?_
        refine Go.goto (pc' := 392) at_388 (by decide) ?_
        refine Go.icmpF (pc' := 395) (X := (1 : Int)) (Y := (1 : Int)) at_392 rfl (by decide) (by decide) (by decide : (1 : Int) = (1 : Int)) ?_
        refine Go.iconst (pc' := 396) at_395 rfl (z := (1 : Int32)) (by decide) ?_
        refine Go.goto (pc' := 400) at_396 (by decide) ?_
        refine Go.retZ at_400 rfl (by decide) (by decide) (by decide) ?_
        exact ⟨rfl, N0⟩
      · have _ := hex
        refine Go.lload (pc' := 358) at_356 rfl rfl ?_
        refine Go.lload (pc' := 360) at_358 rfl rfl ?_
        refine Go.lcmpF (pc' := 364) (X := res.toInt) (Y := want.toInt) at_360 at_361 rfl rfl rfl rfl (by rw [← hv_want]; exact congrArg _ (own_want v res (2097151 : Int64) (7 * 3) (by decide) hres) : res.toInt = want.toInt) ?_
        refine Go.aload (pc' := 366) at_364 rfl rfl rfl ?_
        refine Go.callV0 (pc' := 369) (W := 0) (a := a19) (argsL := []) (rest := []) (v0 := some (.int pk)) (st2 := [(.int pk)]) at_366 rfl (hw _ w32) (hw _ w33) (nf_sel (hw _ w35)) (hw _ w35) (hw _ w34) (hw _ w10) (hw _ w36) E_a19 (by decide) (c_pos hw a19 arr pk ((0 : Int32) + ((3 : Int32) + ex)) E_a19 F_a19_bytes F_a19_position F_a19_end) (by decide) (by decide) rfl rfl rfl (by decide) (by decide) rfl pd__28_29I rfl rfl (Nat.le_of_eq rfl) ?_
        refine Go.iload (pc' := 371) at_369 rfl rfl ?_
        refine Go.iload (pc' := 373) at_371 rfl rfl ?_
        refine Go.iadd (pc' := 374) at_373 rfl (z := (3 : Int32)) (by decide) ?_
        refine Go.icmpF (pc' := 377) (X := pk.toInt) (Y := (3 : Int)) at_374 rfl rfl (by decide) (by omega : pk.toInt = (3 : Int)) ?_
        refine Go.aload (pc' := 379) at_377 rfl rfl rfl ?_
        refine Go.callV0 (pc' := 382) (W := 0) (a := a19) (argsL := []) (rest := []) (v0 := some (.int (0 : Int32))) (st2 := [(.int (0 : Int32))]) at_379 rfl (hw _ w37) (hw _ w38) (nf_sel (hw _ w40)) (hw _ w40) (hw _ w39) (hw _ w10) (hw _ w41) E_a19 (by decide) (c_has hw a19 arr pk ((0 : Int32) + ((3 : Int32) + ex)) (0 : Int32) E_a19 F_a19_bytes F_a19_position F_a19_end (if_neg (by omega))) (by decide) (by decide) rfl rfl rfl (by decide) (by decide) rfl pd__28_29Z rfl rfl (Nat.le_of_eq rfl) ?_
        refine Go.iload (pc' := 384) at_382 rfl rfl ?_
        refine Go.ifT (pc' := 391) (X := ex.toInt) at_384 (by decide) rfl (by omega : ¬ 0 < ex.toInt) ?_
        refine Go.iconst (pc' := 392) at_391 rfl (z := (0 : Int32)) (by decide) ?_
        refine Go.icmpF (pc' := 395) (X := (0 : Int)) (Y := (0 : Int)) at_392 rfl (by decide) (by decide) (by decide : (0 : Int) = (0 : Int)) ?_
        refine Go.iconst (pc' := 396) at_395 rfl (z := (1 : Int32)) (by decide) ?_
        refine Go.goto (pc' := 400) at_396 (by decide) ?_
        refine Go.retZ at_400 rfl (by decide) (by decide) (by decide) ?_
        exact ⟨rfl, N0⟩
    · subst hs22
      have kn : (4 : Int32).toInt = 4 := by decide
      obtain rfl : K = 4 := by omega
      refine Go.bipush (pc' := 331) at_329 rfl (z := (7 : Int32)) (by decide) ?_
      refine Go.iload (pc' := 333) at_331 rfl rfl ?_
      refine Go.imul (pc' := 334) at_333 rfl (z := (28 : Int32)) (by decide) ?_
      refine Go.bipush (pc' := 336) at_334 rfl (z := (64 : Int32)) (by decide) ?_
      refine Go.icmpT (pc' := 343) (X := (28 : Int)) (Y := (64 : Int)) at_336 (by decide) (by decide) (by decide) (by decide : (28 : Int) < (64 : Int)) ?_
      refine Go.lloadN (pc' := 344) at_343 rfl rfl ?_
      refine Go.lconst (pc' := 345) at_344 rfl (z := (1 : Int64)) (by decide) ?_
      refine Go.bipush (pc' := 347) at_345 rfl (z := (7 : Int32)) (by decide) ?_
      refine Go.iload (pc' := 349) at_347 rfl rfl ?_
      refine Go.imul (pc' := 350) at_349 rfl (z := (28 : Int32)) (by decide) ?_
      refine Go.lshl (pc' := 351) at_350 rfl (z := (268435456 : Int64)) (by decide) ?_
      refine Go.lconst (pc' := 352) at_351 rfl (z := (1 : Int64)) (by decide) ?_
      refine Go.lsub (pc' := 353) at_352 rfl (z := (268435455 : Int64)) (by decide) ?_
      refine Go.land (pc' := 354) at_353 rfl rfl ?_
      generalize hv_want : (v &&& (268435455 : Int64)) = want
      refine Go.lstore (pc' := 356) at_354 rfl (Ls' := #[.val (.long v), .second, .val (.int kq), .val (.int oo), .val (.int ee), .val (.int g), .val (.int (4 : Int32)), .val (.int (0 : Int32)), .val (.int ex), .val (.ref arr), .val (.ref a19), .val (.long res), .second, .val (.long want), .second]) rfl ?_
      
      by_cases hex : 0 < ex.toInt
      · have _ := hex
        refine Go.lload (pc' := 358) at_356 rfl rfl ?_
        refine Go.lload (pc' := 360) at_358 rfl rfl ?_
        refine Go.lcmpF (pc' := 364) (X := res.toInt) (Y := want.toInt) at_360 at_361 rfl rfl rfl rfl (by rw [← hv_want]; exact congrArg _ (own_want v res (268435455 : Int64) (7 * 4) (by decide) hres) : res.toInt = want.toInt) ?_
        refine Go.aload (pc' := 366) at_364 rfl rfl rfl ?_
        refine Go.callV0 (pc' := 369) (W := 0) (a := a19) (argsL := []) (rest := []) (v0 := some (.int pk)) (st2 := [(.int pk)]) at_366 rfl (hw _ w32) (hw _ w33) (nf_sel (hw _ w35)) (hw _ w35) (hw _ w34) (hw _ w10) (hw _ w36) E_a19 (by decide) (c_pos hw a19 arr pk ((0 : Int32) + ((4 : Int32) + ex)) E_a19 F_a19_bytes F_a19_position F_a19_end) (by decide) (by decide) rfl rfl rfl (by decide) (by decide) rfl pd__28_29I rfl rfl (Nat.le_of_eq rfl) ?_
        refine Go.iload (pc' := 371) at_369 rfl rfl ?_
        refine Go.iload (pc' := 373) at_371 rfl rfl ?_
        refine Go.iadd (pc' := 374) at_373 rfl (z := (4 : Int32)) (by decide) ?_
        refine Go.icmpF (pc' := 377) (X := pk.toInt) (Y := (4 : Int)) at_374 rfl rfl (by decide) (by omega : pk.toInt = (4 : Int)) ?_
        refine Go.aload (pc' := 379) at_377 rfl rfl rfl ?_
        refine Go.callV0 (pc' := 382) (W := 0) (a := a19) (argsL := []) (rest := []) (v0 := some (.int (1 : Int32))) (st2 := [(.int (1 : Int32))]) at_379 rfl (hw _ w37) (hw _ w38) (nf_sel (hw _ w40)) (hw _ w40) (hw _ w39) (hw _ w10) (hw _ w41) E_a19 (by decide) (c_has hw a19 arr pk ((0 : Int32) + ((4 : Int32) + ex)) (1 : Int32) E_a19 F_a19_bytes F_a19_position F_a19_end (if_pos (by omega))) (by decide) (by decide) rfl rfl rfl (by decide) (by decide) rfl pd__28_29Z rfl rfl (Nat.le_of_eq rfl) ?_
        refine Go.iload (pc' := 384) at_382 rfl rfl ?_
        refine Go.ifF (pc' := 387) (X := ex.toInt) at_384 rfl rfl (by omega : 0 < ex.toInt) ?_
        refine Go.iconst (pc' := 388) at_387 rfl (z := (1 : Int32)) (by decide) ?_
        refine Go.goto (pc' := 392) at_388 (by decide) ?_
        refine Go.icmpF (pc' := 395) (X := (1 : Int)) (Y := (1 : Int)) at_392 rfl (by decide) (by decide) (by decide : (1 : Int) = (1 : Int)) ?_
        refine Go.iconst (pc' := 396) at_395 rfl (z := (1 : Int32)) (by decide) ?_
        refine Go.goto (pc' := 400) at_396 (by decide) ?_
        refine Go.retZ at_400 rfl (by decide) (by decide) (by decide) ?_
        exact ⟨rfl, N0⟩
      · have _ := hex
        refine Go.lload (pc' := 358) at_356 rfl rfl ?_
        refine Go.lload (pc' := 360) at_358 rfl rfl ?_
        refine Go.lcmpF (pc' := 364) (X := res.toInt) (Y := want.toInt) at_360 at_361 rfl rfl rfl rfl (by rw [← hv_want]; exact congrArg _ (own_want v res (268435455 : Int64) (7 * 4) (by decide) hres) : res.toInt = want.toInt) ?_
        refine Go.aload (pc' := 366) at_364 rfl rfl rfl ?_
        refine Go.callV0 (pc' := 369) (W := 0) (a := a19) (argsL := []) (rest := []) (v0 := some (.int pk)) (st2 := [(.int pk)]) at_366 rfl (hw _ w32) (hw _ w33) (nf_sel (hw _ w35)) (hw _ w35) (hw _ w34) (hw _ w10) (hw _ w36) E_a19 (by decide) (c_pos hw a19 arr pk ((0 : Int32) + ((4 : Int32) + ex)) E_a19 F_a19_bytes F_a19_position F_a19_end) (by decide) (by decide) rfl rfl rfl (by decide) (by decide) rfl pd__28_29I rfl rfl (Nat.le_of_eq rfl) ?_
        refine Go.iload (pc' := 371) at_369 rfl rfl ?_
        refine Go.iload (pc' := 373) at_371 rfl rfl ?_
        refine Go.iadd (pc' := 374) at_373 rfl (z := (4 : Int32)) (by decide) ?_
        refine Go.icmpF (pc' := 377) (X := pk.toInt) (Y := (4 : Int)) at_374 rfl rfl (by decide) (by omega : pk.toInt = (4 : Int)) ?_
        refine Go.aload (pc' := 379) at_377 rfl rfl rfl ?_
        refine Go.callV0 (pc' := 382) (W := 0) (a := a19) (argsL := []) (rest := []) (v0 := some (.int (0 : Int32))) (st2 := [(.int (0 : Int32))]) at_379 rfl (hw _ w37) (hw _ w38) (nf_sel (hw _ w40)) (hw _ w40) (hw _ w39) (hw _ w10) (hw _ w41) E_a19 (by decide) (c_has hw a19 arr pk ((0 : Int32) + ((4 : Int32) + ex)) (0 : Int32) E_a19 F_a19_bytes F_a19_position F_a19_end (if_neg (by omega))) (by decide) (by decide) rfl rfl rfl (by decide) (by decide) rfl pd__28_29Z rfl rfl (Nat.le_of_eq rfl) ?_
        refine Go.iload (pc' := 384) at_382 rfl rfl ?_
        refine Go.ifT (pc' := 391) (X := ex.toInt) at_384 (by decide) rfl (by omega : ¬ 0 < ex.toInt) ?_
        refine Go.iconst (pc' := 392) at_391 rfl (z := (0 : Int32)) (by decide) ?_
        refine Go.icmpF (pc' := 395) (X := (0 : Int)) (Y := (0 : Int)) at_392 rfl (by decide) (by decide) (by decide : (0 : Int) = (0 : Int)) ?_
        refine Go.iconst (pc' := 396) at_395 rfl (z := (1 : Int32)) (by decide) ?_
        refine Go.goto (pc' := 400) at_396 (by decide) ?_
        refine Go.retZ at_400 rfl (by decide) (by decide) (by decide) ?_
        exact ⟨rfl, N0⟩
    · subst hs22
      have kn : (5 : Int32).toInt = 5 := by decide
      obtain rfl : K = 5 := by omega
      refine Go.bipush (pc' := 331) at_329 rfl (z := (7 : Int32)) (by decide) ?_
      refine Go.iload (pc' := 333) at_331 rfl rfl ?_
      refine Go.imul (pc' := 334) at_333 rfl (z := (35 : Int32)) (by decide) ?_
      refine Go.bipush (pc' := 336) at_334 rfl (z := (64 : Int32)) (by decide) ?_
      refine Go.icmpT (pc' := 343) (X := (35 : Int)) (Y := (64 : Int)) at_336 (by decide) (by decide) (by decide) (by decide : (35 : Int) < (64 : Int)) ?_
      refine Go.lloadN (pc' := 344) at_343 rfl rfl ?_
      refine Go.lconst (pc' := 345) at_344 rfl (z := (1 : Int64)) (by decide) ?_
      refine Go.bipush (pc' := 347) at_345 rfl (z := (7 : Int32)) (by decide) ?_
      refine Go.iload (pc' := 349) at_347 rfl rfl ?_
      refine Go.imul (pc' := 350) at_349 rfl (z := (35 : Int32)) (by decide) ?_
      refine Go.lshl (pc' := 351) at_350 rfl (z := (34359738368 : Int64)) (by decide) ?_
      refine Go.lconst (pc' := 352) at_351 rfl (z := (1 : Int64)) (by decide) ?_
      refine Go.lsub (pc' := 353) at_352 rfl (z := (34359738367 : Int64)) (by decide) ?_
      refine Go.land (pc' := 354) at_353 rfl rfl ?_
      generalize hv_want : (v &&& (34359738367 : Int64)) = want
      refine Go.lstore (pc' := 356) at_354 rfl (Ls' := #[.val (.long v), .second, .val (.int kq), .val (.int oo), .val (.int ee), .val (.int g), .val (.int (5 : Int32)), .val (.int (0 : Int32)), .val (.int ex), .val (.ref arr), .val (.ref a19), .val (.long res), .second, .val (.long want), .second]) rfl ?_
      
      by_cases hex : 0 < ex.toInt
      · have _ := hex
        refine Go.lload (pc' := 358) at_356 rfl rfl ?_
        refine Go.lload (pc' := 360) at_358 rfl rfl ?_
        refine Go.lcmpF (pc' := 364) (X := res.toInt) (Y := want.toInt) at_360 at_361 rfl rfl rfl rfl (by rw [← hv_want]; exact congrArg _ (own_want v res (34359738367 : Int64) (7 * 5) (by decide) hres) : res.toInt = want.toInt) ?_
        refine Go.aload (pc' := 366) at_364 rfl rfl rfl ?_
        refine Go.callV0 (pc' := 369) (W := 0) (a := a19) (argsL := []) (rest := []) (v0 := some (.int pk)) (st2 := [(.int pk)]) at_366 rfl (hw _ w32) (hw _ w33) (nf_sel (hw _ w35)) (hw _ w35) (hw _ w34) (hw _ w10) (hw _ w36) E_a19 (by decide) (c_pos hw a19 arr pk ((0 : Int32) + ((5 : Int32) + ex)) E_a19 F_a19_bytes F_a19_position F_a19_end) (by decide) (by decide) rfl rfl rfl (by decide) (by decide) rfl pd__28_29I rfl rfl (Nat.le_of_eq rfl) ?_
        refine Go.iload (pc' := 371) at_369 rfl rfl ?_
        refine Go.iload (pc' := 373) at_371 rfl rfl ?_
        refine Go.iadd (pc' := 374) at_373 rfl (z := (5 : Int32)) (by decide) ?_
        refine Go.icmpF (pc' := 377) (X := pk.toInt) (Y := (5 : Int)) at_374 rfl rfl (by decide) (by omega : pk.toInt = (5 : Int)) ?_
        refine Go.aload (pc' := 379) at_377 rfl rfl rfl ?_
        refine Go.callV0 (pc' := 382) (W := 0) (a := a19) (argsL := []) (rest := []) (v0 := some (.int (1 : Int32))) (st2 := [(.int (1 : Int32))]) at_379 rfl (hw _ w37) (hw _ w38) (nf_sel (hw _ w40)) (hw _ w40) (hw _ w39) (hw _ w10) (hw _ w41) E_a19 (by decide) (c_has hw a19 arr pk ((0 : Int32) + ((5 : Int32) + ex)) (1 : Int32) E_a19 F_a19_bytes F_a19_position F_a19_end (if_pos (by omega))) (by decide) (by decide) rfl rfl rfl (by decide) (by decide) rfl pd__28_29Z rfl rfl (Nat.le_of_eq rfl) ?_
        refine Go.iload (pc' := 384) at_382 rfl rfl ?_
        refine Go.ifF (pc' := 387) (X := ex.toInt) at_384 rfl rfl (by omega : 0 < ex.toInt) ?_
        refine Go.iconst (pc' := 388) at_387 rfl (z := (1 : Int32)) (by decide) ?_
        refine Go.goto (pc' := 392) at_388 (by decide) ?_
        refine Go.icmpF (pc' := 395) (X := (1 : Int)) (Y := (1 : Int)) at_392 rfl (by decide) (by decide) (by decide : (1 : Int) = (1 : Int)) ?_
        refine Go.iconst (pc' := 396) at_395 rfl (z := (1 : Int32)) (by decide) ?_
        refine Go.goto (pc' := 400) at_396 (by decide) ?_
        refine Go.retZ at_400 rfl (by decide) (by decide) (by decide) ?_
        exact ⟨rfl, N0⟩
      · have _ := hex
        refine Go.lload (pc' := 358) at_356 rfl rfl ?_
        refine Go.lload (pc' := 360) at_358 rfl rfl ?_
        refine Go.lcmpF (pc' := 364) (X := res.toInt) (Y := want.toInt) at_360 at_361 rfl rfl rfl rfl (by rw [← hv_want]; exact congrArg _ (own_want v res (34359738367 : Int64) (7 * 5) (by decide) hres) : res.toInt = want.toInt) ?_
        refine Go.aload (pc' := 366) at_364 rfl rfl rfl ?_
        refine Go.callV0 (pc' := 369) (W := 0) (a := a19) (argsL := []) (rest := []) (v0 := some (.int pk)) (st2 := [(.int pk)]) at_366 rfl (hw _ w32) (hw _ w33) (nf_sel (hw _ w35)) (hw _ w35) (hw _ w34) (hw _ w10) (hw _ w36) E_a19 (by decide) (c_pos hw a19 arr pk ((0 : Int32) + ((5 : Int32) + ex)) E_a19 F_a19_bytes F_a19_position F_a19_end) (by decide) (by decide) rfl rfl rfl (by decide) (by decide) rfl pd__28_29I rfl rfl (Nat.le_of_eq rfl) ?_
        refine Go.iload (pc' := 371) at_369 rfl rfl ?_
        refine Go.iload (pc' := 373) at_371 rfl rfl ?_
        refine Go.iadd (pc' := 374) at_373 rfl (z := (5 : Int32)) (by decide) ?_
        refine Go.icmpF (pc' := 377) (X := pk.toInt) (Y := (5 : Int)) at_374 rfl rfl (by decide) (by omega : pk.toInt = (5 : Int)) ?_
        refine Go.aload (pc' := 379) at_377 rfl rfl rfl ?_
        refine Go.callV0 (pc' := 382) (W := 0) (a := a19) (argsL := []) (rest := []) (v0 := some (.int (0 : Int32))) (st2 := [(.int (0 : Int32))]) at_379 rfl (hw _ w37) (hw _ w38) (nf_sel (hw _ w40)) (hw _ w40) (hw _ w39) (hw _ w10) (hw _ w41) E_a19 (by decide) (c_has hw a19 arr pk ((0 : Int32) + ((5 : Int32) + ex)) (0 : Int32) E_a19 F_a19_bytes F_a19_position F_a19_end (if_neg (by omega))) (by decide) (by decide) rfl rfl rfl (by decide) (by decide) rfl pd__28_29Z rfl rfl (Nat.le_of_eq rfl) ?_
        refine Go.iload (pc' := 384) at_382 rfl rfl ?_
        refine Go.ifT (pc' := 391) (X := ex.toInt) at_384 (by decide) rfl (by omega : ¬ 0 < ex.toInt) ?_
        refine Go.iconst (pc' := 392) at_391 rfl (z := (0 : Int32)) (by decide) ?_
        refine Go.icmpF (pc' := 395) (X := (0 : Int)) (Y := (0 : Int)) at_392 rfl (by decide) (by decide) (by decide : (0 : Int) = (0 : Int)) ?_
        refine Go.iconst (pc' := 396) at_395 rfl (z := (1 : Int32)) (by decide) ?_
        refine Go.goto (pc' := 400) at_396 (by decide) ?_
        refine Go.retZ at_400 rfl (by decide) (by decide) (by decide) ?_
        exact ⟨rfl, N0⟩
    · subst hs22
      have kn : (6 : Int32).toInt = 6 := by decide
      obtain rfl : K = 6 := by omega
      refine Go.bipush (pc' := 331) at_329 rfl (z := (7 : Int32)) (by decide) ?_
      refine Go.iload (pc' := 333) at_331 rfl rfl ?_
      refine Go.imul (pc' := 334) at_333 rfl (z := (42 : Int32)) (by decide) ?_
      refine Go.bipush (pc' := 336) at_334 rfl (z := (64 : Int32)) (by decide) ?_
      refine Go.icmpT (pc' := 343) (X := (42 : Int)) (Y := (64 : Int)) at_336 (by decide) (by decide) (by decide) (by decide : (42 : Int) < (64 : Int)) ?_
      refine Go.lloadN (pc' := 344) at_343 rfl rfl ?_
      refine Go.lconst (pc' := 345) at_344 rfl (z := (1 : Int64)) (by decide) ?_
      refine Go.bipush (pc' := 347) at_345 rfl (z := (7 : Int32)) (by decide) ?_
      refine Go.iload (pc' := 349) at_347 rfl rfl ?_
      refine Go.imul (pc' := 350) at_349 rfl (z := (42 : Int32)) (by decide) ?_
      refine Go.lshl (pc' := 351) at_350 rfl (z := (4398046511104 : Int64)) (by decide) ?_
      refine Go.lconst (pc' := 352) at_351 rfl (z := (1 : Int64)) (by decide) ?_
      refine Go.lsub (pc' := 353) at_352 rfl (z := (4398046511103 : Int64)) (by decide) ?_
      refine Go.land (pc' := 354) at_353 rfl rfl ?_
      generalize hv_want : (v &&& (4398046511103 : Int64)) = want
      refine Go.lstore (pc' := 356) at_354 rfl (Ls' := #[.val (.long v), .second, .val (.int kq), .val (.int oo), .val (.int ee), .val (.int g), .val (.int (6 : Int32)), .val (.int (0 : Int32)), .val (.int ex), .val (.ref arr), .val (.ref a19), .val (.long res), .second, .val (.long want), .second]) rfl ?_
      
      by_cases hex : 0 < ex.toInt
      · have _ := hex
        refine Go.lload (pc' := 358) at_356 rfl rfl ?_
        refine Go.lload (pc' := 360) at_358 rfl rfl ?_
        refine Go.lcmpF (pc' := 364) (X := res.toInt) (Y := want.toInt) at_360 at_361 rfl rfl rfl rfl (by rw [← hv_want]; exact congrArg _ (own_want v res (4398046511103 : Int64) (7 * 6) (by decide) hres) : res.toInt = want.toInt) ?_
        refine Go.aload (pc' := 366) at_364 rfl rfl rfl ?_
        refine Go.callV0 (pc' := 369) (W := 0) (a := a19) (argsL := []) (rest := []) (v0 := some (.int pk)) (st2 := [(.int pk)]) at_366 rfl (hw _ w32) (hw _ w33) (nf_sel (hw _ w35)) (hw _ w35) (hw _ w34) (hw _ w10) (hw _ w36) E_a19 (by decide) (c_pos hw a19 arr pk ((0 : Int32) + ((6 : Int32) + ex)) E_a19 F_a19_bytes F_a19_position F_a19_end) (by decide) (by decide) rfl rfl rfl (by decide) (by decide) rfl pd__28_29I rfl rfl (Nat.le_of_eq rfl) ?_
        refine Go.iload (pc' := 371) at_369 rfl rfl ?_
        refine Go.iload (pc' := 373) at_371 rfl rfl ?_
        refine Go.iadd (pc' := 374) at_373 rfl (z := (6 : Int32)) (by decide) ?_
        refine Go.icmpF (pc' := 377) (X := pk.toInt) (Y := (6 : Int)) at_374 rfl rfl (by decide) (by omega : pk.toInt = (6 : Int)) ?_
        refine Go.aload (pc' := 379) at_377 rfl rfl rfl ?_
        refine Go.callV0 (pc' := 382) (W := 0) (a := a19) (argsL := []) (rest := []) (v0 := some (.int (1 : Int32))) (st2 := [(.int (1 : Int32))]) at_379 rfl (hw _ w37) (hw _ w38) (nf_sel (hw _ w40)) (hw _ w40) (hw _ w39) (hw _ w10) (hw _ w41) E_a19 (by decide) (c_has hw a19 arr pk ((0 : Int32) + ((6 : Int32) + ex)) (1 : Int32) E_a19 F_a19_bytes F_a19_position F_a19_end (if_pos (by omega))) (by decide) (by decide) rfl rfl rfl (by decide) (by decide) rfl pd__28_29Z rfl rfl (Nat.le_of_eq rfl) ?_
        refine Go.iload (pc' := 384) at_382 rfl rfl ?_
        refine Go.ifF (pc' := 387) (X := ex.toInt) at_384 rfl rfl (by omega : 0 < ex.toInt) ?_
        refine Go.iconst (pc' := 388) at_387 rfl (z := (1 : Int32)) (by decide) ?_
        refine Go.goto (pc' := 392) at_388 (by decide) ?_
        refine Go.icmpF (pc' := 395) (X := (1 : Int)) (Y := (1 : Int)) at_392 rfl (by decide) (by decide) (by decide : (1 : Int) = (1 : Int)) ?_
        refine Go.iconst (pc' := 396) at_395 rfl (z := (1 : Int32)) (by decide) ?_
        refine Go.goto (pc' := 400) at_396 (by decide) ?_
        refine Go.retZ at_400 rfl (by decide) (by decide) (by decide) ?_
        exact ⟨rfl, N0⟩
      · have _ := hex
        refine Go.lload (pc' := 358) at_356 rfl rfl ?_
        refine Go.lload (pc' := 360) at_358 rfl rfl ?_
        refine Go.lcmpF (pc' := 364) (X := res.toInt) (Y := want.toInt) at_360 at_361 rfl rfl rfl rfl (by rw [← hv_want]; exact congrArg _ (own_want v res (4398046511103 : Int64) (7 * 6) (by decide) hres) : res.toInt = want.toInt) ?_
        refine Go.aload (pc' := 366) at_364 rfl rfl rfl ?_
        refine Go.callV0 (pc' := 369) (W := 0) (a := a19) (argsL := []) (rest := []) (v0 := some (.int pk)) (st2 := [(.int pk)]) at_366 rfl (hw _ w32) (hw _ w33) (nf_sel (hw _ w35)) (hw _ w35) (hw _ w34) (hw _ w10) (hw _ w36) E_a19 (by decide) (c_pos hw a19 arr pk ((0 : Int32) + ((6 : Int32) + ex)) E_a19 F_a19_bytes F_a19_position F_a19_end) (by decide) (by decide) rfl rfl rfl (by decide) (by decide) rfl pd__28_29I rfl rfl (Nat.le_of_eq rfl) ?_
        refine Go.iload (pc' := 371) at_369 rfl rfl ?_
        refine Go.iload (pc' := 373) at_371 rfl rfl ?_
        refine Go.iadd (pc' := 374) at_373 rfl (z := (6 : Int32)) (by decide) ?_
        refine Go.icmpF (pc' := 377) (X := pk.toInt) (Y := (6 : Int)) at_374 rfl rfl (by decide) (by omega : pk.toInt = (6 : Int)) ?_
        refine Go.aload (pc' := 379) at_377 rfl rfl rfl ?_
        refine Go.callV0 (pc' := 382) (W := 0) (a := a19) (argsL := []) (rest := []) (v0 := some (.int (0 : Int32))) (st2 := [(.int (0 : Int32))]) at_379 rfl (hw _ w37) (hw _ w38) (nf_sel (hw _ w40)) (hw _ w40) (hw _ w39) (hw _ w10) (hw _ w41) E_a19 (by decide) (c_has hw a19 arr pk ((0 : Int32) + ((6 : Int32) + ex)) (0 : Int32) E_a19 F_a19_bytes F_a19_position F_a19_end (if_neg (by omega))) (by decide) (by decide) rfl rfl rfl (by decide) (by decide) rfl pd__28_29Z rfl rfl (Nat.le_of_eq rfl) ?_
        refine Go.iload (pc' := 384) at_382 rfl rfl ?_
        refine Go.ifT (pc' := 391) (X := ex.toInt) at_384 (by decide) rfl (by omega : ¬ 0 < ex.toInt) ?_
        refine Go.iconst (pc' := 392) at_391 rfl (z := (0 : Int32)) (by decide) ?_
        refine Go.icmpF (pc' := 395) (X := (0 : Int)) (Y := (0 : Int)) at_392 rfl (by decide) (by decide) (by decide : (0 : Int) = (0 : Int)) ?_
        refine Go.iconst (pc' := 396) at_395 rfl (z := (1 : Int32)) (by decide) ?_
        refine Go.goto (pc' := 400) at_396 (by decide) ?_
        refine Go.retZ at_400 rfl (by decide) (by decide) (by decide) ?_
        exact ⟨rfl, N0⟩
    · subst hs22
      have kn : (7 : Int32).toInt = 7 := by decide
      obtain rfl : K = 7 := by omega
      refine Go.bipush (pc' := 331) at_329 rfl (z := (7 : Int32)) (by decide) ?_
      refine Go.iload (pc' := 333) at_331 rfl rfl ?_
      refine Go.imul (pc' := 334) at_333 rfl (z := (49 : Int32)) (by decide) ?_
      refine Go.bipush (pc' := 336) at_334 rfl (z := (64 : Int32)) (by decide) ?_
      refine Go.icmpT (pc' := 343) (X := (49 : Int)) (Y := (64 : Int)) at_336 (by decide) (by decide) (by decide) (by decide : (49 : Int) < (64 : Int)) ?_
      refine Go.lloadN (pc' := 344) at_343 rfl rfl ?_
      refine Go.lconst (pc' := 345) at_344 rfl (z := (1 : Int64)) (by decide) ?_
      refine Go.bipush (pc' := 347) at_345 rfl (z := (7 : Int32)) (by decide) ?_
      refine Go.iload (pc' := 349) at_347 rfl rfl ?_
      refine Go.imul (pc' := 350) at_349 rfl (z := (49 : Int32)) (by decide) ?_
      refine Go.lshl (pc' := 351) at_350 rfl (z := (562949953421312 : Int64)) (by decide) ?_
      refine Go.lconst (pc' := 352) at_351 rfl (z := (1 : Int64)) (by decide) ?_
      refine Go.lsub (pc' := 353) at_352 rfl (z := (562949953421311 : Int64)) (by decide) ?_
      refine Go.land (pc' := 354) at_353 rfl rfl ?_
      generalize hv_want : (v &&& (562949953421311 : Int64)) = want
      refine Go.lstore (pc' := 356) at_354 rfl (Ls' := #[.val (.long v), .second, .val (.int kq), .val (.int oo), .val (.int ee), .val (.int g), .val (.int (7 : Int32)), .val (.int (0 : Int32)), .val (.int ex), .val (.ref arr), .val (.ref a19), .val (.long res), .second, .val (.long want), .second]) rfl ?_
      
      by_cases hex : 0 < ex.toInt
      · have _ := hex
        refine Go.lload (pc' := 358) at_356 rfl rfl ?_
        refine Go.lload (pc' := 360) at_358 rfl rfl ?_
        refine Go.lcmpF (pc' := 364) (X := res.toInt) (Y := want.toInt) at_360 at_361 rfl rfl rfl rfl (by rw [← hv_want]; exact congrArg _ (own_want v res (562949953421311 : Int64) (7 * 7) (by decide) hres) : res.toInt = want.toInt) ?_
        refine Go.aload (pc' := 366) at_364 rfl rfl rfl ?_
        refine Go.callV0 (pc' := 369) (W := 0) (a := a19) (argsL := []) (rest := []) (v0 := some (.int pk)) (st2 := [(.int pk)]) at_366 rfl (hw _ w32) (hw _ w33) (nf_sel (hw _ w35)) (hw _ w35) (hw _ w34) (hw _ w10) (hw _ w36) E_a19 (by decide) (c_pos hw a19 arr pk ((0 : Int32) + ((7 : Int32) + ex)) E_a19 F_a19_bytes F_a19_position F_a19_end) (by decide) (by decide) rfl rfl rfl (by decide) (by decide) rfl pd__28_29I rfl rfl (Nat.le_of_eq rfl) ?_
        refine Go.iload (pc' := 371) at_369 rfl rfl ?_
        refine Go.iload (pc' := 373) at_371 rfl rfl ?_
        refine Go.iadd (pc' := 374) at_373 rfl (z := (7 : Int32)) (by decide) ?_
        refine Go.icmpF (pc' := 377) (X := pk.toInt) (Y := (7 : Int)) at_374 rfl rfl (by decide) (by omega : pk.toInt = (7 : Int)) ?_
        refine Go.aload (pc' := 379) at_377 rfl rfl rfl ?_
        refine Go.callV0 (pc' := 382) (W := 0) (a := a19) (argsL := []) (rest := []) (v0 := some (.int (1 : Int32))) (st2 := [(.int (1 : Int32))]) at_379 rfl (hw _ w37) (hw _ w38) (nf_sel (hw _ w40)) (hw _ w40) (hw _ w39) (hw _ w10) (hw _ w41) E_a19 (by decide) (c_has hw a19 arr pk ((0 : Int32) + ((7 : Int32) + ex)) (1 : Int32) E_a19 F_a19_bytes F_a19_position F_a19_end (if_pos (by omega))) (by decide) (by decide) rfl rfl rfl (by decide) (by decide) rfl pd__28_29Z rfl rfl (Nat.le_of_eq rfl) ?_
        refine Go.iload (pc' := 384) at_382 rfl rfl ?_
        refine Go.ifF (pc' := 387) (X := ex.toInt) at_384 rfl rfl (by omega : 0 < ex.toInt) ?_
        refine Go.iconst (pc' := 388) at_387 rfl (z := (1 : Int32)) (by decide) ?_
        refine Go.goto (pc' := 392) at_388 (by decide) ?_
        refine Go.icmpF (pc' := 395) (X := (1 : Int)) (Y := (1 : Int)) at_392 rfl (by decide) (by decide) (by decide : (1 : Int) = (1 : Int)) ?_
        refine Go.iconst (pc' := 396) at_395 rfl (z := (1 : Int32)) (by decide) ?_
        refine Go.goto (pc' := 400) at_396 (by decide) ?_
        refine Go.retZ at_400 rfl (by decide) (by decide) (by decide) ?_
        exact ⟨rfl, N0⟩
      · have _ := hex
        refine Go.lload (pc' := 358) at_356 rfl rfl ?_
        refine Go.lload (pc' := 360) at_358 rfl rfl ?_
        refine Go.lcmpF (pc' := 364) (X := res.toInt) (Y := want.toInt) at_360 at_361 rfl rfl rfl rfl (by rw [← hv_want]; exact congrArg _ (own_want v res (562949953421311 : Int64) (7 * 7) (by decide) hres) : res.toInt = want.toInt) ?_
        refine Go.aload (pc' := 366) at_364 rfl rfl rfl ?_
        refine Go.callV0 (pc' := 369) (W := 0) (a := a19) (argsL := []) (rest := []) (v0 := some (.int pk)) (st2 := [(.int pk)]) at_366 rfl (hw _ w32) (hw _ w33) (nf_sel (hw _ w35)) (hw _ w35) (hw _ w34) (hw _ w10) (hw _ w36) E_a19 (by decide) (c_pos hw a19 arr pk ((0 : Int32) + ((7 : Int32) + ex)) E_a19 F_a19_bytes F_a19_position F_a19_end) (by decide) (by decide) rfl rfl rfl (by decide) (by decide) rfl pd__28_29I rfl rfl (Nat.le_of_eq rfl) ?_
        refine Go.iload (pc' := 371) at_369 rfl rfl ?_
        refine Go.iload (pc' := 373) at_371 rfl rfl ?_
        refine Go.iadd (pc' := 374) at_373 rfl (z := (7 : Int32)) (by decide) ?_
        refine Go.icmpF (pc' := 377) (X := pk.toInt) (Y := (7 : Int)) at_374 rfl rfl (by decide) (by omega : pk.toInt = (7 : Int)) ?_
        refine Go.aload (pc' := 379) at_377 rfl rfl rfl ?_
        refine Go.callV0 (pc' := 382) (W := 0) (a := a19) (argsL := []) (rest := []) (v0 := some (.int (0 : Int32))) (st2 := [(.int (0 : Int32))]) at_379 rfl (hw _ w37) (hw _ w38) (nf_sel (hw _ w40)) (hw _ w40) (hw _ w39) (hw _ w10) (hw _ w41) E_a19 (by decide) (c_has hw a19 arr pk ((0 : Int32) + ((7 : Int32) + ex)) (0 : Int32) E_a19 F_a19_bytes F_a19_position F_a19_end (if_neg (by omega))) (by decide) (by decide) rfl rfl rfl (by decide) (by decide) rfl pd__28_29Z rfl rfl (Nat.le_of_eq rfl) ?_
        refine Go.iload (pc' := 384) at_382 rfl rfl ?_
        refine Go.ifT (pc' := 391) (X := ex.toInt) at_384 (by decide) rfl (by omega : ¬ 0 < ex.toInt) ?_
        refine Go.iconst (pc' := 392) at_391 rfl (z := (0 : Int32)) (by decide) ?_
        refine Go.icmpF (pc' := 395) (X := (0 : Int)) (Y := (0 : Int)) at_392 rfl (by decide) (by decide) (by decide : (0 : Int) = (0 : Int)) ?_
        refine Go.iconst (pc' := 396) at_395 rfl (z := (1 : Int32)) (by decide) ?_
        refine Go.goto (pc' := 400) at_396 (by decide) ?_
        refine Go.retZ at_400 rfl (by decide) (by decide) (by decide) ?_
        exact ⟨rfl, N0⟩
    · subst hs22
      have kn : (8 : Int32).toInt = 8 := by decide
      obtain rfl : K = 8 := by omega
      refine Go.bipush (pc' := 331) at_329 rfl (z := (7 : Int32)) (by decide) ?_
      refine Go.iload (pc' := 333) at_331 rfl rfl ?_
      refine Go.imul (pc' := 334) at_333 rfl (z := (56 : Int32)) (by decide) ?_
      refine Go.bipush (pc' := 336) at_334 rfl (z := (64 : Int32)) (by decide) ?_
      refine Go.icmpT (pc' := 343) (X := (56 : Int)) (Y := (64 : Int)) at_336 (by decide) (by decide) (by decide) (by decide : (56 : Int) < (64 : Int)) ?_
      refine Go.lloadN (pc' := 344) at_343 rfl rfl ?_
      refine Go.lconst (pc' := 345) at_344 rfl (z := (1 : Int64)) (by decide) ?_
      refine Go.bipush (pc' := 347) at_345 rfl (z := (7 : Int32)) (by decide) ?_
      refine Go.iload (pc' := 349) at_347 rfl rfl ?_
      refine Go.imul (pc' := 350) at_349 rfl (z := (56 : Int32)) (by decide) ?_
      refine Go.lshl (pc' := 351) at_350 rfl (z := (72057594037927936 : Int64)) (by decide) ?_
      refine Go.lconst (pc' := 352) at_351 rfl (z := (1 : Int64)) (by decide) ?_
      refine Go.lsub (pc' := 353) at_352 rfl (z := (72057594037927935 : Int64)) (by decide) ?_
      refine Go.land (pc' := 354) at_353 rfl rfl ?_
      generalize hv_want : (v &&& (72057594037927935 : Int64)) = want
      refine Go.lstore (pc' := 356) at_354 rfl (Ls' := #[.val (.long v), .second, .val (.int kq), .val (.int oo), .val (.int ee), .val (.int g), .val (.int (8 : Int32)), .val (.int (0 : Int32)), .val (.int ex), .val (.ref arr), .val (.ref a19), .val (.long res), .second, .val (.long want), .second]) rfl ?_
      
      by_cases hex : 0 < ex.toInt
      · have _ := hex
        refine Go.lload (pc' := 358) at_356 rfl rfl ?_
        refine Go.lload (pc' := 360) at_358 rfl rfl ?_
        refine Go.lcmpF (pc' := 364) (X := res.toInt) (Y := want.toInt) at_360 at_361 rfl rfl rfl rfl (by rw [← hv_want]; exact congrArg _ (own_want v res (72057594037927935 : Int64) (7 * 8) (by decide) hres) : res.toInt = want.toInt) ?_
        refine Go.aload (pc' := 366) at_364 rfl rfl rfl ?_
        refine Go.callV0 (pc' := 369) (W := 0) (a := a19) (argsL := []) (rest := []) (v0 := some (.int pk)) (st2 := [(.int pk)]) at_366 rfl (hw _ w32) (hw _ w33) (nf_sel (hw _ w35)) (hw _ w35) (hw _ w34) (hw _ w10) (hw _ w36) E_a19 (by decide) (c_pos hw a19 arr pk ((0 : Int32) + ((8 : Int32) + ex)) E_a19 F_a19_bytes F_a19_position F_a19_end) (by decide) (by decide) rfl rfl rfl (by decide) (by decide) rfl pd__28_29I rfl rfl (Nat.le_of_eq rfl) ?_
        refine Go.iload (pc' := 371) at_369 rfl rfl ?_
        refine Go.iload (pc' := 373) at_371 rfl rfl ?_
        refine Go.iadd (pc' := 374) at_373 rfl (z := (8 : Int32)) (by decide) ?_
        refine Go.icmpF (pc' := 377) (X := pk.toInt) (Y := (8 : Int)) at_374 rfl rfl (by decide) (by omega : pk.toInt = (8 : Int)) ?_
        refine Go.aload (pc' := 379) at_377 rfl rfl rfl ?_
        refine Go.callV0 (pc' := 382) (W := 0) (a := a19) (argsL := []) (rest := []) (v0 := some (.int (1 : Int32))) (st2 := [(.int (1 : Int32))]) at_379 rfl (hw _ w37) (hw _ w38) (nf_sel (hw _ w40)) (hw _ w40) (hw _ w39) (hw _ w10) (hw _ w41) E_a19 (by decide) (c_has hw a19 arr pk ((0 : Int32) + ((8 : Int32) + ex)) (1 : Int32) E_a19 F_a19_bytes F_a19_position F_a19_end (if_pos (by omega))) (by decide) (by decide) rfl rfl rfl (by decide) (by decide) rfl pd__28_29Z rfl rfl (Nat.le_of_eq rfl) ?_
        refine Go.iload (pc' := 384) at_382 rfl rfl ?_
        refine Go.ifF (pc' := 387) (X := ex.toInt) at_384 rfl rfl (by omega : 0 < ex.toInt) ?_
        refine Go.iconst (pc' := 388) at_387 rfl (z := (1 : Int32)) (by decide) ?_
        refine Go.goto (pc' := 392) at_388 (by decide) ?_
        refine Go.icmpF (pc' := 395) (X := (1 : Int)) (Y := (1 : Int)) at_392 rfl (by decide) (by decide) (by decide : (1 : Int) = (1 : Int)) ?_
        refine Go.iconst (pc' := 396) at_395 rfl (z := (1 : Int32)) (by decide) ?_
        refine Go.goto (pc' := 400) at_396 (by decide) ?_
        refine Go.retZ at_400 rfl (by decide) (by decide) (by decide) ?_
        exact ⟨rfl, N0⟩
      · have _ := hex
        refine Go.lload (pc' := 358) at_356 rfl rfl ?_
        refine Go.lload (pc' := 360) at_358 rfl rfl ?_
        refine Go.lcmpF (pc' := 364) (X := res.toInt) (Y := want.toInt) at_360 at_361 rfl rfl rfl rfl (by rw [← hv_want]; exact congrArg _ (own_want v res (72057594037927935 : Int64) (7 * 8) (by decide) hres) : res.toInt = want.toInt) ?_
        refine Go.aload (pc' := 366) at_364 rfl rfl rfl ?_
        refine Go.callV0 (pc' := 369) (W := 0) (a := a19) (argsL := []) (rest := []) (v0 := some (.int pk)) (st2 := [(.int pk)]) at_366 rfl (hw _ w32) (hw _ w33) (nf_sel (hw _ w35)) (hw _ w35) (hw _ w34) (hw _ w10) (hw _ w36) E_a19 (by decide) (c_pos hw a19 arr pk ((0 : Int32) + ((8 : Int32) + ex)) E_a19 F_a19_bytes F_a19_position F_a19_end) (by decide) (by decide) rfl rfl rfl (by decide) (by decide) rfl pd__28_29I rfl rfl (Nat.le_of_eq rfl) ?_
        refine Go.iload (pc' := 371) at_369 rfl rfl ?_
        refine Go.iload (pc' := 373) at_371 rfl rfl ?_
        refine Go.iadd (pc' := 374) at_373 rfl (z := (8 : Int32)) (by decide) ?_
        refine Go.icmpF (pc' := 377) (X := pk.toInt) (Y := (8 : Int)) at_374 rfl rfl (by decide) (by omega : pk.toInt = (8 : Int)) ?_
        refine Go.aload (pc' := 379) at_377 rfl rfl rfl ?_
        refine Go.callV0 (pc' := 382) (W := 0) (a := a19) (argsL := []) (rest := []) (v0 := some (.int (0 : Int32))) (st2 := [(.int (0 : Int32))]) at_379 rfl (hw _ w37) (hw _ w38) (nf_sel (hw _ w40)) (hw _ w40) (hw _ w39) (hw _ w10) (hw _ w41) E_a19 (by decide) (c_has hw a19 arr pk ((0 : Int32) + ((8 : Int32) + ex)) (0 : Int32) E_a19 F_a19_bytes F_a19_position F_a19_end (if_neg (by omega))) (by decide) (by decide) rfl rfl rfl (by decide) (by decide) rfl pd__28_29Z rfl rfl (Nat.le_of_eq rfl) ?_
        refine Go.iload (pc' := 384) at_382 rfl rfl ?_
        refine Go.ifT (pc' := 391) (X := ex.toInt) at_384 (by decide) rfl (by omega : ¬ 0 < ex.toInt) ?_
        refine Go.iconst (pc' := 392) at_391 rfl (z := (0 : Int32)) (by decide) ?_
        refine Go.icmpF (pc' := 395) (X := (0 : Int)) (Y := (0 : Int)) at_392 rfl (by decide) (by decide) (by decide : (0 : Int) = (0 : Int)) ?_
        refine Go.iconst (pc' := 396) at_395 rfl (z := (1 : Int32)) (by decide) ?_
        refine Go.goto (pc' := 400) at_396 (by decide) ?_
        refine Go.retZ at_400 rfl (by decide) (by decide) (by decide) ?_
        exact ⟨rfl, N0⟩
    · subst hs22
      have kn : (9 : Int32).toInt = 9 := by decide
      obtain rfl : K = 9 := by omega
      refine Go.bipush (pc' := 331) at_329 rfl (z := (7 : Int32)) (by decide) ?_
      refine Go.iload (pc' := 333) at_331 rfl rfl ?_
      refine Go.imul (pc' := 334) at_333 rfl (z := (63 : Int32)) (by decide) ?_
      refine Go.bipush (pc' := 336) at_334 rfl (z := (64 : Int32)) (by decide) ?_
      refine Go.icmpT (pc' := 343) (X := (63 : Int)) (Y := (64 : Int)) at_336 (by decide) (by decide) (by decide) (by decide : (63 : Int) < (64 : Int)) ?_
      refine Go.lloadN (pc' := 344) at_343 rfl rfl ?_
      refine Go.lconst (pc' := 345) at_344 rfl (z := (1 : Int64)) (by decide) ?_
      refine Go.bipush (pc' := 347) at_345 rfl (z := (7 : Int32)) (by decide) ?_
      refine Go.iload (pc' := 349) at_347 rfl rfl ?_
      refine Go.imul (pc' := 350) at_349 rfl (z := (63 : Int32)) (by decide) ?_
      refine Go.lshl (pc' := 351) at_350 rfl (z := (-9223372036854775808 : Int64)) (by decide) ?_
      refine Go.lconst (pc' := 352) at_351 rfl (z := (1 : Int64)) (by decide) ?_
      refine Go.lsub (pc' := 353) at_352 rfl (z := (9223372036854775807 : Int64)) (by decide) ?_
      refine Go.land (pc' := 354) at_353 rfl rfl ?_
      generalize hv_want : (v &&& (9223372036854775807 : Int64)) = want
      refine Go.lstore (pc' := 356) at_354 rfl (Ls' := #[.val (.long v), .second, .val (.int kq), .val (.int oo), .val (.int ee), .val (.int g), .val (.int (9 : Int32)), .val (.int (0 : Int32)), .val (.int ex), .val (.ref arr), .val (.ref a19), .val (.long res), .second, .val (.long want), .second]) rfl ?_
      
      by_cases hex : 0 < ex.toInt
      · have _ := hex
        refine Go.lload (pc' := 358) at_356 rfl rfl ?_
        refine Go.lload (pc' := 360) at_358 rfl rfl ?_
        refine Go.lcmpF (pc' := 364) (X := res.toInt) (Y := want.toInt) at_360 at_361 rfl rfl rfl rfl (by rw [← hv_want]; exact congrArg _ (own_want v res (9223372036854775807 : Int64) (7 * 9) (by decide) hres) : res.toInt = want.toInt) ?_
        refine Go.aload (pc' := 366) at_364 rfl rfl rfl ?_
        refine Go.callV0 (pc' := 369) (W := 0) (a := a19) (argsL := []) (rest := []) (v0 := some (.int pk)) (st2 := [(.int pk)]) at_366 rfl (hw _ w32) (hw _ w33) (nf_sel (hw _ w35)) (hw _ w35) (hw _ w34) (hw _ w10) (hw _ w36) E_a19 (by decide) (c_pos hw a19 arr pk ((0 : Int32) + ((9 : Int32) + ex)) E_a19 F_a19_bytes F_a19_position F_a19_end) (by decide) (by decide) rfl rfl rfl (by decide) (by decide) rfl pd__28_29I rfl rfl (Nat.le_of_eq rfl) ?_
        refine Go.iload (pc' := 371) at_369 rfl rfl ?_
        refine Go.iload (pc' := 373) at_371 rfl rfl ?_
        refine Go.iadd (pc' := 374) at_373 rfl (z := (9 : Int32)) (by decide) ?_
        refine Go.icmpF (pc' := 377) (X := pk.toInt) (Y := (9 : Int)) at_374 rfl rfl (by decide) (by omega : pk.toInt = (9 : Int)) ?_
        refine Go.aload (pc' := 379) at_377 rfl rfl rfl ?_
        refine Go.callV0 (pc' := 382) (W := 0) (a := a19) (argsL := []) (rest := []) (v0 := some (.int (1 : Int32))) (st2 := [(.int (1 : Int32))]) at_379 rfl (hw _ w37) (hw _ w38) (nf_sel (hw _ w40)) (hw _ w40) (hw _ w39) (hw _ w10) (hw _ w41) E_a19 (by decide) (c_has hw a19 arr pk ((0 : Int32) + ((9 : Int32) + ex)) (1 : Int32) E_a19 F_a19_bytes F_a19_position F_a19_end (if_pos (by omega))) (by decide) (by decide) rfl rfl rfl (by decide) (by decide) rfl pd__28_29Z rfl rfl (Nat.le_of_eq rfl) ?_
        refine Go.iload (pc' := 384) at_382 rfl rfl ?_
        refine Go.ifF (pc' := 387) (X := ex.toInt) at_384 rfl rfl (by omega : 0 < ex.toInt) ?_
        refine Go.iconst (pc' := 388) at_387 rfl (z := (1 : Int32)) (by decide) ?_
        refine Go.goto (pc' := 392) at_388 (by decide) ?_
        refine Go.icmpF (pc' := 395) (X := (1 : Int)) (Y := (1 : Int)) at_392 rfl (by decide) (by decide) (by decide : (1 : Int) = (1 : Int)) ?_
        refine Go.iconst (pc' := 396) at_395 rfl (z := (1 : Int32)) (by decide) ?_
        refine Go.goto (pc' := 400) at_396 (by decide) ?_
        refine Go.retZ at_400 rfl (by decide) (by decide) (by decide) ?_
        exact ⟨rfl, N0⟩
      · have _ := hex
        refine Go.lload (pc' := 358) at_356 rfl rfl ?_
        refine Go.lload (pc' := 360) at_358 rfl rfl ?_
        refine Go.lcmpF (pc' := 364) (X := res.toInt) (Y := want.toInt) at_360 at_361 rfl rfl rfl rfl (by rw [← hv_want]; exact congrArg _ (own_want v res (9223372036854775807 : Int64) (7 * 9) (by decide) hres) : res.toInt = want.toInt) ?_
        refine Go.aload (pc' := 366) at_364 rfl rfl rfl ?_
        refine Go.callV0 (pc' := 369) (W := 0) (a := a19) (argsL := []) (rest := []) (v0 := some (.int pk)) (st2 := [(.int pk)]) at_366 rfl (hw _ w32) (hw _ w33) (nf_sel (hw _ w35)) (hw _ w35) (hw _ w34) (hw _ w10) (hw _ w36) E_a19 (by decide) (c_pos hw a19 arr pk ((0 : Int32) + ((9 : Int32) + ex)) E_a19 F_a19_bytes F_a19_position F_a19_end) (by decide) (by decide) rfl rfl rfl (by decide) (by decide) rfl pd__28_29I rfl rfl (Nat.le_of_eq rfl) ?_
        refine Go.iload (pc' := 371) at_369 rfl rfl ?_
        refine Go.iload (pc' := 373) at_371 rfl rfl ?_
        refine Go.iadd (pc' := 374) at_373 rfl (z := (9 : Int32)) (by decide) ?_
        refine Go.icmpF (pc' := 377) (X := pk.toInt) (Y := (9 : Int)) at_374 rfl rfl (by decide) (by omega : pk.toInt = (9 : Int)) ?_
        refine Go.aload (pc' := 379) at_377 rfl rfl rfl ?_
        refine Go.callV0 (pc' := 382) (W := 0) (a := a19) (argsL := []) (rest := []) (v0 := some (.int (0 : Int32))) (st2 := [(.int (0 : Int32))]) at_379 rfl (hw _ w37) (hw _ w38) (nf_sel (hw _ w40)) (hw _ w40) (hw _ w39) (hw _ w10) (hw _ w41) E_a19 (by decide) (c_has hw a19 arr pk ((0 : Int32) + ((9 : Int32) + ex)) (0 : Int32) E_a19 F_a19_bytes F_a19_position F_a19_end (if_neg (by omega))) (by decide) (by decide) rfl rfl rfl (by decide) (by decide) rfl pd__28_29Z rfl rfl (Nat.le_of_eq rfl) ?_
        refine Go.iload (pc' := 384) at_382 rfl rfl ?_
        refine Go.ifT (pc' := 391) (X := ex.toInt) at_384 (by decide) rfl (by omega : ¬ 0 < ex.toInt) ?_
        refine Go.iconst (pc' := 392) at_391 rfl (z := (0 : Int32)) (by decide) ?_
        refine Go.icmpF (pc' := 395) (X := (0 : Int)) (Y := (0 : Int)) at_392 rfl (by decide) (by decide) (by decide : (0 : Int) = (0 : Int)) ?_
        refine Go.iconst (pc' := 396) at_395 rfl (z := (1 : Int32)) (by decide) ?_
        refine Go.goto (pc' := 400) at_396 (by decide) ?_
        refine Go.retZ at_400 rfl (by decide) (by decide) (by decide) ?_
        exact ⟨rfl, N0⟩
    · subst hs22
      have kn : (10 : Int32).toInt = 10 := by decide
      obtain rfl : K = 10 := by omega
      refine Go.bipush (pc' := 331) at_329 rfl (z := (7 : Int32)) (by decide) ?_
      refine Go.iload (pc' := 333) at_331 rfl rfl ?_
      refine Go.imul (pc' := 334) at_333 rfl (z := (70 : Int32)) (by decide) ?_
      refine Go.bipush (pc' := 336) at_334 rfl (z := (64 : Int32)) (by decide) ?_
      refine Go.icmpF (pc' := 339) (X := (70 : Int)) (Y := (64 : Int)) at_336 rfl (by decide) (by decide) (by decide : ¬ (70 : Int) < (64 : Int)) ?_
      refine Go.lloadN (pc' := 340) at_339 rfl rfl ?_
      refine Go.goto (pc' := 354) at_340 (by decide) ?_
      refine Go.lstore (pc' := 356) at_354 rfl (Ls' := #[.val (.long v), .second, .val (.int kq), .val (.int oo), .val (.int ee), .val (.int g), .val (.int (10 : Int32)), .val (.int (0 : Int32)), .val (.int ex), .val (.ref arr), .val (.ref a19), .val (.long res), .second, .val (.long v), .second]) rfl ?_
      
      by_cases hex : 0 < ex.toInt
      · have _ := hex
        refine Go.lload (pc' := 358) at_356 rfl rfl ?_
        refine Go.lload (pc' := 360) at_358 rfl rfl ?_
        refine Go.lcmpF (pc' := 364) (X := res.toInt) (Y := v.toInt) at_360 at_361 rfl rfl rfl rfl (congrArg _ (own_full v res hres) : res.toInt = v.toInt) ?_
        refine Go.aload (pc' := 366) at_364 rfl rfl rfl ?_
        refine Go.callV0 (pc' := 369) (W := 0) (a := a19) (argsL := []) (rest := []) (v0 := some (.int pk)) (st2 := [(.int pk)]) at_366 rfl (hw _ w32) (hw _ w33) (nf_sel (hw _ w35)) (hw _ w35) (hw _ w34) (hw _ w10) (hw _ w36) E_a19 (by decide) (c_pos hw a19 arr pk ((0 : Int32) + ((10 : Int32) + ex)) E_a19 F_a19_bytes F_a19_position F_a19_end) (by decide) (by decide) rfl rfl rfl (by decide) (by decide) rfl pd__28_29I rfl rfl (Nat.le_of_eq rfl) ?_
        refine Go.iload (pc' := 371) at_369 rfl rfl ?_
        refine Go.iload (pc' := 373) at_371 rfl rfl ?_
        refine Go.iadd (pc' := 374) at_373 rfl (z := (10 : Int32)) (by decide) ?_
        refine Go.icmpF (pc' := 377) (X := pk.toInt) (Y := (10 : Int)) at_374 rfl rfl (by decide) (by omega : pk.toInt = (10 : Int)) ?_
        refine Go.aload (pc' := 379) at_377 rfl rfl rfl ?_
        refine Go.callV0 (pc' := 382) (W := 0) (a := a19) (argsL := []) (rest := []) (v0 := some (.int (1 : Int32))) (st2 := [(.int (1 : Int32))]) at_379 rfl (hw _ w37) (hw _ w38) (nf_sel (hw _ w40)) (hw _ w40) (hw _ w39) (hw _ w10) (hw _ w41) E_a19 (by decide) (c_has hw a19 arr pk ((0 : Int32) + ((10 : Int32) + ex)) (1 : Int32) E_a19 F_a19_bytes F_a19_position F_a19_end (if_pos (by omega))) (by decide) (by decide) rfl rfl rfl (by decide) (by decide) rfl pd__28_29Z rfl rfl (Nat.le_of_eq rfl) ?_
        refine Go.iload (pc' := 384) at_382 rfl rfl ?_
        refine Go.ifF (pc' := 387) (X := ex.toInt) at_384 rfl rfl (by omega : 0 < ex.toInt) ?_
        refine Go.iconst (pc' := 388) at_387 rfl (z := (1 : Int32)) (by decide) ?_
        refine Go.goto (pc' := 392) at_388 (by decide) ?_
        refine Go.icmpF (pc' := 395) (X := (1 : Int)) (Y := (1 : Int)) at_392 rfl (by decide) (by decide) (by decide : (1 : Int) = (1 : Int)) ?_
        refine Go.iconst (pc' := 396) at_395 rfl (z := (1 : Int32)) (by decide) ?_
        refine Go.goto (pc' := 400) at_396 (by decide) ?_
        refine Go.retZ at_400 rfl (by decide) (by decide) (by decide) ?_
        exact ⟨rfl, N0⟩
      · have _ := hex
        refine Go.lload (pc' := 358) at_356 rfl rfl ?_
        refine Go.lload (pc' := 360) at_358 rfl rfl ?_
        refine Go.lcmpF (pc' := 364) (X := res.toInt) (Y := v.toInt) at_360 at_361 rfl rfl rfl rfl (congrArg _ (own_full v res hres) : res.toInt = v.toInt) ?_
        refine Go.aload (pc' := 366) at_364 rfl rfl rfl ?_
        refine Go.callV0 (pc' := 369) (W := 0) (a := a19) (argsL := []) (rest := []) (v0 := some (.int pk)) (st2 := [(.int pk)]) at_366 rfl (hw _ w32) (hw _ w33) (nf_sel (hw _ w35)) (hw _ w35) (hw _ w34) (hw _ w10) (hw _ w36) E_a19 (by decide) (c_pos hw a19 arr pk ((0 : Int32) + ((10 : Int32) + ex)) E_a19 F_a19_bytes F_a19_position F_a19_end) (by decide) (by decide) rfl rfl rfl (by decide) (by decide) rfl pd__28_29I rfl rfl (Nat.le_of_eq rfl) ?_
        refine Go.iload (pc' := 371) at_369 rfl rfl ?_
        refine Go.iload (pc' := 373) at_371 rfl rfl ?_
        refine Go.iadd (pc' := 374) at_373 rfl (z := (10 : Int32)) (by decide) ?_
        refine Go.icmpF (pc' := 377) (X := pk.toInt) (Y := (10 : Int)) at_374 rfl rfl (by decide) (by omega : pk.toInt = (10 : Int)) ?_
        refine Go.aload (pc' := 379) at_377 rfl rfl rfl ?_
        refine Go.callV0 (pc' := 382) (W := 0) (a := a19) (argsL := []) (rest := []) (v0 := some (.int (0 : Int32))) (st2 := [(.int (0 : Int32))]) at_379 rfl (hw _ w37) (hw _ w38) (nf_sel (hw _ w40)) (hw _ w40) (hw _ w39) (hw _ w10) (hw _ w41) E_a19 (by decide) (c_has hw a19 arr pk ((0 : Int32) + ((10 : Int32) + ex)) (0 : Int32) E_a19 F_a19_bytes F_a19_position F_a19_end (if_neg (by omega))) (by decide) (by decide) rfl rfl rfl (by decide) (by decide) rfl pd__28_29Z rfl rfl (Nat.le_of_eq rfl) ?_
        refine Go.iload (pc' := 384) at_382 rfl rfl ?_
        refine Go.ifT (pc' := 391) (X := ex.toInt) at_384 (by decide) rfl (by omega : ¬ 0 < ex.toInt) ?_
        refine Go.iconst (pc' := 392) at_391 rfl (z := (0 : Int32)) (by decide) ?_
        refine Go.icmpF (pc' := 395) (X := (0 : Int)) (Y := (0 : Int)) at_392 rfl (by decide) (by decide) (by decide : (0 : Int) = (0 : Int)) ?_
        refine Go.iconst (pc' := 396) at_395 rfl (z := (1 : Int32)) (by decide) ?_
        refine Go.goto (pc' := 400) at_396 (by decide) ?_
        refine Go.retZ at_400 rfl (by decide) (by decide) (by decide) ?_
        exact ⟨rfl, N0⟩
  · subst hs1
    refine Go.iload (pc' := 18) at_16 rfl rfl ?_
    refine Go.iconst (pc' := 19) at_18 rfl (z := (3 : Int32)) (by decide) ?_
    refine Go.iand (pc' := 20) at_19 rfl rfl ?_
    generalize hv_ex : (ee &&& (3 : Int32)) = ex
    refine Go.istore (pc' := 22) at_20 rfl (Ls' := #[.val (.long v), .second, .val (.int kq), .val (.int oo), .val (.int ee), .val (.int g), .val (.int kk), .val (.int (1 : Int32)), .val (.int ex), .unset, .unset, .unset, .unset, .unset, .unset]) rfl ?_
    have hex3 := own_ex ee ex hv_ex
    refine Go.bipush (pc' := 24) at_22 rfl (z := (16 : Int32)) (by decide) ?_
    refine Go.new_byte (pc' := 26) (k' := 1) (n' := 16) (N := 16) (vs := [(.int (0 : Int32)), (.int (0 : Int32)), (.int (0 : Int32)), (.int (0 : Int32)), (.int (0 : Int32)), (.int (0 : Int32)), (.int (0 : Int32)), (.int (0 : Int32)), (.int (0 : Int32)), (.int (0 : Int32)), (.int (0 : Int32)), (.int (0 : Int32)), (.int (0 : Int32)), (.int (0 : Int32)), (.int (0 : Int32)), (.int (0 : Int32))]) at_24 rfl (hw _ w1) (by decide) rfl 16 (Nat.le_refl _) (by decide) (by decide) (by decide) rfl rfl ?_
    intro h23 arr ha_arr X23 A_arr
    have gn_arr : n0 ≤ arr := by rw [ha_arr]; exact sz0
    replace sz0 : n0 ≤ h23.size := Nat.le_trans sz0 X23.1
    refine Go.astore (pc' := 28) at_26 rfl rfl (Ls' := #[.val (.long v), .second, .val (.int kq), .val (.int oo), .val (.int ee), .val (.int g), .val (.int kk), .val (.int (1 : Int32)), .val (.int ex), .val (.ref arr), .unset, .unset, .unset, .unset, .unset]) rfl ?_
    refine Go.aload (pc' := 30) at_28 rfl rfl rfl ?_
    refine Go.iconst (pc' := 31) at_30 rfl (z := (0 : Int32)) (by decide) ?_
    refine Go.iconst (pc' := 32) at_31 rfl (z := (0 : Int32)) (by decide) ?_
    refine Go.iload (pc' := 34) at_32 rfl rfl ?_
    refine Go.isub (pc' := 35) at_34 rfl (z := (-1 : Int32)) (by decide) ?_
    refine Go.lloadN (pc' := 36) at_35 rfl rfl ?_
    refine Go.iload (pc' := 38) at_36 rfl rfl ?_
    refine Go.iload (pc' := 40) at_38 rfl rfl ?_
    refine Go.callS0 (pc' := 43) (W := 2) (argsL := [(.int (-1 : Int32)), (.long v), (.int kk), (.int g)]) (rest := [(.int (0 : Int32)), (.ref arr)]) (v0 := some (.int (f_c_at (-1 : Int32) v kk g))) (st2 := [(.int (f_c_at (-1 : Int32) v kk g)), (.int (0 : Int32)), (.ref arr)]) at_40 rfl (hw _ w2) (hw _ w3) (hw _ w4) (hw _ w5) (by decide) (c_at hw (-1 : Int32) v kk g rfl) (by decide) (by decide) rfl rfl rfl (by decide) (by decide) rfl pd__28IJII_29B rfl rfl (Nat.le_of_eq rfl) ?_
    refine Go.bastoreB (pc' := 44) (i := 0) (v := (.int (f_c_at (-1 : Int32) v kk g))) (vs' := [(.int (f_c_at (-1 : Int32) v kk g)), (.int (0 : Int32)), (.int (0 : Int32)), (.int (0 : Int32)), (.int (0 : Int32)), (.int (0 : Int32)), (.int (0 : Int32)), (.int (0 : Int32)), (.int (0 : Int32)), (.int (0 : Int32)), (.int (0 : Int32)), (.int (0 : Int32)), (.int (0 : Int32)), (.int (0 : Int32)), (.int (0 : Int32)), (.int (0 : Int32))]) at_43 rfl A_arr (by decide) (Nat.le_of_ble_eq_true rfl) (congrArg Value.int (own_nar _ _ _ _)) rfl ?_
    intro h24 L24 NL24 W24 B24
    replace N0 := NL24 _ N0 gn_arr
    replace sz0 : n0 ≤ h24.size := by rw [W24.size]; exact sz0
    clear A_arr; have A_arr := B24
    refine Go.aload (pc' := 46) at_44 rfl rfl rfl ?_
    refine Go.iconst (pc' := 47) at_46 rfl (z := (1 : Int32)) (by decide) ?_
    refine Go.iconst (pc' := 48) at_47 rfl (z := (1 : Int32)) (by decide) ?_
    refine Go.iload (pc' := 50) at_48 rfl rfl ?_
    refine Go.isub (pc' := 51) at_50 rfl (z := (0 : Int32)) (by decide) ?_
    refine Go.lloadN (pc' := 52) at_51 rfl rfl ?_
    refine Go.iload (pc' := 54) at_52 rfl rfl ?_
    refine Go.iload (pc' := 56) at_54 rfl rfl ?_
    refine Go.callS0 (pc' := 59) (W := 2) (argsL := [(.int (0 : Int32)), (.long v), (.int kk), (.int g)]) (rest := [(.int (1 : Int32)), (.ref arr)]) (v0 := some (.int (f_c_at (0 : Int32) v kk g))) (st2 := [(.int (f_c_at (0 : Int32) v kk g)), (.int (1 : Int32)), (.ref arr)]) at_56 rfl (hw _ w2) (hw _ w3) (hw _ w4) (hw _ w5) (by decide) (c_at hw (0 : Int32) v kk g rfl) (by decide) (by decide) rfl rfl rfl (by decide) (by decide) rfl pd__28IJII_29B rfl rfl (Nat.le_of_eq rfl) ?_
    refine Go.bastoreB (pc' := 60) (i := 1) (v := (.int (f_c_at (0 : Int32) v kk g))) (vs' := [(.int (f_c_at (-1 : Int32) v kk g)), (.int (f_c_at (0 : Int32) v kk g)), (.int (0 : Int32)), (.int (0 : Int32)), (.int (0 : Int32)), (.int (0 : Int32)), (.int (0 : Int32)), (.int (0 : Int32)), (.int (0 : Int32)), (.int (0 : Int32)), (.int (0 : Int32)), (.int (0 : Int32)), (.int (0 : Int32)), (.int (0 : Int32)), (.int (0 : Int32)), (.int (0 : Int32))]) at_59 rfl A_arr (by decide) (Nat.le_of_ble_eq_true rfl) (congrArg Value.int (own_nar _ _ _ _)) rfl ?_
    intro h25 L25 NL25 W25 B25
    replace N0 := NL25 _ N0 gn_arr
    replace sz0 : n0 ≤ h25.size := by rw [W25.size]; exact sz0
    clear A_arr; have A_arr := B25
    refine Go.aload (pc' := 62) at_60 rfl rfl rfl ?_
    refine Go.iconst (pc' := 63) at_62 rfl (z := (2 : Int32)) (by decide) ?_
    refine Go.iconst (pc' := 64) at_63 rfl (z := (2 : Int32)) (by decide) ?_
    refine Go.iload (pc' := 66) at_64 rfl rfl ?_
    refine Go.isub (pc' := 67) at_66 rfl (z := (1 : Int32)) (by decide) ?_
    refine Go.lloadN (pc' := 68) at_67 rfl rfl ?_
    refine Go.iload (pc' := 70) at_68 rfl rfl ?_
    refine Go.iload (pc' := 72) at_70 rfl rfl ?_
    refine Go.callS0 (pc' := 75) (W := 2) (argsL := [(.int (1 : Int32)), (.long v), (.int kk), (.int g)]) (rest := [(.int (2 : Int32)), (.ref arr)]) (v0 := some (.int (f_c_at (1 : Int32) v kk g))) (st2 := [(.int (f_c_at (1 : Int32) v kk g)), (.int (2 : Int32)), (.ref arr)]) at_72 rfl (hw _ w2) (hw _ w3) (hw _ w4) (hw _ w5) (by decide) (c_at hw (1 : Int32) v kk g rfl) (by decide) (by decide) rfl rfl rfl (by decide) (by decide) rfl pd__28IJII_29B rfl rfl (Nat.le_of_eq rfl) ?_
    refine Go.bastoreB (pc' := 76) (i := 2) (v := (.int (f_c_at (1 : Int32) v kk g))) (vs' := [(.int (f_c_at (-1 : Int32) v kk g)), (.int (f_c_at (0 : Int32) v kk g)), (.int (f_c_at (1 : Int32) v kk g)), (.int (0 : Int32)), (.int (0 : Int32)), (.int (0 : Int32)), (.int (0 : Int32)), (.int (0 : Int32)), (.int (0 : Int32)), (.int (0 : Int32)), (.int (0 : Int32)), (.int (0 : Int32)), (.int (0 : Int32)), (.int (0 : Int32)), (.int (0 : Int32)), (.int (0 : Int32))]) at_75 rfl A_arr (by decide) (Nat.le_of_ble_eq_true rfl) (congrArg Value.int (own_nar _ _ _ _)) rfl ?_
    intro h26 L26 NL26 W26 B26
    replace N0 := NL26 _ N0 gn_arr
    replace sz0 : n0 ≤ h26.size := by rw [W26.size]; exact sz0
    clear A_arr; have A_arr := B26
    refine Go.aload (pc' := 78) at_76 rfl rfl rfl ?_
    refine Go.iconst (pc' := 79) at_78 rfl (z := (3 : Int32)) (by decide) ?_
    refine Go.iconst (pc' := 80) at_79 rfl (z := (3 : Int32)) (by decide) ?_
    refine Go.iload (pc' := 82) at_80 rfl rfl ?_
    refine Go.isub (pc' := 83) at_82 rfl (z := (2 : Int32)) (by decide) ?_
    refine Go.lloadN (pc' := 84) at_83 rfl rfl ?_
    refine Go.iload (pc' := 86) at_84 rfl rfl ?_
    refine Go.iload (pc' := 88) at_86 rfl rfl ?_
    refine Go.callS0 (pc' := 91) (W := 2) (argsL := [(.int (2 : Int32)), (.long v), (.int kk), (.int g)]) (rest := [(.int (3 : Int32)), (.ref arr)]) (v0 := some (.int (f_c_at (2 : Int32) v kk g))) (st2 := [(.int (f_c_at (2 : Int32) v kk g)), (.int (3 : Int32)), (.ref arr)]) at_88 rfl (hw _ w2) (hw _ w3) (hw _ w4) (hw _ w5) (by decide) (c_at hw (2 : Int32) v kk g rfl) (by decide) (by decide) rfl rfl rfl (by decide) (by decide) rfl pd__28IJII_29B rfl rfl (Nat.le_of_eq rfl) ?_
    refine Go.bastoreB (pc' := 92) (i := 3) (v := (.int (f_c_at (2 : Int32) v kk g))) (vs' := [(.int (f_c_at (-1 : Int32) v kk g)), (.int (f_c_at (0 : Int32) v kk g)), (.int (f_c_at (1 : Int32) v kk g)), (.int (f_c_at (2 : Int32) v kk g)), (.int (0 : Int32)), (.int (0 : Int32)), (.int (0 : Int32)), (.int (0 : Int32)), (.int (0 : Int32)), (.int (0 : Int32)), (.int (0 : Int32)), (.int (0 : Int32)), (.int (0 : Int32)), (.int (0 : Int32)), (.int (0 : Int32)), (.int (0 : Int32))]) at_91 rfl A_arr (by decide) (Nat.le_of_ble_eq_true rfl) (congrArg Value.int (own_nar _ _ _ _)) rfl ?_
    intro h27 L27 NL27 W27 B27
    replace N0 := NL27 _ N0 gn_arr
    replace sz0 : n0 ≤ h27.size := by rw [W27.size]; exact sz0
    clear A_arr; have A_arr := B27
    refine Go.aload (pc' := 94) at_92 rfl rfl rfl ?_
    refine Go.iconst (pc' := 95) at_94 rfl (z := (4 : Int32)) (by decide) ?_
    refine Go.iconst (pc' := 96) at_95 rfl (z := (4 : Int32)) (by decide) ?_
    refine Go.iload (pc' := 98) at_96 rfl rfl ?_
    refine Go.isub (pc' := 99) at_98 rfl (z := (3 : Int32)) (by decide) ?_
    refine Go.lloadN (pc' := 100) at_99 rfl rfl ?_
    refine Go.iload (pc' := 102) at_100 rfl rfl ?_
    refine Go.iload (pc' := 104) at_102 rfl rfl ?_
    refine Go.callS0 (pc' := 107) (W := 2) (argsL := [(.int (3 : Int32)), (.long v), (.int kk), (.int g)]) (rest := [(.int (4 : Int32)), (.ref arr)]) (v0 := some (.int (f_c_at (3 : Int32) v kk g))) (st2 := [(.int (f_c_at (3 : Int32) v kk g)), (.int (4 : Int32)), (.ref arr)]) at_104 rfl (hw _ w2) (hw _ w3) (hw _ w4) (hw _ w5) (by decide) (c_at hw (3 : Int32) v kk g rfl) (by decide) (by decide) rfl rfl rfl (by decide) (by decide) rfl pd__28IJII_29B rfl rfl (Nat.le_of_eq rfl) ?_
    refine Go.bastoreB (pc' := 108) (i := 4) (v := (.int (f_c_at (3 : Int32) v kk g))) (vs' := [(.int (f_c_at (-1 : Int32) v kk g)), (.int (f_c_at (0 : Int32) v kk g)), (.int (f_c_at (1 : Int32) v kk g)), (.int (f_c_at (2 : Int32) v kk g)), (.int (f_c_at (3 : Int32) v kk g)), (.int (0 : Int32)), (.int (0 : Int32)), (.int (0 : Int32)), (.int (0 : Int32)), (.int (0 : Int32)), (.int (0 : Int32)), (.int (0 : Int32)), (.int (0 : Int32)), (.int (0 : Int32)), (.int (0 : Int32)), (.int (0 : Int32))]) at_107 rfl A_arr (by decide) (Nat.le_of_ble_eq_true rfl) (congrArg Value.int (own_nar _ _ _ _)) rfl ?_
    intro h28 L28 NL28 W28 B28
    replace N0 := NL28 _ N0 gn_arr
    replace sz0 : n0 ≤ h28.size := by rw [W28.size]; exact sz0
    clear A_arr; have A_arr := B28
    refine Go.aload (pc' := 110) at_108 rfl rfl rfl ?_
    refine Go.iconst (pc' := 111) at_110 rfl (z := (5 : Int32)) (by decide) ?_
    refine Go.iconst (pc' := 112) at_111 rfl (z := (5 : Int32)) (by decide) ?_
    refine Go.iload (pc' := 114) at_112 rfl rfl ?_
    refine Go.isub (pc' := 115) at_114 rfl (z := (4 : Int32)) (by decide) ?_
    refine Go.lloadN (pc' := 116) at_115 rfl rfl ?_
    refine Go.iload (pc' := 118) at_116 rfl rfl ?_
    refine Go.iload (pc' := 120) at_118 rfl rfl ?_
    refine Go.callS0 (pc' := 123) (W := 2) (argsL := [(.int (4 : Int32)), (.long v), (.int kk), (.int g)]) (rest := [(.int (5 : Int32)), (.ref arr)]) (v0 := some (.int (f_c_at (4 : Int32) v kk g))) (st2 := [(.int (f_c_at (4 : Int32) v kk g)), (.int (5 : Int32)), (.ref arr)]) at_120 rfl (hw _ w2) (hw _ w3) (hw _ w4) (hw _ w5) (by decide) (c_at hw (4 : Int32) v kk g rfl) (by decide) (by decide) rfl rfl rfl (by decide) (by decide) rfl pd__28IJII_29B rfl rfl (Nat.le_of_eq rfl) ?_
    refine Go.bastoreB (pc' := 124) (i := 5) (v := (.int (f_c_at (4 : Int32) v kk g))) (vs' := [(.int (f_c_at (-1 : Int32) v kk g)), (.int (f_c_at (0 : Int32) v kk g)), (.int (f_c_at (1 : Int32) v kk g)), (.int (f_c_at (2 : Int32) v kk g)), (.int (f_c_at (3 : Int32) v kk g)), (.int (f_c_at (4 : Int32) v kk g)), (.int (0 : Int32)), (.int (0 : Int32)), (.int (0 : Int32)), (.int (0 : Int32)), (.int (0 : Int32)), (.int (0 : Int32)), (.int (0 : Int32)), (.int (0 : Int32)), (.int (0 : Int32)), (.int (0 : Int32))]) at_123 rfl A_arr (by decide) (Nat.le_of_ble_eq_true rfl) (congrArg Value.int (own_nar _ _ _ _)) rfl ?_
    intro h29 L29 NL29 W29 B29
    replace N0 := NL29 _ N0 gn_arr
    replace sz0 : n0 ≤ h29.size := by rw [W29.size]; exact sz0
    clear A_arr; have A_arr := B29
    refine Go.aload (pc' := 126) at_124 rfl rfl rfl ?_
    refine Go.bipush (pc' := 128) at_126 rfl (z := (6 : Int32)) (by decide) ?_
    refine Go.bipush (pc' := 130) at_128 rfl (z := (6 : Int32)) (by decide) ?_
    refine Go.iload (pc' := 132) at_130 rfl rfl ?_
    refine Go.isub (pc' := 133) at_132 rfl (z := (5 : Int32)) (by decide) ?_
    refine Go.lloadN (pc' := 134) at_133 rfl rfl ?_
    refine Go.iload (pc' := 136) at_134 rfl rfl ?_
    refine Go.iload (pc' := 138) at_136 rfl rfl ?_
    refine Go.callS0 (pc' := 141) (W := 2) (argsL := [(.int (5 : Int32)), (.long v), (.int kk), (.int g)]) (rest := [(.int (6 : Int32)), (.ref arr)]) (v0 := some (.int (f_c_at (5 : Int32) v kk g))) (st2 := [(.int (f_c_at (5 : Int32) v kk g)), (.int (6 : Int32)), (.ref arr)]) at_138 rfl (hw _ w2) (hw _ w3) (hw _ w4) (hw _ w5) (by decide) (c_at hw (5 : Int32) v kk g rfl) (by decide) (by decide) rfl rfl rfl (by decide) (by decide) rfl pd__28IJII_29B rfl rfl (Nat.le_of_eq rfl) ?_
    refine Go.bastoreB (pc' := 142) (i := 6) (v := (.int (f_c_at (5 : Int32) v kk g))) (vs' := [(.int (f_c_at (-1 : Int32) v kk g)), (.int (f_c_at (0 : Int32) v kk g)), (.int (f_c_at (1 : Int32) v kk g)), (.int (f_c_at (2 : Int32) v kk g)), (.int (f_c_at (3 : Int32) v kk g)), (.int (f_c_at (4 : Int32) v kk g)), (.int (f_c_at (5 : Int32) v kk g)), (.int (0 : Int32)), (.int (0 : Int32)), (.int (0 : Int32)), (.int (0 : Int32)), (.int (0 : Int32)), (.int (0 : Int32)), (.int (0 : Int32)), (.int (0 : Int32)), (.int (0 : Int32))]) at_141 rfl A_arr (by decide) (Nat.le_of_ble_eq_true rfl) (congrArg Value.int (own_nar _ _ _ _)) rfl ?_
    intro h30 L30 NL30 W30 B30
    replace N0 := NL30 _ N0 gn_arr
    replace sz0 : n0 ≤ h30.size := by rw [W30.size]; exact sz0
    clear A_arr; have A_arr := B30
    refine Go.aload (pc' := 144) at_142 rfl rfl rfl ?_
    refine Go.bipush (pc' := 146) at_144 rfl (z := (7 : Int32)) (by decide) ?_
    refine Go.bipush (pc' := 148) at_146 rfl (z := (7 : Int32)) (by decide) ?_
    refine Go.iload (pc' := 150) at_148 rfl rfl ?_
    refine Go.isub (pc' := 151) at_150 rfl (z := (6 : Int32)) (by decide) ?_
    refine Go.lloadN (pc' := 152) at_151 rfl rfl ?_
    refine Go.iload (pc' := 154) at_152 rfl rfl ?_
    refine Go.iload (pc' := 156) at_154 rfl rfl ?_
    refine Go.callS0 (pc' := 159) (W := 2) (argsL := [(.int (6 : Int32)), (.long v), (.int kk), (.int g)]) (rest := [(.int (7 : Int32)), (.ref arr)]) (v0 := some (.int (f_c_at (6 : Int32) v kk g))) (st2 := [(.int (f_c_at (6 : Int32) v kk g)), (.int (7 : Int32)), (.ref arr)]) at_156 rfl (hw _ w2) (hw _ w3) (hw _ w4) (hw _ w5) (by decide) (c_at hw (6 : Int32) v kk g rfl) (by decide) (by decide) rfl rfl rfl (by decide) (by decide) rfl pd__28IJII_29B rfl rfl (Nat.le_of_eq rfl) ?_
    refine Go.bastoreB (pc' := 160) (i := 7) (v := (.int (f_c_at (6 : Int32) v kk g))) (vs' := [(.int (f_c_at (-1 : Int32) v kk g)), (.int (f_c_at (0 : Int32) v kk g)), (.int (f_c_at (1 : Int32) v kk g)), (.int (f_c_at (2 : Int32) v kk g)), (.int (f_c_at (3 : Int32) v kk g)), (.int (f_c_at (4 : Int32) v kk g)), (.int (f_c_at (5 : Int32) v kk g)), (.int (f_c_at (6 : Int32) v kk g)), (.int (0 : Int32)), (.int (0 : Int32)), (.int (0 : Int32)), (.int (0 : Int32)), (.int (0 : Int32)), (.int (0 : Int32)), (.int (0 : Int32)), (.int (0 : Int32))]) at_159 rfl A_arr (by decide) (Nat.le_of_ble_eq_true rfl) (congrArg Value.int (own_nar _ _ _ _)) rfl ?_
    intro h31 L31 NL31 W31 B31
    replace N0 := NL31 _ N0 gn_arr
    replace sz0 : n0 ≤ h31.size := by rw [W31.size]; exact sz0
    clear A_arr; have A_arr := B31
    refine Go.aload (pc' := 162) at_160 rfl rfl rfl ?_
    refine Go.bipush (pc' := 164) at_162 rfl (z := (8 : Int32)) (by decide) ?_
    refine Go.bipush (pc' := 166) at_164 rfl (z := (8 : Int32)) (by decide) ?_
    refine Go.iload (pc' := 168) at_166 rfl rfl ?_
    refine Go.isub (pc' := 169) at_168 rfl (z := (7 : Int32)) (by decide) ?_
    refine Go.lloadN (pc' := 170) at_169 rfl rfl ?_
    refine Go.iload (pc' := 172) at_170 rfl rfl ?_
    refine Go.iload (pc' := 174) at_172 rfl rfl ?_
    refine Go.callS0 (pc' := 177) (W := 2) (argsL := [(.int (7 : Int32)), (.long v), (.int kk), (.int g)]) (rest := [(.int (8 : Int32)), (.ref arr)]) (v0 := some (.int (f_c_at (7 : Int32) v kk g))) (st2 := [(.int (f_c_at (7 : Int32) v kk g)), (.int (8 : Int32)), (.ref arr)]) at_174 rfl (hw _ w2) (hw _ w3) (hw _ w4) (hw _ w5) (by decide) (c_at hw (7 : Int32) v kk g rfl) (by decide) (by decide) rfl rfl rfl (by decide) (by decide) rfl pd__28IJII_29B rfl rfl (Nat.le_of_eq rfl) ?_
    refine Go.bastoreB (pc' := 178) (i := 8) (v := (.int (f_c_at (7 : Int32) v kk g))) (vs' := [(.int (f_c_at (-1 : Int32) v kk g)), (.int (f_c_at (0 : Int32) v kk g)), (.int (f_c_at (1 : Int32) v kk g)), (.int (f_c_at (2 : Int32) v kk g)), (.int (f_c_at (3 : Int32) v kk g)), (.int (f_c_at (4 : Int32) v kk g)), (.int (f_c_at (5 : Int32) v kk g)), (.int (f_c_at (6 : Int32) v kk g)), (.int (f_c_at (7 : Int32) v kk g)), (.int (0 : Int32)), (.int (0 : Int32)), (.int (0 : Int32)), (.int (0 : Int32)), (.int (0 : Int32)), (.int (0 : Int32)), (.int (0 : Int32))]) at_177 rfl A_arr (by decide) (Nat.le_of_ble_eq_true rfl) (congrArg Value.int (own_nar _ _ _ _)) rfl ?_
    intro h32 L32 NL32 W32 B32
    replace N0 := NL32 _ N0 gn_arr
    replace sz0 : n0 ≤ h32.size := by rw [W32.size]; exact sz0
    clear A_arr; have A_arr := B32
    refine Go.aload (pc' := 180) at_178 rfl rfl rfl ?_
    refine Go.bipush (pc' := 182) at_180 rfl (z := (9 : Int32)) (by decide) ?_
    refine Go.bipush (pc' := 184) at_182 rfl (z := (9 : Int32)) (by decide) ?_
    refine Go.iload (pc' := 186) at_184 rfl rfl ?_
    refine Go.isub (pc' := 187) at_186 rfl (z := (8 : Int32)) (by decide) ?_
    refine Go.lloadN (pc' := 188) at_187 rfl rfl ?_
    refine Go.iload (pc' := 190) at_188 rfl rfl ?_
    refine Go.iload (pc' := 192) at_190 rfl rfl ?_
    refine Go.callS0 (pc' := 195) (W := 2) (argsL := [(.int (8 : Int32)), (.long v), (.int kk), (.int g)]) (rest := [(.int (9 : Int32)), (.ref arr)]) (v0 := some (.int (f_c_at (8 : Int32) v kk g))) (st2 := [(.int (f_c_at (8 : Int32) v kk g)), (.int (9 : Int32)), (.ref arr)]) at_192 rfl (hw _ w2) (hw _ w3) (hw _ w4) (hw _ w5) (by decide) (c_at hw (8 : Int32) v kk g rfl) (by decide) (by decide) rfl rfl rfl (by decide) (by decide) rfl pd__28IJII_29B rfl rfl (Nat.le_of_eq rfl) ?_
    refine Go.bastoreB (pc' := 196) (i := 9) (v := (.int (f_c_at (8 : Int32) v kk g))) (vs' := [(.int (f_c_at (-1 : Int32) v kk g)), (.int (f_c_at (0 : Int32) v kk g)), (.int (f_c_at (1 : Int32) v kk g)), (.int (f_c_at (2 : Int32) v kk g)), (.int (f_c_at (3 : Int32) v kk g)), (.int (f_c_at (4 : Int32) v kk g)), (.int (f_c_at (5 : Int32) v kk g)), (.int (f_c_at (6 : Int32) v kk g)), (.int (f_c_at (7 : Int32) v kk g)), (.int (f_c_at (8 : Int32) v kk g)), (.int (0 : Int32)), (.int (0 : Int32)), (.int (0 : Int32)), (.int (0 : Int32)), (.int (0 : Int32)), (.int (0 : Int32))]) at_195 rfl A_arr (by decide) (Nat.le_of_ble_eq_true rfl) (congrArg Value.int (own_nar _ _ _ _)) rfl ?_
    intro h33 L33 NL33 W33 B33
    replace N0 := NL33 _ N0 gn_arr
    replace sz0 : n0 ≤ h33.size := by rw [W33.size]; exact sz0
    clear A_arr; have A_arr := B33
    refine Go.aload (pc' := 198) at_196 rfl rfl rfl ?_
    refine Go.bipush (pc' := 200) at_198 rfl (z := (10 : Int32)) (by decide) ?_
    refine Go.bipush (pc' := 202) at_200 rfl (z := (10 : Int32)) (by decide) ?_
    refine Go.iload (pc' := 204) at_202 rfl rfl ?_
    refine Go.isub (pc' := 205) at_204 rfl (z := (9 : Int32)) (by decide) ?_
    refine Go.lloadN (pc' := 206) at_205 rfl rfl ?_
    refine Go.iload (pc' := 208) at_206 rfl rfl ?_
    refine Go.iload (pc' := 210) at_208 rfl rfl ?_
    refine Go.callS0 (pc' := 213) (W := 2) (argsL := [(.int (9 : Int32)), (.long v), (.int kk), (.int g)]) (rest := [(.int (10 : Int32)), (.ref arr)]) (v0 := some (.int (f_c_at (9 : Int32) v kk g))) (st2 := [(.int (f_c_at (9 : Int32) v kk g)), (.int (10 : Int32)), (.ref arr)]) at_210 rfl (hw _ w2) (hw _ w3) (hw _ w4) (hw _ w5) (by decide) (c_at hw (9 : Int32) v kk g rfl) (by decide) (by decide) rfl rfl rfl (by decide) (by decide) rfl pd__28IJII_29B rfl rfl (Nat.le_of_eq rfl) ?_
    refine Go.bastoreB (pc' := 214) (i := 10) (v := (.int (f_c_at (9 : Int32) v kk g))) (vs' := [(.int (f_c_at (-1 : Int32) v kk g)), (.int (f_c_at (0 : Int32) v kk g)), (.int (f_c_at (1 : Int32) v kk g)), (.int (f_c_at (2 : Int32) v kk g)), (.int (f_c_at (3 : Int32) v kk g)), (.int (f_c_at (4 : Int32) v kk g)), (.int (f_c_at (5 : Int32) v kk g)), (.int (f_c_at (6 : Int32) v kk g)), (.int (f_c_at (7 : Int32) v kk g)), (.int (f_c_at (8 : Int32) v kk g)), (.int (f_c_at (9 : Int32) v kk g)), (.int (0 : Int32)), (.int (0 : Int32)), (.int (0 : Int32)), (.int (0 : Int32)), (.int (0 : Int32))]) at_213 rfl A_arr (by decide) (Nat.le_of_ble_eq_true rfl) (congrArg Value.int (own_nar _ _ _ _)) rfl ?_
    intro h34 L34 NL34 W34 B34
    replace N0 := NL34 _ N0 gn_arr
    replace sz0 : n0 ≤ h34.size := by rw [W34.size]; exact sz0
    clear A_arr; have A_arr := B34
    refine Go.aload (pc' := 216) at_214 rfl rfl rfl ?_
    refine Go.bipush (pc' := 218) at_216 rfl (z := (11 : Int32)) (by decide) ?_
    refine Go.bipush (pc' := 220) at_218 rfl (z := (11 : Int32)) (by decide) ?_
    refine Go.iload (pc' := 222) at_220 rfl rfl ?_
    refine Go.isub (pc' := 223) at_222 rfl (z := (10 : Int32)) (by decide) ?_
    refine Go.lloadN (pc' := 224) at_223 rfl rfl ?_
    refine Go.iload (pc' := 226) at_224 rfl rfl ?_
    refine Go.iload (pc' := 228) at_226 rfl rfl ?_
    refine Go.callS0 (pc' := 231) (W := 2) (argsL := [(.int (10 : Int32)), (.long v), (.int kk), (.int g)]) (rest := [(.int (11 : Int32)), (.ref arr)]) (v0 := some (.int (f_c_at (10 : Int32) v kk g))) (st2 := [(.int (f_c_at (10 : Int32) v kk g)), (.int (11 : Int32)), (.ref arr)]) at_228 rfl (hw _ w2) (hw _ w3) (hw _ w4) (hw _ w5) (by decide) (c_at hw (10 : Int32) v kk g rfl) (by decide) (by decide) rfl rfl rfl (by decide) (by decide) rfl pd__28IJII_29B rfl rfl (Nat.le_of_eq rfl) ?_
    refine Go.bastoreB (pc' := 232) (i := 11) (v := (.int (f_c_at (10 : Int32) v kk g))) (vs' := [(.int (f_c_at (-1 : Int32) v kk g)), (.int (f_c_at (0 : Int32) v kk g)), (.int (f_c_at (1 : Int32) v kk g)), (.int (f_c_at (2 : Int32) v kk g)), (.int (f_c_at (3 : Int32) v kk g)), (.int (f_c_at (4 : Int32) v kk g)), (.int (f_c_at (5 : Int32) v kk g)), (.int (f_c_at (6 : Int32) v kk g)), (.int (f_c_at (7 : Int32) v kk g)), (.int (f_c_at (8 : Int32) v kk g)), (.int (f_c_at (9 : Int32) v kk g)), (.int (f_c_at (10 : Int32) v kk g)), (.int (0 : Int32)), (.int (0 : Int32)), (.int (0 : Int32)), (.int (0 : Int32))]) at_231 rfl A_arr (by decide) (Nat.le_of_ble_eq_true rfl) (congrArg Value.int (own_nar _ _ _ _)) rfl ?_
    intro h35 L35 NL35 W35 B35
    replace N0 := NL35 _ N0 gn_arr
    replace sz0 : n0 ≤ h35.size := by rw [W35.size]; exact sz0
    clear A_arr; have A_arr := B35
    refine Go.aload (pc' := 234) at_232 rfl rfl rfl ?_
    refine Go.bipush (pc' := 236) at_234 rfl (z := (12 : Int32)) (by decide) ?_
    refine Go.bipush (pc' := 238) at_236 rfl (z := (12 : Int32)) (by decide) ?_
    refine Go.iload (pc' := 240) at_238 rfl rfl ?_
    refine Go.isub (pc' := 241) at_240 rfl (z := (11 : Int32)) (by decide) ?_
    refine Go.lloadN (pc' := 242) at_241 rfl rfl ?_
    refine Go.iload (pc' := 244) at_242 rfl rfl ?_
    refine Go.iload (pc' := 246) at_244 rfl rfl ?_
    refine Go.callS0 (pc' := 249) (W := 2) (argsL := [(.int (11 : Int32)), (.long v), (.int kk), (.int g)]) (rest := [(.int (12 : Int32)), (.ref arr)]) (v0 := some (.int (f_c_at (11 : Int32) v kk g))) (st2 := [(.int (f_c_at (11 : Int32) v kk g)), (.int (12 : Int32)), (.ref arr)]) at_246 rfl (hw _ w2) (hw _ w3) (hw _ w4) (hw _ w5) (by decide) (c_at hw (11 : Int32) v kk g rfl) (by decide) (by decide) rfl rfl rfl (by decide) (by decide) rfl pd__28IJII_29B rfl rfl (Nat.le_of_eq rfl) ?_
    refine Go.bastoreB (pc' := 250) (i := 12) (v := (.int (f_c_at (11 : Int32) v kk g))) (vs' := [(.int (f_c_at (-1 : Int32) v kk g)), (.int (f_c_at (0 : Int32) v kk g)), (.int (f_c_at (1 : Int32) v kk g)), (.int (f_c_at (2 : Int32) v kk g)), (.int (f_c_at (3 : Int32) v kk g)), (.int (f_c_at (4 : Int32) v kk g)), (.int (f_c_at (5 : Int32) v kk g)), (.int (f_c_at (6 : Int32) v kk g)), (.int (f_c_at (7 : Int32) v kk g)), (.int (f_c_at (8 : Int32) v kk g)), (.int (f_c_at (9 : Int32) v kk g)), (.int (f_c_at (10 : Int32) v kk g)), (.int (f_c_at (11 : Int32) v kk g)), (.int (0 : Int32)), (.int (0 : Int32)), (.int (0 : Int32))]) at_249 rfl A_arr (by decide) (Nat.le_of_ble_eq_true rfl) (congrArg Value.int (own_nar _ _ _ _)) rfl ?_
    intro h36 L36 NL36 W36 B36
    replace N0 := NL36 _ N0 gn_arr
    replace sz0 : n0 ≤ h36.size := by rw [W36.size]; exact sz0
    clear A_arr; have A_arr := B36
    refine Go.aload (pc' := 252) at_250 rfl rfl rfl ?_
    refine Go.bipush (pc' := 254) at_252 rfl (z := (13 : Int32)) (by decide) ?_
    refine Go.bipush (pc' := 256) at_254 rfl (z := (13 : Int32)) (by decide) ?_
    refine Go.iload (pc' := 258) at_256 rfl rfl ?_
    refine Go.isub (pc' := 259) at_258 rfl (z := (12 : Int32)) (by decide) ?_
    refine Go.lloadN (pc' := 260) at_259 rfl rfl ?_
    refine Go.iload (pc' := 262) at_260 rfl rfl ?_
    refine Go.iload (pc' := 264) at_262 rfl rfl ?_
    refine Go.callS0 (pc' := 267) (W := 2) (argsL := [(.int (12 : Int32)), (.long v), (.int kk), (.int g)]) (rest := [(.int (13 : Int32)), (.ref arr)]) (v0 := some (.int (f_c_at (12 : Int32) v kk g))) (st2 := [(.int (f_c_at (12 : Int32) v kk g)), (.int (13 : Int32)), (.ref arr)]) at_264 rfl (hw _ w2) (hw _ w3) (hw _ w4) (hw _ w5) (by decide) (c_at hw (12 : Int32) v kk g rfl) (by decide) (by decide) rfl rfl rfl (by decide) (by decide) rfl pd__28IJII_29B rfl rfl (Nat.le_of_eq rfl) ?_
    refine Go.bastoreB (pc' := 268) (i := 13) (v := (.int (f_c_at (12 : Int32) v kk g))) (vs' := [(.int (f_c_at (-1 : Int32) v kk g)), (.int (f_c_at (0 : Int32) v kk g)), (.int (f_c_at (1 : Int32) v kk g)), (.int (f_c_at (2 : Int32) v kk g)), (.int (f_c_at (3 : Int32) v kk g)), (.int (f_c_at (4 : Int32) v kk g)), (.int (f_c_at (5 : Int32) v kk g)), (.int (f_c_at (6 : Int32) v kk g)), (.int (f_c_at (7 : Int32) v kk g)), (.int (f_c_at (8 : Int32) v kk g)), (.int (f_c_at (9 : Int32) v kk g)), (.int (f_c_at (10 : Int32) v kk g)), (.int (f_c_at (11 : Int32) v kk g)), (.int (f_c_at (12 : Int32) v kk g)), (.int (0 : Int32)), (.int (0 : Int32))]) at_267 rfl A_arr (by decide) (Nat.le_of_ble_eq_true rfl) (congrArg Value.int (own_nar _ _ _ _)) rfl ?_
    intro h37 L37 NL37 W37 B37
    replace N0 := NL37 _ N0 gn_arr
    replace sz0 : n0 ≤ h37.size := by rw [W37.size]; exact sz0
    clear A_arr; have A_arr := B37
    refine Go.aload (pc' := 270) at_268 rfl rfl rfl ?_
    refine Go.bipush (pc' := 272) at_270 rfl (z := (14 : Int32)) (by decide) ?_
    refine Go.bipush (pc' := 274) at_272 rfl (z := (14 : Int32)) (by decide) ?_
    refine Go.iload (pc' := 276) at_274 rfl rfl ?_
    refine Go.isub (pc' := 277) at_276 rfl (z := (13 : Int32)) (by decide) ?_
    refine Go.lloadN (pc' := 278) at_277 rfl rfl ?_
    refine Go.iload (pc' := 280) at_278 rfl rfl ?_
    refine Go.iload (pc' := 282) at_280 rfl rfl ?_
    refine Go.callS0 (pc' := 285) (W := 2) (argsL := [(.int (13 : Int32)), (.long v), (.int kk), (.int g)]) (rest := [(.int (14 : Int32)), (.ref arr)]) (v0 := some (.int (f_c_at (13 : Int32) v kk g))) (st2 := [(.int (f_c_at (13 : Int32) v kk g)), (.int (14 : Int32)), (.ref arr)]) at_282 rfl (hw _ w2) (hw _ w3) (hw _ w4) (hw _ w5) (by decide) (c_at hw (13 : Int32) v kk g rfl) (by decide) (by decide) rfl rfl rfl (by decide) (by decide) rfl pd__28IJII_29B rfl rfl (Nat.le_of_eq rfl) ?_
    refine Go.bastoreB (pc' := 286) (i := 14) (v := (.int (f_c_at (13 : Int32) v kk g))) (vs' := [(.int (f_c_at (-1 : Int32) v kk g)), (.int (f_c_at (0 : Int32) v kk g)), (.int (f_c_at (1 : Int32) v kk g)), (.int (f_c_at (2 : Int32) v kk g)), (.int (f_c_at (3 : Int32) v kk g)), (.int (f_c_at (4 : Int32) v kk g)), (.int (f_c_at (5 : Int32) v kk g)), (.int (f_c_at (6 : Int32) v kk g)), (.int (f_c_at (7 : Int32) v kk g)), (.int (f_c_at (8 : Int32) v kk g)), (.int (f_c_at (9 : Int32) v kk g)), (.int (f_c_at (10 : Int32) v kk g)), (.int (f_c_at (11 : Int32) v kk g)), (.int (f_c_at (12 : Int32) v kk g)), (.int (f_c_at (13 : Int32) v kk g)), (.int (0 : Int32))]) at_285 rfl A_arr (by decide) (Nat.le_of_ble_eq_true rfl) (congrArg Value.int (own_nar _ _ _ _)) rfl ?_
    intro h38 L38 NL38 W38 B38
    replace N0 := NL38 _ N0 gn_arr
    replace sz0 : n0 ≤ h38.size := by rw [W38.size]; exact sz0
    clear A_arr; have A_arr := B38
    refine Go.aload (pc' := 288) at_286 rfl rfl rfl ?_
    refine Go.bipush (pc' := 290) at_288 rfl (z := (15 : Int32)) (by decide) ?_
    refine Go.bipush (pc' := 292) at_290 rfl (z := (15 : Int32)) (by decide) ?_
    refine Go.iload (pc' := 294) at_292 rfl rfl ?_
    refine Go.isub (pc' := 295) at_294 rfl (z := (14 : Int32)) (by decide) ?_
    refine Go.lloadN (pc' := 296) at_295 rfl rfl ?_
    refine Go.iload (pc' := 298) at_296 rfl rfl ?_
    refine Go.iload (pc' := 300) at_298 rfl rfl ?_
    refine Go.callS0 (pc' := 303) (W := 2) (argsL := [(.int (14 : Int32)), (.long v), (.int kk), (.int g)]) (rest := [(.int (15 : Int32)), (.ref arr)]) (v0 := some (.int (f_c_at (14 : Int32) v kk g))) (st2 := [(.int (f_c_at (14 : Int32) v kk g)), (.int (15 : Int32)), (.ref arr)]) at_300 rfl (hw _ w2) (hw _ w3) (hw _ w4) (hw _ w5) (by decide) (c_at hw (14 : Int32) v kk g rfl) (by decide) (by decide) rfl rfl rfl (by decide) (by decide) rfl pd__28IJII_29B rfl rfl (Nat.le_of_eq rfl) ?_
    refine Go.bastoreB (pc' := 304) (i := 15) (v := (.int (f_c_at (14 : Int32) v kk g))) (vs' := [(.int (f_c_at (-1 : Int32) v kk g)), (.int (f_c_at (0 : Int32) v kk g)), (.int (f_c_at (1 : Int32) v kk g)), (.int (f_c_at (2 : Int32) v kk g)), (.int (f_c_at (3 : Int32) v kk g)), (.int (f_c_at (4 : Int32) v kk g)), (.int (f_c_at (5 : Int32) v kk g)), (.int (f_c_at (6 : Int32) v kk g)), (.int (f_c_at (7 : Int32) v kk g)), (.int (f_c_at (8 : Int32) v kk g)), (.int (f_c_at (9 : Int32) v kk g)), (.int (f_c_at (10 : Int32) v kk g)), (.int (f_c_at (11 : Int32) v kk g)), (.int (f_c_at (12 : Int32) v kk g)), (.int (f_c_at (13 : Int32) v kk g)), (.int (f_c_at (14 : Int32) v kk g))]) at_303 rfl A_arr (by decide) (Nat.le_of_ble_eq_true rfl) (congrArg Value.int (own_nar _ _ _ _)) rfl ?_
    intro h39 L39 NL39 W39 B39
    replace N0 := NL39 _ N0 gn_arr
    replace sz0 : n0 ≤ h39.size := by rw [W39.size]; exact sz0
    clear A_arr; have A_arr := B39
    refine Go.newO (pc' := 307) (k' := 2) (n' := 19) at_304 rfl (hw _ w8) (hw _ w9) (hw _ w10) (by decide) (by decide) rfl rfl ?_
    intro h40 a40 ha_a40 X40 E_a40 D40
    have ne_arr_a40 : arr ≠ a40 := Nat.ne_of_lt (by rw [ha_a40]; exact A_arr.lt)
    have gn_a40 : n0 ≤ a40 := by rw [ha_a40]; exact sz0
    replace sz0 : n0 ≤ h40.size := Nat.le_trans sz0 X40.1
    replace A_arr := A_arr.ext X40
    have F_a40_bytes : Fld Z h40 a40 "com/example/mixed_urn/mixedurn/index/ByteReader" "bytes" "[B" .null := D40 (Or.inr (hw _ w18)) (ty := (.array .byte)) (by decide)
    have F_a40_position : Fld Z h40 a40 "com/example/mixed_urn/mixedurn/index/ByteReader" "position" "I" (.int (0 : Int32)) := D40 (Or.inl (hw _ w20)) (ty := .int) (by decide)
    have F_a40_end : Fld Z h40 a40 "com/example/mixed_urn/mixedurn/index/ByteReader" "end" "I" (.int (0 : Int32)) := D40 (Or.inr (hw _ w22)) (ty := .int) (by decide)
    refine Go.dup (pc' := 308) at_307 rfl rfl ?_
    refine Go.aload (pc' := 310) at_308 rfl rfl rfl ?_
    refine Go.iload (pc' := 312) at_310 rfl rfl ?_
    refine Go.iload (pc' := 314) at_312 rfl rfl ?_
    refine Go.iload (pc' := 316) at_314 rfl rfl ?_
    refine Go.iadd (pc' := 317) at_316 rfl rfl ?_
    refine Go.callI (pc' := 320) (W := 1) (a := a40) (argsL := [(.ref arr), (.int (1 : Int32)), (.int (kk + ex))]) (rest := [(.ref a40)]) (k' := 2) (n' := 19) at_317 rfl rfl (hw _ w11) (hw _ w12) (hw _ w10) (hw _ w13) (by decide) (c_init hw sz0 a40 arr (1 : Int32) (kk + ex) gn_a40 E_a40 F_a40_bytes F_a40_position F_a40_end) (by decide) (by decide) (by decide) (by decide) rfl rfl rfl pd__28_5bBII_29V rfl rfl (Nat.le_of_eq rfl) ?_
    intro v41 h41 P41 L41 NL41 hq41
    obtain ⟨rfl, N41, K41, E_a40_41, F_a40_bytes_41, F_a40_position_41, F_a40_end_41⟩ := hq41
    dsimp only [Option.toList, List.cons_append, List.nil_append]
    replace N0 := NL41 _ N0 N41
    replace sz0 : n0 ≤ h41.size := Nat.le_trans sz0 K41.1
    clear E_a40
    clear F_a40_bytes
    clear F_a40_position
    clear F_a40_end
    replace A_arr := A_arr.keep K41 (ninS ne_arr_a40 nin0)
    have E_a40 := E_a40_41; clear E_a40_41
    have F_a40_bytes := F_a40_bytes_41; clear F_a40_bytes_41
    have F_a40_position := F_a40_position_41; clear F_a40_position_41
    have F_a40_end := F_a40_end_41; clear F_a40_end_41
    refine Go.astore (pc' := 322) at_320 rfl rfl (Ls' := #[.val (.long v), .second, .val (.int kq), .val (.int oo), .val (.int ee), .val (.int g), .val (.int kk), .val (.int (1 : Int32)), .val (.int ex), .val (.ref arr), .val (.ref a40), .unset, .unset, .unset, .unset]) rfl ?_
    refine Go.aload (pc' := 324) at_322 rfl rfl rfl ?_
    have hvs : ∀ i, i < K → ([(.int (f_c_at (-1 : Int32) v kk g)), (.int (f_c_at (0 : Int32) v kk g)), (.int (f_c_at (1 : Int32) v kk g)), (.int (f_c_at (2 : Int32) v kk g)), (.int (f_c_at (3 : Int32) v kk g)), (.int (f_c_at (4 : Int32) v kk g)), (.int (f_c_at (5 : Int32) v kk g)), (.int (f_c_at (6 : Int32) v kk g)), (.int (f_c_at (7 : Int32) v kk g)), (.int (f_c_at (8 : Int32) v kk g)), (.int (f_c_at (9 : Int32) v kk g)), (.int (f_c_at (10 : Int32) v kk g)), (.int (f_c_at (11 : Int32) v kk g)), (.int (f_c_at (12 : Int32) v kk g)), (.int (f_c_at (13 : Int32) v kk g)), (.int (f_c_at (14 : Int32) v kk g))] : List Value)[1 + i]? = some (.int (f_c_at (Int32.ofNat i) v kk g)) := by
      intro i hi
      match i, (show i < 10 by omega) with
      | 0, _ => rfl
      | 1, _ => rfl
      | 2, _ => rfl
      | 3, _ => rfl
      | 4, _ => rfl
      | 5, _ => rfl
      | 6, _ => rfl
      | 7, _ => rfl
      | 8, _ => rfl
      | 9, _ => rfl
    have ko : (1 : Int32).toInt = 1 := by decide
    have ea : (kk + ex).toInt = kk.toInt + ex.toInt := iadd_eq (by omega) (by omega)
    have eb : ((1 : Int32) + (kk + ex)).toInt = 1 + kk.toInt + ex.toInt := by rw [iadd_eq (by omega) (by omega), ko, ea]; omega
    refine Go.callV (pc' := 327) (W := 0) (a := a40) (argsL := []) (rest := []) (k' := 2) (n' := 19) at_324 rfl (hw _ w23) (hw _ w24) (nf_sel (hw _ w26)) (hw _ w26) (hw _ w25) (hw _ w10) (hw _ w27) E_a40 (by decide) (c_rn hw sz0 a40 arr gn_a40 ((1 : Int32) + (kk + ex)) v _ (fun i => f_c_at (Int32.ofNat i) v kk g) 1 K hK10 (by omega) hvs (fun i hi => own_at v kk g K i hK hi hK10) (1 : Int32) E_a40 F_a40_bytes F_a40_position F_a40_end A_arr (by decide) hK1) (by decide) (by decide) (by decide) (by decide) rfl rfl rfl pd__28_29J rfl rfl (Nat.le_of_eq rfl) ?_
    intro v42 h42 P42 L42 NL42 hq42
    obtain ⟨res, pk, rfl, N42, K42, E_a40_42, F_a40_bytes_42, F_a40_position_42, F_a40_end_42, hpk, hres⟩ := hq42
    dsimp only [Option.toList, List.cons_append, List.nil_append]
    replace N0 := NL42 _ N0 N42
    replace sz0 : n0 ≤ h42.size := Nat.le_trans sz0 K42.1
    clear E_a40
    clear F_a40_bytes
    clear F_a40_position
    clear F_a40_end
    replace A_arr := A_arr.keep K42 (ninS ne_arr_a40 nin0)
    have E_a40 := E_a40_42; clear E_a40_42
    have F_a40_bytes := F_a40_bytes_42; clear F_a40_bytes_42
    have F_a40_position := F_a40_position_42; clear F_a40_position_42
    have F_a40_end := F_a40_end_42; clear F_a40_end_42
    refine Go.lstore (pc' := 329) at_327 rfl (Ls' := #[.val (.long v), .second, .val (.int kq), .val (.int oo), .val (.int ee), .val (.int g), .val (.int kk), .val (.int (1 : Int32)), .val (.int ex), .val (.ref arr), .val (.ref a40), .val (.long res), .second, .unset, .unset]) rfl ?_
    rcases own_ten kk K hK hK1 hK10 with hs43 | hs43 | hs43 | hs43 | hs43 | hs43 | hs43 | hs43 | hs43 | hs43
    · subst hs43
      have kn : (1 : Int32).toInt = 1 := by decide
      obtain rfl : K = 1 := by omega
      refine Go.bipush (pc' := 331) at_329 rfl (z := (7 : Int32)) (by decide) ?_
      refine Go.iload (pc' := 333) at_331 rfl rfl ?_
      refine Go.imul (pc' := 334) at_333 rfl (z := (7 : Int32)) (by decide) ?_
      refine Go.bipush (pc' := 336) at_334 rfl (z := (64 : Int32)) (by decide) ?_
      refine Go.icmpT (pc' := 343) (X := (7 : Int)) (Y := (64 : Int)) at_336 (by decide) (by decide) (by decide) (by decide : (7 : Int) < (64 : Int)) ?_
      refine Go.lloadN (pc' := 344) at_343 rfl rfl ?_
      refine Go.lconst (pc' := 345) at_344 rfl (z := (1 : Int64)) (by decide) ?_
      refine Go.bipush (pc' := 347) at_345 rfl (z := (7 : Int32)) (by decide) ?_
      refine Go.iload (pc' := 349) at_347 rfl rfl ?_
      refine Go.imul (pc' := 350) at_349 rfl (z := (7 : Int32)) (by decide) ?_
      refine Go.lshl (pc' := 351) at_350 rfl (z := (128 : Int64)) (by decide) ?_
      refine Go.lconst (pc' := 352) at_351 rfl (z := (1 : Int64)) (by decide) ?_
      refine Go.lsub (pc' := 353) at_352 rfl (z := (127 : Int64)) (by decide) ?_
      refine Go.land (pc' := 354) at_353 rfl rfl ?_
      generalize hv_want : (v &&& (127 : Int64)) = want
      refine Go.lstore (pc' := 356) at_354 rfl (Ls' := #[.val (.long v), .second, .val (.int kq), .val (.int oo), .val (.int ee), .val (.int g), .val (.int (1 : Int32)), .val (.int (1 : Int32)), .val (.int ex), .val (.ref arr), .val (.ref a40), .val (.long res), .second, .val (.long want), .second]) rfl ?_
      
      by_cases hex : 0 < ex.toInt
      · have _ := hex
        refine Go.lload (pc' := 358) at_356 rfl rfl ?_
        refine Go.lload (pc' := 360) at_358 rfl rfl ?_
        refine Go.lcmpF (pc' := 364) (X := res.toInt) (Y := want.toInt) at_360 at_361 rfl rfl rfl rfl (by rw [← hv_want]; exact congrArg _ (own_want v res (127 : Int64) (7 * 1) (by decide) hres) : res.toInt = want.toInt) ?_
        refine Go.aload (pc' := 366) at_364 rfl rfl rfl ?_
        refine Go.callV0 (pc' := 369) (W := 0) (a := a40) (argsL := []) (rest := []) (v0 := some (.int pk)) (st2 := [(.int pk)]) at_366 rfl (hw _ w32) (hw _ w33) (nf_sel (hw _ w35)) (hw _ w35) (hw _ w34) (hw _ w10) (hw _ w36) E_a40 (by decide) (c_pos hw a40 arr pk ((1 : Int32) + ((1 : Int32) + ex)) E_a40 F_a40_bytes F_a40_position F_a40_end) (by decide) (by decide) rfl rfl rfl (by decide) (by decide) rfl pd__28_29I rfl rfl (Nat.le_of_eq rfl) ?_
        refine Go.iload (pc' := 371) at_369 rfl rfl ?_
        refine Go.iload (pc' := 373) at_371 rfl rfl ?_
        refine Go.iadd (pc' := 374) at_373 rfl (z := (2 : Int32)) (by decide) ?_
        refine Go.icmpF (pc' := 377) (X := pk.toInt) (Y := (2 : Int)) at_374 rfl rfl (by decide) (by omega : pk.toInt = (2 : Int)) ?_
        refine Go.aload (pc' := 379) at_377 rfl rfl rfl ?_
        refine Go.callV0 (pc' := 382) (W := 0) (a := a40) (argsL := []) (rest := []) (v0 := some (.int (1 : Int32))) (st2 := [(.int (1 : Int32))]) at_379 rfl (hw _ w37) (hw _ w38) (nf_sel (hw _ w40)) (hw _ w40) (hw _ w39) (hw _ w10) (hw _ w41) E_a40 (by decide) (c_has hw a40 arr pk ((1 : Int32) + ((1 : Int32) + ex)) (1 : Int32) E_a40 F_a40_bytes F_a40_position F_a40_end (if_pos (by omega))) (by decide) (by decide) rfl rfl rfl (by decide) (by decide) rfl pd__28_29Z rfl rfl (Nat.le_of_eq rfl) ?_
        refine Go.iload (pc' := 384) at_382 rfl rfl ?_
        refine Go.ifF (pc' := 387) (X := ex.toInt) at_384 rfl rfl (by omega : 0 < ex.toInt) ?_
        refine Go.iconst (pc' := 388) at_387 rfl (z := (1 : Int32)) (by decide) ?_
        refine Go.goto (pc' := 392) at_388 (by decide) ?_
        refine Go.icmpF (pc' := 395) (X := (1 : Int)) (Y := (1 : Int)) at_392 rfl (by decide) (by decide) (by decide : (1 : Int) = (1 : Int)) ?_
        refine Go.iconst (pc' := 396) at_395 rfl (z := (1 : Int32)) (by decide) ?_
        refine Go.goto (pc' := 400) at_396 (by decide) ?_
        refine Go.retZ at_400 rfl (by decide) (by decide) (by decide) ?_
        exact ⟨rfl, N0⟩
      · have _ := hex
        refine Go.lload (pc' := 358) at_356 rfl rfl ?_
        refine Go.lload (pc' := 360) at_358 rfl rfl ?_
        refine Go.lcmpF (pc' := 364) (X := res.toInt) (Y := want.toInt) at_360 at_361 rfl rfl rfl rfl (by rw [← hv_want]; exact congrArg _ (own_want v res (127 : Int64) (7 * 1) (by decide) hres) : res.toInt = want.toInt) ?_
        refine Go.aload (pc' := 366) at_364 rfl rfl rfl ?_
        refine Go.callV0 (pc' := 369) (W := 0) (a := a40) (argsL := []) (rest := []) (v0 := some (.int pk)) (st2 := [(.int pk)]) at_366 rfl (hw _ w32) (hw _ w33) (nf_sel (hw _ w35)) (hw _ w35) (hw _ w34) (hw _ w10) (hw _ w36) E_a40 (by decide) (c_pos hw a40 arr pk ((1 : Int32) + ((1 : Int32) + ex)) E_a40 F_a40_bytes F_a40_position F_a40_end) (by decide) (by decide) rfl rfl rfl (by decide) (by decide) rfl pd__28_29I rfl rfl (Nat.le_of_eq rfl) ?_
        refine Go.iload (pc' := 371) at_369 rfl rfl ?_
        refine Go.iload (pc' := 373) at_371 rfl rfl ?_
        refine Go.iadd (pc' := 374) at_373 rfl (z := (2 : Int32)) (by decide) ?_
        refine Go.icmpF (pc' := 377) (X := pk.toInt) (Y := (2 : Int)) at_374 rfl rfl (by decide) (by omega : pk.toInt = (2 : Int)) ?_
        refine Go.aload (pc' := 379) at_377 rfl rfl rfl ?_
        refine Go.callV0 (pc' := 382) (W := 0) (a := a40) (argsL := []) (rest := []) (v0 := some (.int (0 : Int32))) (st2 := [(.int (0 : Int32))]) at_379 rfl (hw _ w37) (hw _ w38) (nf_sel (hw _ w40)) (hw _ w40) (hw _ w39) (hw _ w10) (hw _ w41) E_a40 (by decide) (c_has hw a40 arr pk ((1 : Int32) + ((1 : Int32) + ex)) (0 : Int32) E_a40 F_a40_bytes F_a40_position F_a40_end (if_neg (by omega))) (by decide) (by decide) rfl rfl rfl (by decide) (by decide) rfl pd__28_29Z rfl rfl (Nat.le_of_eq rfl) ?_
        refine Go.iload (pc' := 384) at_382 rfl rfl ?_
        refine Go.ifT (pc' := 391) (X := ex.toInt) at_384 (by decide) rfl (by omega : ¬ 0 < ex.toInt) ?_
        refine Go.iconst (pc' := 392) at_391 rfl (z := (0 : Int32)) (by decide) ?_
        refine Go.icmpF (pc' := 395) (X := (0 : Int)) (Y := (0 : Int)) at_392 rfl (by decide) (by decide) (by decide : (0 : Int) = (0 : Int)) ?_
        refine Go.iconst (pc' := 396) at_395 rfl (z := (1 : Int32)) (by decide) ?_
        refine Go.goto (pc' := 400) at_396 (by decide) ?_
        refine Go.retZ at_400 rfl (by decide) (by decide) (by decide) ?_
        exact ⟨rfl, N0⟩
    · subst hs43
      have kn : (2 : Int32).toInt = 2 := by decide
      obtain rfl : K = 2 := by omega
      refine Go.bipush (pc' := 331) at_329 rfl (z := (7 : Int32)) (by decide) ?_
      refine Go.iload (pc' := 333) at_331 rfl rfl ?_
      refine Go.imul (pc' := 334) at_333 rfl (z := (14 : Int32)) (by decide) ?_
      refine Go.bipush (pc' := 336) at_334 rfl (z := (64 : Int32)) (by decide) ?_
      refine Go.icmpT (pc' := 343) (X := (14 : Int)) (Y := (64 : Int)) at_336 (by decide) (by decide) (by decide) (by decide : (14 : Int) < (64 : Int)) ?_
      refine Go.lloadN (pc' := 344) at_343 rfl rfl ?_
      refine Go.lconst (pc' := 345) at_344 rfl (z := (1 : Int64)) (by decide) ?_
      refine Go.bipush (pc' := 347) at_345 rfl (z := (7 : Int32)) (by decide) ?_
      refine Go.iload (pc' := 349) at_347 rfl rfl ?_
      refine Go.imul (pc' := 350) at_349 rfl (z := (14 : Int32)) (by decide) ?_
      refine Go.lshl (pc' := 351) at_350 rfl (z := (16384 : Int64)) (by decide) ?_
      refine Go.lconst (pc' := 352) at_351 rfl (z := (1 : Int64)) (by decide) ?_
      refine Go.lsub (pc' := 353) at_352 rfl (z := (16383 : Int64)) (by decide) ?_
      refine Go.land (pc' := 354) at_353 rfl rfl ?_
      generalize hv_want : (v &&& (16383 : Int64)) = want
      refine Go.lstore (pc' := 356) at_354 rfl (Ls' := #[.val (.long v), .second, .val (.int kq), .val (.int oo), .val (.int ee), .val (.int g), .val (.int (2 : Int32)), .val (.int (1 : Int32)), .val (.int ex), .val (.ref arr), .val (.ref a40), .val (.long res), .second, .val (.long want), .second]) rfl ?_
      
      by_cases hex : 0 < ex.toInt
      · have _ := hex
        refine Go.lload (pc' := 358) at_356 rfl rfl ?_
        refine Go.lload (pc' := 360) at_358 rfl rfl ?_
        refine Go.lcmpF (pc' := 364) (X := res.toInt) (Y := want.toInt) at_360 at_361 rfl rfl rfl rfl (by rw [← hv_want]; exact congrArg _ (own_want v res (16383 : Int64) (7 * 2) (by decide) hres) : res.toInt = want.toInt) ?_
        refine Go.aload (pc' := 366) at_364 rfl rfl rfl ?_
        refine Go.callV0 (pc' := 369) (W := 0) (a := a40) (argsL := []) (rest := []) (v0 := some (.int pk)) (st2 := [(.int pk)]) at_366 rfl (hw _ w32) (hw _ w33) (nf_sel (hw _ w35)) (hw _ w35) (hw _ w34) (hw _ w10) (hw _ w36) E_a40 (by decide) (c_pos hw a40 arr pk ((1 : Int32) + ((2 : Int32) + ex)) E_a40 F_a40_bytes F_a40_position F_a40_end) (by decide) (by decide) rfl rfl rfl (by decide) (by decide) rfl pd__28_29I rfl rfl (Nat.le_of_eq rfl) ?_
        refine Go.iload (pc' := 371) at_369 rfl rfl ?_
        refine Go.iload (pc' := 373) at_371 rfl rfl ?_
        refine Go.iadd (pc' := 374) at_373 rfl (z := (3 : Int32)) (by decide) ?_
        refine Go.icmpF (pc' := 377) (X := pk.toInt) (Y := (3 : Int)) at_374 rfl rfl (by decide) (by omega : pk.toInt = (3 : Int)) ?_
        refine Go.aload (pc' := 379) at_377 rfl rfl rfl ?_
        refine Go.callV0 (pc' := 382) (W := 0) (a := a40) (argsL := []) (rest := []) (v0 := some (.int (1 : Int32))) (st2 := [(.int (1 : Int32))]) at_379 rfl (hw _ w37) (hw _ w38) (nf_sel (hw _ w40)) (hw _ w40) (hw _ w39) (hw _ w10) (hw _ w41) E_a40 (by decide) (c_has hw a40 arr pk ((1 : Int32) + ((2 : Int32) + ex)) (1 : Int32) E_a40 F_a40_bytes F_a40_position F_a40_end (if_pos (by omega))) (by decide) (by decide) rfl rfl rfl (by decide) (by decide) rfl pd__28_29Z rfl rfl (Nat.le_of_eq rfl) ?_
        refine Go.iload (pc' := 384) at_382 rfl rfl ?_
        refine Go.ifF (pc' := 387) (X := ex.toInt) at_384 rfl rfl (by omega : 0 < ex.toInt) ?_
        refine Go.iconst (pc' := 388) at_387 rfl (z := (1 : Int32)) (by decide) ?_
        refine Go.goto (pc' := 392) at_388 (by decide) ?_
        refine Go.icmpF (pc' := 395) (X := (1 : Int)) (Y := (1 : Int)) at_392 rfl (by decide) (by decide) (by decide : (1 : Int) = (1 : Int)) ?_
        refine Go.iconst (pc' := 396) at_395 rfl (z := (1 : Int32)) (by decide) ?_
        refine Go.goto (pc' := 400) at_396 (by decide) ?_
        refine Go.retZ at_400 rfl (by decide) (by decide) (by decide) ?_
        exact ⟨rfl, N0⟩
      · have _ := hex
        refine Go.lload (pc' := 358) at_356 rfl rfl ?_
        refine Go.lload (pc' := 360) at_358 rfl rfl ?_
        refine Go.lcmpF (pc' := 364) (X := res.toInt) (Y := want.toInt) at_360 at_361 rfl rfl rfl rfl (by rw [← hv_want]; exact congrArg _ (own_want v res (16383 : Int64) (7 * 2) (by decide) hres) : res.toInt = want.toInt) ?_
        refine Go.aload (pc' := 366) at_364 rfl rfl rfl ?_
        refine Go.callV0 (pc' := 369) (W := 0) (a := a40) (argsL := []) (rest := []) (v0 := some (.int pk)) (st2 := [(.int pk)]) at_366 rfl (hw _ w32) (hw _ w33) (nf_sel (hw _ w35)) (hw _ w35) (hw _ w34) (hw _ w10) (hw _ w36) E_a40 (by decide) (c_pos hw a40 arr pk ((1 : Int32) + ((2 : Int32) + ex)) E_a40 F_a40_bytes F_a40_position F_a40_end) (by decide) (by decide) rfl rfl rfl (by decide) (by decide) rfl pd__28_29I rfl rfl (Nat.le_of_eq rfl) ?_
        refine Go.iload (pc' := 371) at_369 rfl rfl ?_
        refine Go.iload (pc' := 373) at_371 rfl rfl ?_
        refine Go.iadd (pc' := 374) at_373 rfl (z := (3 : Int32)) (by decide) ?_
        refine Go.icmpF (pc' := 377) (X := pk.toInt) (Y := (3 : Int)) at_374 rfl rfl (by decide) (by omega : pk.toInt = (3 : Int)) ?_
        refine Go.aload (pc' := 379) at_377 rfl rfl rfl ?_
        refine Go.callV0 (pc' := 382) (W := 0) (a := a40) (argsL := []) (rest := []) (v0 := some (.int (0 : Int32))) (st2 := [(.int (0 : Int32))]) at_379 rfl (hw _ w37) (hw _ w38) (nf_sel (hw _ w40)) (hw _ w40) (hw _ w39) (hw _ w10) (hw _ w41) E_a40 (by decide) (c_has hw a40 arr pk ((1 : Int32) + ((2 : Int32) + ex)) (0 : Int32) E_a40 F_a40_bytes F_a40_position F_a40_end (if_neg (by omega))) (by decide) (by decide) rfl rfl rfl (by decide) (by decide) rfl pd__28_29Z rfl rfl (Nat.le_of_eq rfl) ?_
        refine Go.iload (pc' := 384) at_382 rfl rfl ?_
        refine Go.ifT (pc' := 391) (X := ex.toInt) at_384 (by decide) rfl (by omega : ¬ 0 < ex.toInt) ?_
        refine Go.iconst (pc' := 392) at_391 rfl (z := (0 : Int32)) (by decide) ?_
        refine Go.icmpF (pc' := 395) (X := (0 : Int)) (Y := (0 : Int)) at_392 rfl (by decide) (by decide) (by decide : (0 : Int) = (0 : Int)) ?_
        refine Go.iconst (pc' := 396) at_395 rfl (z := (1 : Int32)) (by decide) ?_
        refine Go.goto (pc' := 400) at_396 (by decide) ?_
        refine Go.retZ at_400 rfl (by decide) (by decide) (by decide) ?_
        exact ⟨rfl, N0⟩
    · subst hs43
      have kn : (3 : Int32).toInt = 3 := by decide
      obtain rfl : K = 3 := by omega
      refine Go.bipush (pc' := 331) at_329 rfl (z := (7 : Int32)) (by decide) ?_
      refine Go.iload (pc' := 333) at_331 rfl rfl ?_
      refine Go.imul (pc' := 334) at_333 rfl (z := (21 : Int32)) (by decide) ?_
      refine Go.bipush (pc' := 336) at_334 rfl (z := (64 : Int32)) (by decide) ?_
      refine Go.icmpT (pc' := 343) (X := (21 : Int)) (Y := (64 : Int)) at_336 (by decide) (by decide) (by decide) (by decide : (21 : Int) < (64 : Int)) ?_
      refine Go.lloadN (pc' := 344) at_343 rfl rfl ?_
      refine Go.lconst (pc' := 345) at_344 rfl (z := (1 : Int64)) (by decide) ?_
      refine Go.bipush (pc' := 347) at_345 rfl (z := (7 : Int32)) (by decide) ?_
      refine Go.iload (pc' := 349) at_347 rfl rfl ?_
      refine Go.imul (pc' := 350) at_349 rfl (z := (21 : Int32)) (by decide) ?_
      refine Go.lshl (pc' := 351) at_350 rfl (z := (2097152 : Int64)) (by decide) ?_
      refine Go.lconst (pc' := 352) at_351 rfl (z := (1 : Int64)) (by decide) ?_
      refine Go.lsub (pc' := 353) at_352 rfl (z := (2097151 : Int64)) (by decide) ?_
      refine Go.land (pc' := 354) at_353 rfl rfl ?_
      generalize hv_want : (v &&& (2097151 : Int64)) = want
      refine Go.lstore (pc' := 356) at_354 rfl (Ls' := #[.val (.long v), .second, .val (.int kq), .val (.int oo), .val (.int ee), .val (.int g), .val (.int (3 : Int32)), .val (.int (1 : Int32)), .val (.int ex), .val (.ref arr), .val (.ref a40), .val (.long res), .second, .val (.long want), .second]) rfl ?_
      
      by_cases hex : 0 < ex.toInt
      · have _ := hex
        refine Go.lload (pc' := 358) at_356 rfl rfl ?_
        refine Go.lload (pc' := 360) at_358 rfl rfl ?_
        refine Go.lcmpF (pc' := 364) (X := res.toInt) (Y := want.toInt) at_360 at_361 rfl rfl rfl rfl (by rw [← hv_want]; exact congrArg _ (own_want v res (2097151 : Int64) (7 * 3) (by decide) hres) : res.toInt = want.toInt) ?_
        refine Go.aload (pc' := 366) at_364 rfl rfl rfl ?_
        refine Go.callV0 (pc' := 369) (W := 0) (a := a40) (argsL := []) (rest := []) (v0 := some (.int pk)) (st2 := [(.int pk)]) at_366 rfl (hw _ w32) (hw _ w33) (nf_sel (hw _ w35)) (hw _ w35) (hw _ w34) (hw _ w10) (hw _ w36) E_a40 (by decide) (c_pos hw a40 arr pk ((1 : Int32) + ((3 : Int32) + ex)) E_a40 F_a40_bytes F_a40_position F_a40_end) (by decide) (by decide) rfl rfl rfl (by decide) (by decide) rfl pd__28_29I rfl rfl (Nat.le_of_eq rfl) ?_
        refine Go.iload (pc' := 371) at_369 rfl rfl ?_
        refine Go.iload (pc' := 373) at_371 rfl rfl ?_
        refine Go.iadd (pc' := 374) at_373 rfl (z := (4 : Int32)) (by decide) ?_
        refine Go.icmpF (pc' := 377) (X := pk.toInt) (Y := (4 : Int)) at_374 rfl rfl (by decide) (by omega : pk.toInt = (4 : Int)) ?_
        refine Go.aload (pc' := 379) at_377 rfl rfl rfl ?_
        refine Go.callV0 (pc' := 382) (W := 0) (a := a40) (argsL := []) (rest := []) (v0 := some (.int (1 : Int32))) (st2 := [(.int (1 : Int32))]) at_379 rfl (hw _ w37) (hw _ w38) (nf_sel (hw _ w40)) (hw _ w40) (hw _ w39) (hw _ w10) (hw _ w41) E_a40 (by decide) (c_has hw a40 arr pk ((1 : Int32) + ((3 : Int32) + ex)) (1 : Int32) E_a40 F_a40_bytes F_a40_position F_a40_end (if_pos (by omega))) (by decide) (by decide) rfl rfl rfl (by decide) (by decide) rfl pd__28_29Z rfl rfl (Nat.le_of_eq rfl) ?_
        refine Go.iload (pc' := 384) at_382 rfl rfl ?_
        refine Go.ifF (pc' := 387) (X := ex.toInt) at_384 rfl rfl (by omega : 0 < ex.toInt) ?_
        refine Go.iconst (pc' := 388) at_387 rfl (z := (1 : Int32)) (by decide) ?_
        refine Go.goto (pc' := 392) at_388 (by decide) ?_
        refine Go.icmpF (pc' := 395) (X := (1 : Int)) (Y := (1 : Int)) at_392 rfl (by decide) (by decide) (by decide : (1 : Int) = (1 : Int)) ?_
        refine Go.iconst (pc' := 396) at_395 rfl (z := (1 : Int32)) (by decide) ?_
        refine Go.goto (pc' := 400) at_396 (by decide) ?_
        refine Go.retZ at_400 rfl (by decide) (by decide) (by decide) ?_
        exact ⟨rfl, N0⟩
      · have _ := hex
        refine Go.lload (pc' := 358) at_356 rfl rfl ?_
        refine Go.lload (pc' := 360) at_358 rfl rfl ?_
        refine Go.lcmpF (pc' := 364) (X := res.toInt) (Y := want.toInt) at_360 at_361 rfl rfl rfl rfl (by rw [← hv_want]; exact congrArg _ (own_want v res (2097151 : Int64) (7 * 3) (by decide) hres) : res.toInt = want.toInt) ?_
        refine Go.aload (pc' := 366) at_364 rfl rfl rfl ?_
        refine Go.callV0 (pc' := 369) (W := 0) (a := a40) (argsL := []) (rest := []) (v0 := some (.int pk)) (st2 := [(.int pk)]) at_366 rfl (hw _ w32) (hw _ w33) (nf_sel (hw _ w35)) (hw _ w35) (hw _ w34) (hw _ w10) (hw _ w36) E_a40 (by decide) (c_pos hw a40 arr pk ((1 : Int32) + ((3 : Int32) + ex)) E_a40 F_a40_bytes F_a40_position F_a40_end) (by decide) (by decide) rfl rfl rfl (by decide) (by decide) rfl pd__28_29I rfl rfl (Nat.le_of_eq rfl) ?_
        refine Go.iload (pc' := 371) at_369 rfl rfl ?_
        refine Go.iload (pc' := 373) at_371 rfl rfl ?_
        refine Go.iadd (pc' := 374) at_373 rfl (z := (4 : Int32)) (by decide) ?_
        refine Go.icmpF (pc' := 377) (X := pk.toInt) (Y := (4 : Int)) at_374 rfl rfl (by decide) (by omega : pk.toInt = (4 : Int)) ?_
        refine Go.aload (pc' := 379) at_377 rfl rfl rfl ?_
        refine Go.callV0 (pc' := 382) (W := 0) (a := a40) (argsL := []) (rest := []) (v0 := some (.int (0 : Int32))) (st2 := [(.int (0 : Int32))]) at_379 rfl (hw _ w37) (hw _ w38) (nf_sel (hw _ w40)) (hw _ w40) (hw _ w39) (hw _ w10) (hw _ w41) E_a40 (by decide) (c_has hw a40 arr pk ((1 : Int32) + ((3 : Int32) + ex)) (0 : Int32) E_a40 F_a40_bytes F_a40_position F_a40_end (if_neg (by omega))) (by decide) (by decide) rfl rfl rfl (by decide) (by decide) rfl pd__28_29Z rfl rfl (Nat.le_of_eq rfl) ?_
        refine Go.iload (pc' := 384) at_382 rfl rfl ?_
        refine Go.ifT (pc' := 391) (X := ex.toInt) at_384 (by decide) rfl (by omega : ¬ 0 < ex.toInt) ?_
        refine Go.iconst (pc' := 392) at_391 rfl (z := (0 : Int32)) (by decide) ?_
        refine Go.icmpF (pc' := 395) (X := (0 : Int)) (Y := (0 : Int)) at_392 rfl (by decide) (by decide) (by decide : (0 : Int) = (0 : Int)) ?_
        refine Go.iconst (pc' := 396) at_395 rfl (z := (1 : Int32)) (by decide) ?_
        refine Go.goto (pc' := 400) at_396 (by decide) ?_
        refine Go.retZ at_400 rfl (by decide) (by decide) (by decide) ?_
        exact ⟨rfl, N0⟩
    · subst hs43
      have kn : (4 : Int32).toInt = 4 := by decide
      obtain rfl : K = 4 := by omega
      refine Go.bipush (pc' := 331) at_329 rfl (z := (7 : Int32)) (by decide) ?_
      refine Go.iload (pc' := 333) at_331 rfl rfl ?_
      refine Go.imul (pc' := 334) at_333 rfl (z := (28 : Int32)) (by decide) ?_
      refine Go.bipush (pc' := 336) at_334 rfl (z := (64 : Int32)) (by decide) ?_
      refine Go.icmpT (pc' := 343) (X := (28 : Int)) (Y := (64 : Int)) at_336 (by decide) (by decide) (by decide) (by decide : (28 : Int) < (64 : Int)) ?_
      refine Go.lloadN (pc' := 344) at_343 rfl rfl ?_
      refine Go.lconst (pc' := 345) at_344 rfl (z := (1 : Int64)) (by decide) ?_
      refine Go.bipush (pc' := 347) at_345 rfl (z := (7 : Int32)) (by decide) ?_
      refine Go.iload (pc' := 349) at_347 rfl rfl ?_
      refine Go.imul (pc' := 350) at_349 rfl (z := (28 : Int32)) (by decide) ?_
      refine Go.lshl (pc' := 351) at_350 rfl (z := (268435456 : Int64)) (by decide) ?_
      refine Go.lconst (pc' := 352) at_351 rfl (z := (1 : Int64)) (by decide) ?_
      refine Go.lsub (pc' := 353) at_352 rfl (z := (268435455 : Int64)) (by decide) ?_
      refine Go.land (pc' := 354) at_353 rfl rfl ?_
      generalize hv_want : (v &&& (268435455 : Int64)) = want
      refine Go.lstore (pc' := 356) at_354 rfl (Ls' := #[.val (.long v), .second, .val (.int kq), .val (.int oo), .val (.int ee), .val (.int g), .val (.int (4 : Int32)), .val (.int (1 : Int32)), .val (.int ex), .val (.ref arr), .val (.ref a40), .val (.long res), .second, .val (.long want), .second]) rfl ?_
      
      by_cases hex : 0 < ex.toInt
      · have _ := hex
        refine Go.lload (pc' := 358) at_356 rfl rfl ?_
        refine Go.lload (pc' := 360) at_358 rfl rfl ?_
        refine Go.lcmpF (pc' := 364) (X := res.toInt) (Y := want.toInt) at_360 at_361 rfl rfl rfl rfl (by rw [← hv_want]; exact congrArg _ (own_want v res (268435455 : Int64) (7 * 4) (by decide) hres) : res.toInt = want.toInt) ?_
        refine Go.aload (pc' := 366) at_364 rfl rfl rfl ?_
        refine Go.callV0 (pc' := 369) (W := 0) (a := a40) (argsL := []) (rest := []) (v0 := some (.int pk)) (st2 := [(.int pk)]) at_366 rfl (hw _ w32) (hw _ w33) (nf_sel (hw _ w35)) (hw _ w35) (hw _ w34) (hw _ w10) (hw _ w36) E_a40 (by decide) (c_pos hw a40 arr pk ((1 : Int32) + ((4 : Int32) + ex)) E_a40 F_a40_bytes F_a40_position F_a40_end) (by decide) (by decide) rfl rfl rfl (by decide) (by decide) rfl pd__28_29I rfl rfl (Nat.le_of_eq rfl) ?_
        refine Go.iload (pc' := 371) at_369 rfl rfl ?_
        refine Go.iload (pc' := 373) at_371 rfl rfl ?_
        refine Go.iadd (pc' := 374) at_373 rfl (z := (5 : Int32)) (by decide) ?_
        refine Go.icmpF (pc' := 377) (X := pk.toInt) (Y := (5 : Int)) at_374 rfl rfl (by decide) (by omega : pk.toInt = (5 : Int)) ?_
        refine Go.aload (pc' := 379) at_377 rfl rfl rfl ?_
        refine Go.callV0 (pc' := 382) (W := 0) (a := a40) (argsL := []) (rest := []) (v0 := some (.int (1 : Int32))) (st2 := [(.int (1 : Int32))]) at_379 rfl (hw _ w37) (hw _ w38) (nf_sel (hw _ w40)) (hw _ w40) (hw _ w39) (hw _ w10) (hw _ w41) E_a40 (by decide) (c_has hw a40 arr pk ((1 : Int32) + ((4 : Int32) + ex)) (1 : Int32) E_a40 F_a40_bytes F_a40_position F_a40_end (if_pos (by omega))) (by decide) (by decide) rfl rfl rfl (by decide) (by decide) rfl pd__28_29Z rfl rfl (Nat.le_of_eq rfl) ?_
        refine Go.iload (pc' := 384) at_382 rfl rfl ?_
        refine Go.ifF (pc' := 387) (X := ex.toInt) at_384 rfl rfl (by omega : 0 < ex.toInt) ?_
        refine Go.iconst (pc' := 388) at_387 rfl (z := (1 : Int32)) (by decide) ?_
        refine Go.goto (pc' := 392) at_388 (by decide) ?_
        refine Go.icmpF (pc' := 395) (X := (1 : Int)) (Y := (1 : Int)) at_392 rfl (by decide) (by decide) (by decide : (1 : Int) = (1 : Int)) ?_
        refine Go.iconst (pc' := 396) at_395 rfl (z := (1 : Int32)) (by decide) ?_
        refine Go.goto (pc' := 400) at_396 (by decide) ?_
        refine Go.retZ at_400 rfl (by decide) (by decide) (by decide) ?_
        exact ⟨rfl, N0⟩
      · have _ := hex
        refine Go.lload (pc' := 358) at_356 rfl rfl ?_
        refine Go.lload (pc' := 360) at_358 rfl rfl ?_
        refine Go.lcmpF (pc' := 364) (X := res.toInt) (Y := want.toInt) at_360 at_361 rfl rfl rfl rfl (by rw [← hv_want]; exact congrArg _ (own_want v res (268435455 : Int64) (7 * 4) (by decide) hres) : res.toInt = want.toInt) ?_
        refine Go.aload (pc' := 366) at_364 rfl rfl rfl ?_
        refine Go.callV0 (pc' := 369) (W := 0) (a := a40) (argsL := []) (rest := []) (v0 := some (.int pk)) (st2 := [(.int pk)]) at_366 rfl (hw _ w32) (hw _ w33) (nf_sel (hw _ w35)) (hw _ w35) (hw _ w34) (hw _ w10) (hw _ w36) E_a40 (by decide) (c_pos hw a40 arr pk ((1 : Int32) + ((4 : Int32) + ex)) E_a40 F_a40_bytes F_a40_position F_a40_end) (by decide) (by decide) rfl rfl rfl (by decide) (by decide) rfl pd__28_29I rfl rfl (Nat.le_of_eq rfl) ?_
        refine Go.iload (pc' := 371) at_369 rfl rfl ?_
        refine Go.iload (pc' := 373) at_371 rfl rfl ?_
        refine Go.iadd (pc' := 374) at_373 rfl (z := (5 : Int32)) (by decide) ?_
        refine Go.icmpF (pc' := 377) (X := pk.toInt) (Y := (5 : Int)) at_374 rfl rfl (by decide) (by omega : pk.toInt = (5 : Int)) ?_
        refine Go.aload (pc' := 379) at_377 rfl rfl rfl ?_
        refine Go.callV0 (pc' := 382) (W := 0) (a := a40) (argsL := []) (rest := []) (v0 := some (.int (0 : Int32))) (st2 := [(.int (0 : Int32))]) at_379 rfl (hw _ w37) (hw _ w38) (nf_sel (hw _ w40)) (hw _ w40) (hw _ w39) (hw _ w10) (hw _ w41) E_a40 (by decide) (c_has hw a40 arr pk ((1 : Int32) + ((4 : Int32) + ex)) (0 : Int32) E_a40 F_a40_bytes F_a40_position F_a40_end (if_neg (by omega))) (by decide) (by decide) rfl rfl rfl (by decide) (by decide) rfl pd__28_29Z rfl rfl (Nat.le_of_eq rfl) ?_
        refine Go.iload (pc' := 384) at_382 rfl rfl ?_
        refine Go.ifT (pc' := 391) (X := ex.toInt) at_384 (by decide) rfl (by omega : ¬ 0 < ex.toInt) ?_
        refine Go.iconst (pc' := 392) at_391 rfl (z := (0 : Int32)) (by decide) ?_
        refine Go.icmpF (pc' := 395) (X := (0 : Int)) (Y := (0 : Int)) at_392 rfl (by decide) (by decide) (by decide : (0 : Int) = (0 : Int)) ?_
        refine Go.iconst (pc' := 396) at_395 rfl (z := (1 : Int32)) (by decide) ?_
        refine Go.goto (pc' := 400) at_396 (by decide) ?_
        refine Go.retZ at_400 rfl (by decide) (by decide) (by decide) ?_
        exact ⟨rfl, N0⟩
    · subst hs43
      have kn : (5 : Int32).toInt = 5 := by decide
      obtain rfl : K = 5 := by omega
      refine Go.bipush (pc' := 331) at_329 rfl (z := (7 : Int32)) (by decide) ?_
      refine Go.iload (pc' := 333) at_331 rfl rfl ?_
      refine Go.imul (pc' := 334) at_333 rfl (z := (35 : Int32)) (by decide) ?_
      refine Go.bipush (pc' := 336) at_334 rfl (z := (64 : Int32)) (by decide) ?_
      refine Go.icmpT (pc' := 343) (X := (35 : Int)) (Y := (64 : Int)) at_336 (by decide) (by decide) (by decide) (by decide : (35 : Int) < (64 : Int)) ?_
      refine Go.lloadN (pc' := 344) at_343 rfl rfl ?_
      refine Go.lconst (pc' := 345) at_344 rfl (z := (1 : Int64)) (by decide) ?_
      refine Go.bipush (pc' := 347) at_345 rfl (z := (7 : Int32)) (by decide) ?_
      refine Go.iload (pc' := 349) at_347 rfl rfl ?_
      refine Go.imul (pc' := 350) at_349 rfl (z := (35 : Int32)) (by decide) ?_
      refine Go.lshl (pc' := 351) at_350 rfl (z := (34359738368 : Int64)) (by decide) ?_
      refine Go.lconst (pc' := 352) at_351 rfl (z := (1 : Int64)) (by decide) ?_
      refine Go.lsub (pc' := 353) at_352 rfl (z := (34359738367 : Int64)) (by decide) ?_
      refine Go.land (pc' := 354) at_353 rfl rfl ?_
      generalize hv_want : (v &&& (34359738367 : Int64)) = want
      refine Go.lstore (pc' := 356) at_354 rfl (Ls' := #[.val (.long v), .second, .val (.int kq), .val (.int oo), .val (.int ee), .val (.int g), .val (.int (5 : Int32)), .val (.int (1 : Int32)), .val (.int ex), .val (.ref arr), .val (.ref a40), .val (.long res), .second, .val (.long want), .second]) rfl ?_
      
      by_cases hex : 0 < ex.toInt
      · have _ := hex
        refine Go.lload (pc' := 358) at_356 rfl rfl ?_
        refine Go.lload (pc' := 360) at_358 rfl rfl ?_
        refine Go.lcmpF (pc' := 364) (X := res.toInt) (Y := want.toInt) at_360 at_361 rfl rfl rfl rfl (by rw [← hv_want]; exact congrArg _ (own_want v res (34359738367 : Int64) (7 * 5) (by decide) hres) : res.toInt = want.toInt) ?_
        refine Go.aload (pc' := 366) at_364 rfl rfl rfl ?_
        refine Go.callV0 (pc' := 369) (W := 0) (a := a40) (argsL := []) (rest := []) (v0 := some (.int pk)) (st2 := [(.int pk)]) at_366 rfl (hw _ w32) (hw _ w33) (nf_sel (hw _ w35)) (hw _ w35) (hw _ w34) (hw _ w10) (hw _ w36) E_a40 (by decide) (c_pos hw a40 arr pk ((1 : Int32) + ((5 : Int32) + ex)) E_a40 F_a40_bytes F_a40_position F_a40_end) (by decide) (by decide) rfl rfl rfl (by decide) (by decide) rfl pd__28_29I rfl rfl (Nat.le_of_eq rfl) ?_
        refine Go.iload (pc' := 371) at_369 rfl rfl ?_
        refine Go.iload (pc' := 373) at_371 rfl rfl ?_
        refine Go.iadd (pc' := 374) at_373 rfl (z := (6 : Int32)) (by decide) ?_
        refine Go.icmpF (pc' := 377) (X := pk.toInt) (Y := (6 : Int)) at_374 rfl rfl (by decide) (by omega : pk.toInt = (6 : Int)) ?_
        refine Go.aload (pc' := 379) at_377 rfl rfl rfl ?_
        refine Go.callV0 (pc' := 382) (W := 0) (a := a40) (argsL := []) (rest := []) (v0 := some (.int (1 : Int32))) (st2 := [(.int (1 : Int32))]) at_379 rfl (hw _ w37) (hw _ w38) (nf_sel (hw _ w40)) (hw _ w40) (hw _ w39) (hw _ w10) (hw _ w41) E_a40 (by decide) (c_has hw a40 arr pk ((1 : Int32) + ((5 : Int32) + ex)) (1 : Int32) E_a40 F_a40_bytes F_a40_position F_a40_end (if_pos (by omega))) (by decide) (by decide) rfl rfl rfl (by decide) (by decide) rfl pd__28_29Z rfl rfl (Nat.le_of_eq rfl) ?_
        refine Go.iload (pc' := 384) at_382 rfl rfl ?_
        refine Go.ifF (pc' := 387) (X := ex.toInt) at_384 rfl rfl (by omega : 0 < ex.toInt) ?_
        refine Go.iconst (pc' := 388) at_387 rfl (z := (1 : Int32)) (by decide) ?_
        refine Go.goto (pc' := 392) at_388 (by decide) ?_
        refine Go.icmpF (pc' := 395) (X := (1 : Int)) (Y := (1 : Int)) at_392 rfl (by decide) (by decide) (by decide : (1 : Int) = (1 : Int)) ?_
        refine Go.iconst (pc' := 396) at_395 rfl (z := (1 : Int32)) (by decide) ?_
        refine Go.goto (pc' := 400) at_396 (by decide) ?_
        refine Go.retZ at_400 rfl (by decide) (by decide) (by decide) ?_
        exact ⟨rfl, N0⟩
      · have _ := hex
        refine Go.lload (pc' := 358) at_356 rfl rfl ?_
        refine Go.lload (pc' := 360) at_358 rfl rfl ?_
        refine Go.lcmpF (pc' := 364) (X := res.toInt) (Y := want.toInt) at_360 at_361 rfl rfl rfl rfl (by rw [← hv_want]; exact congrArg _ (own_want v res (34359738367 : Int64) (7 * 5) (by decide) hres) : res.toInt = want.toInt) ?_
        refine Go.aload (pc' := 366) at_364 rfl rfl rfl ?_
        refine Go.callV0 (pc' := 369) (W := 0) (a := a40) (argsL := []) (rest := []) (v0 := some (.int pk)) (st2 := [(.int pk)]) at_366 rfl (hw _ w32) (hw _ w33) (nf_sel (hw _ w35)) (hw _ w35) (hw _ w34) (hw _ w10) (hw _ w36) E_a40 (by decide) (c_pos hw a40 arr pk ((1 : Int32) + ((5 : Int32) + ex)) E_a40 F_a40_bytes F_a40_position F_a40_end) (by decide) (by decide) rfl rfl rfl (by decide) (by decide) rfl pd__28_29I rfl rfl (Nat.le_of_eq rfl) ?_
        refine Go.iload (pc' := 371) at_369 rfl rfl ?_
        refine Go.iload (pc' := 373) at_371 rfl rfl ?_
        refine Go.iadd (pc' := 374) at_373 rfl (z := (6 : Int32)) (by decide) ?_
        refine Go.icmpF (pc' := 377) (X := pk.toInt) (Y := (6 : Int)) at_374 rfl rfl (by decide) (by omega : pk.toInt = (6 : Int)) ?_
        refine Go.aload (pc' := 379) at_377 rfl rfl rfl ?_
        refine Go.callV0 (pc' := 382) (W := 0) (a := a40) (argsL := []) (rest := []) (v0 := some (.int (0 : Int32))) (st2 := [(.int (0 : Int32))]) at_379 rfl (hw _ w37) (hw _ w38) (nf_sel (hw _ w40)) (hw _ w40) (hw _ w39) (hw _ w10) (hw _ w41) E_a40 (by decide) (c_has hw a40 arr pk ((1 : Int32) + ((5 : Int32) + ex)) (0 : Int32) E_a40 F_a40_bytes F_a40_position F_a40_end (if_neg (by omega))) (by decide) (by decide) rfl rfl rfl (by decide) (by decide) rfl pd__28_29Z rfl rfl (Nat.le_of_eq rfl) ?_
        refine Go.iload (pc' := 384) at_382 rfl rfl ?_
        refine Go.ifT (pc' := 391) (X := ex.toInt) at_384 (by decide) rfl (by omega : ¬ 0 < ex.toInt) ?_
        refine Go.iconst (pc' := 392) at_391 rfl (z := (0 : Int32)) (by decide) ?_
        refine Go.icmpF (pc' := 395) (X := (0 : Int)) (Y := (0 : Int)) at_392 rfl (by decide) (by decide) (by decide : (0 : Int) = (0 : Int)) ?_
        refine Go.iconst (pc' := 396) at_395 rfl (z := (1 : Int32)) (by decide) ?_
        refine Go.goto (pc' := 400) at_396 (by decide) ?_
        refine Go.retZ at_400 rfl (by decide) (by decide) (by decide) ?_
        exact ⟨rfl, N0⟩
    · subst hs43
      have kn : (6 : Int32).toInt = 6 := by decide
      obtain rfl : K = 6 := by omega
      refine Go.bipush (pc' := 331) at_329 rfl (z := (7 : Int32)) (by decide) ?_
      refine Go.iload (pc' := 333) at_331 rfl rfl ?_
      refine Go.imul (pc' := 334) at_333 rfl (z := (42 : Int32)) (by decide) ?_
      refine Go.bipush (pc' := 336) at_334 rfl (z := (64 : Int32)) (by decide) ?_
      refine Go.icmpT (pc' := 343) (X := (42 : Int)) (Y := (64 : Int)) at_336 (by decide) (by decide) (by decide) (by decide : (42 : Int) < (64 : Int)) ?_
      refine Go.lloadN (pc' := 344) at_343 rfl rfl ?_
      refine Go.lconst (pc' := 345) at_344 rfl (z := (1 : Int64)) (by decide) ?_
      refine Go.bipush (pc' := 347) at_345 rfl (z := (7 : Int32)) (by decide) ?_
      refine Go.iload (pc' := 349) at_347 rfl rfl ?_
      refine Go.imul (pc' := 350) at_349 rfl (z := (42 : Int32)) (by decide) ?_
      refine Go.lshl (pc' := 351) at_350 rfl (z := (4398046511104 : Int64)) (by decide) ?_
      refine Go.lconst (pc' := 352) at_351 rfl (z := (1 : Int64)) (by decide) ?_
      refine Go.lsub (pc' := 353) at_352 rfl (z := (4398046511103 : Int64)) (by decide) ?_
      refine Go.land (pc' := 354) at_353 rfl rfl ?_
      generalize hv_want : (v &&& (4398046511103 : Int64)) = want
      refine Go.lstore (pc' := 356) at_354 rfl (Ls' := #[.val (.long v), .second, .val (.int kq), .val (.int oo), .val (.int ee), .val (.int g), .val (.int (6 : Int32)), .val (.int (1 : Int32)), .val (.int ex), .val (.ref arr), .val (.ref a40), .val (.long res), .second, .val (.long want), .second]) rfl ?_
      
      by_cases hex : 0 < ex.toInt
      · have _ := hex
        refine Go.lload (pc' := 358) at_356 rfl rfl ?_
        refine Go.lload (pc' := 360) at_358 rfl rfl ?_
        refine Go.lcmpF (pc' := 364) (X := res.toInt) (Y := want.toInt) at_360 at_361 rfl rfl rfl rfl (by rw [← hv_want]; exact congrArg _ (own_want v res (4398046511103 : Int64) (7 * 6) (by decide) hres) : res.toInt = want.toInt) ?_
        refine Go.aload (pc' := 366) at_364 rfl rfl rfl ?_
        refine Go.callV0 (pc' := 369) (W := 0) (a := a40) (argsL := []) (rest := []) (v0 := some (.int pk)) (st2 := [(.int pk)]) at_366 rfl (hw _ w32) (hw _ w33) (nf_sel (hw _ w35)) (hw _ w35) (hw _ w34) (hw _ w10) (hw _ w36) E_a40 (by decide) (c_pos hw a40 arr pk ((1 : Int32) + ((6 : Int32) + ex)) E_a40 F_a40_bytes F_a40_position F_a40_end) (by decide) (by decide) rfl rfl rfl (by decide) (by decide) rfl pd__28_29I rfl rfl (Nat.le_of_eq rfl) ?_
        refine Go.iload (pc' := 371) at_369 rfl rfl ?_
        refine Go.iload (pc' := 373) at_371 rfl rfl ?_
        refine Go.iadd (pc' := 374) at_373 rfl (z := (7 : Int32)) (by decide) ?_
        refine Go.icmpF (pc' := 377) (X := pk.toInt) (Y := (7 : Int)) at_374 rfl rfl (by decide) (by omega : pk.toInt = (7 : Int)) ?_
        refine Go.aload (pc' := 379) at_377 rfl rfl rfl ?_
        refine Go.callV0 (pc' := 382) (W := 0) (a := a40) (argsL := []) (rest := []) (v0 := some (.int (1 : Int32))) (st2 := [(.int (1 : Int32))]) at_379 rfl (hw _ w37) (hw _ w38) (nf_sel (hw _ w40)) (hw _ w40) (hw _ w39) (hw _ w10) (hw _ w41) E_a40 (by decide) (c_has hw a40 arr pk ((1 : Int32) + ((6 : Int32) + ex)) (1 : Int32) E_a40 F_a40_bytes F_a40_position F_a40_end (if_pos (by omega))) (by decide) (by decide) rfl rfl rfl (by decide) (by decide) rfl pd__28_29Z rfl rfl (Nat.le_of_eq rfl) ?_
        refine Go.iload (pc' := 384) at_382 rfl rfl ?_
        refine Go.ifF (pc' := 387) (X := ex.toInt) at_384 rfl rfl (by omega : 0 < ex.toInt) ?_
        refine Go.iconst (pc' := 388) at_387 rfl (z := (1 : Int32)) (by decide) ?_
        refine Go.goto (pc' := 392) at_388 (by decide) ?_
        refine Go.icmpF (pc' := 395) (X := (1 : Int)) (Y := (1 : Int)) at_392 rfl (by decide) (by decide) (by decide : (1 : Int) = (1 : Int)) ?_
        refine Go.iconst (pc' := 396) at_395 rfl (z := (1 : Int32)) (by decide) ?_
        refine Go.goto (pc' := 400) at_396 (by decide) ?_
        refine Go.retZ at_400 rfl (by decide) (by decide) (by decide) ?_
        exact ⟨rfl, N0⟩
      · have _ := hex
        refine Go.lload (pc' := 358) at_356 rfl rfl ?_
        refine Go.lload (pc' := 360) at_358 rfl rfl ?_
        refine Go.lcmpF (pc' := 364) (X := res.toInt) (Y := want.toInt) at_360 at_361 rfl rfl rfl rfl (by rw [← hv_want]; exact congrArg _ (own_want v res (4398046511103 : Int64) (7 * 6) (by decide) hres) : res.toInt = want.toInt) ?_
        refine Go.aload (pc' := 366) at_364 rfl rfl rfl ?_
        refine Go.callV0 (pc' := 369) (W := 0) (a := a40) (argsL := []) (rest := []) (v0 := some (.int pk)) (st2 := [(.int pk)]) at_366 rfl (hw _ w32) (hw _ w33) (nf_sel (hw _ w35)) (hw _ w35) (hw _ w34) (hw _ w10) (hw _ w36) E_a40 (by decide) (c_pos hw a40 arr pk ((1 : Int32) + ((6 : Int32) + ex)) E_a40 F_a40_bytes F_a40_position F_a40_end) (by decide) (by decide) rfl rfl rfl (by decide) (by decide) rfl pd__28_29I rfl rfl (Nat.le_of_eq rfl) ?_
        refine Go.iload (pc' := 371) at_369 rfl rfl ?_
        refine Go.iload (pc' := 373) at_371 rfl rfl ?_
        refine Go.iadd (pc' := 374) at_373 rfl (z := (7 : Int32)) (by decide) ?_
        refine Go.icmpF (pc' := 377) (X := pk.toInt) (Y := (7 : Int)) at_374 rfl rfl (by decide) (by omega : pk.toInt = (7 : Int)) ?_
        refine Go.aload (pc' := 379) at_377 rfl rfl rfl ?_
        refine Go.callV0 (pc' := 382) (W := 0) (a := a40) (argsL := []) (rest := []) (v0 := some (.int (0 : Int32))) (st2 := [(.int (0 : Int32))]) at_379 rfl (hw _ w37) (hw _ w38) (nf_sel (hw _ w40)) (hw _ w40) (hw _ w39) (hw _ w10) (hw _ w41) E_a40 (by decide) (c_has hw a40 arr pk ((1 : Int32) + ((6 : Int32) + ex)) (0 : Int32) E_a40 F_a40_bytes F_a40_position F_a40_end (if_neg (by omega))) (by decide) (by decide) rfl rfl rfl (by decide) (by decide) rfl pd__28_29Z rfl rfl (Nat.le_of_eq rfl) ?_
        refine Go.iload (pc' := 384) at_382 rfl rfl ?_
        refine Go.ifT (pc' := 391) (X := ex.toInt) at_384 (by decide) rfl (by omega : ¬ 0 < ex.toInt) ?_
        refine Go.iconst (pc' := 392) at_391 rfl (z := (0 : Int32)) (by decide) ?_
        refine Go.icmpF (pc' := 395) (X := (0 : Int)) (Y := (0 : Int)) at_392 rfl (by decide) (by decide) (by decide : (0 : Int) = (0 : Int)) ?_
        refine Go.iconst (pc' := 396) at_395 rfl (z := (1 : Int32)) (by decide) ?_
        refine Go.goto (pc' := 400) at_396 (by decide) ?_
        refine Go.retZ at_400 rfl (by decide) (by decide) (by decide) ?_
        exact ⟨rfl, N0⟩
    · subst hs43
      have kn : (7 : Int32).toInt = 7 := by decide
      obtain rfl : K = 7 := by omega
      refine Go.bipush (pc' := 331) at_329 rfl (z := (7 : Int32)) (by decide) ?_
      refine Go.iload (pc' := 333) at_331 rfl rfl ?_
      refine Go.imul (pc' := 334) at_333 rfl (z := (49 : Int32)) (by decide) ?_
      refine Go.bipush (pc' := 336) at_334 rfl (z := (64 : Int32)) (by decide) ?_
      refine Go.icmpT (pc' := 343) (X := (49 : Int)) (Y := (64 : Int)) at_336 (by decide) (by decide) (by decide) (by decide : (49 : Int) < (64 : Int)) ?_
      refine Go.lloadN (pc' := 344) at_343 rfl rfl ?_
      refine Go.lconst (pc' := 345) at_344 rfl (z := (1 : Int64)) (by decide) ?_
      refine Go.bipush (pc' := 347) at_345 rfl (z := (7 : Int32)) (by decide) ?_
      refine Go.iload (pc' := 349) at_347 rfl rfl ?_
      refine Go.imul (pc' := 350) at_349 rfl (z := (49 : Int32)) (by decide) ?_
      refine Go.lshl (pc' := 351) at_350 rfl (z := (562949953421312 : Int64)) (by decide) ?_
      refine Go.lconst (pc' := 352) at_351 rfl (z := (1 : Int64)) (by decide) ?_
      refine Go.lsub (pc' := 353) at_352 rfl (z := (562949953421311 : Int64)) (by decide) ?_
      refine Go.land (pc' := 354) at_353 rfl rfl ?_
      generalize hv_want : (v &&& (562949953421311 : Int64)) = want
      refine Go.lstore (pc' := 356) at_354 rfl (Ls' := #[.val (.long v), .second, .val (.int kq), .val (.int oo), .val (.int ee), .val (.int g), .val (.int (7 : Int32)), .val (.int (1 : Int32)), .val (.int ex), .val (.ref arr), .val (.ref a40), .val (.long res), .second, .val (.long want), .second]) rfl ?_
      
      by_cases hex : 0 < ex.toInt
      · have _ := hex
        refine Go.lload (pc' := 358) at_356 rfl rfl ?_
        refine Go.lload (pc' := 360) at_358 rfl rfl ?_
        refine Go.lcmpF (pc' := 364) (X := res.toInt) (Y := want.toInt) at_360 at_361 rfl rfl rfl rfl (by rw [← hv_want]; exact congrArg _ (own_want v res (562949953421311 : Int64) (7 * 7) (by decide) hres) : res.toInt = want.toInt) ?_
        refine Go.aload (pc' := 366) at_364 rfl rfl rfl ?_
        refine Go.callV0 (pc' := 369) (W := 0) (a := a40) (argsL := []) (rest := []) (v0 := some (.int pk)) (st2 := [(.int pk)]) at_366 rfl (hw _ w32) (hw _ w33) (nf_sel (hw _ w35)) (hw _ w35) (hw _ w34) (hw _ w10) (hw _ w36) E_a40 (by decide) (c_pos hw a40 arr pk ((1 : Int32) + ((7 : Int32) + ex)) E_a40 F_a40_bytes F_a40_position F_a40_end) (by decide) (by decide) rfl rfl rfl (by decide) (by decide) rfl pd__28_29I rfl rfl (Nat.le_of_eq rfl) ?_
        refine Go.iload (pc' := 371) at_369 rfl rfl ?_
        refine Go.iload (pc' := 373) at_371 rfl rfl ?_
        refine Go.iadd (pc' := 374) at_373 rfl (z := (8 : Int32)) (by decide) ?_
        refine Go.icmpF (pc' := 377) (X := pk.toInt) (Y := (8 : Int)) at_374 rfl rfl (by decide) (by omega : pk.toInt = (8 : Int)) ?_
        refine Go.aload (pc' := 379) at_377 rfl rfl rfl ?_
        refine Go.callV0 (pc' := 382) (W := 0) (a := a40) (argsL := []) (rest := []) (v0 := some (.int (1 : Int32))) (st2 := [(.int (1 : Int32))]) at_379 rfl (hw _ w37) (hw _ w38) (nf_sel (hw _ w40)) (hw _ w40) (hw _ w39) (hw _ w10) (hw _ w41) E_a40 (by decide) (c_has hw a40 arr pk ((1 : Int32) + ((7 : Int32) + ex)) (1 : Int32) E_a40 F_a40_bytes F_a40_position F_a40_end (if_pos (by omega))) (by decide) (by decide) rfl rfl rfl (by decide) (by decide) rfl pd__28_29Z rfl rfl (Nat.le_of_eq rfl) ?_
        refine Go.iload (pc' := 384) at_382 rfl rfl ?_
        refine Go.ifF (pc' := 387) (X := ex.toInt) at_384 rfl rfl (by omega : 0 < ex.toInt) ?_
        refine Go.iconst (pc' := 388) at_387 rfl (z := (1 : Int32)) (by decide) ?_
        refine Go.goto (pc' := 392) at_388 (by decide) ?_
        refine Go.icmpF (pc' := 395) (X := (1 : Int)) (Y := (1 : Int)) at_392 rfl (by decide) (by decide) (by decide : (1 : Int) = (1 : Int)) ?_
        refine Go.iconst (pc' := 396) at_395 rfl (z := (1 : Int32)) (by decide) ?_
        refine Go.goto (pc' := 400) at_396 (by decide) ?_
        refine Go.retZ at_400 rfl (by decide) (by decide) (by decide) ?_
        exact ⟨rfl, N0⟩
      · have _ := hex
        refine Go.lload (pc' := 358) at_356 rfl rfl ?_
        refine Go.lload (pc' := 360) at_358 rfl rfl ?_
        refine Go.lcmpF (pc' := 364) (X := res.toInt) (Y := want.toInt) at_360 at_361 rfl rfl rfl rfl (by rw [← hv_want]; exact congrArg _ (own_want v res (562949953421311 : Int64) (7 * 7) (by decide) hres) : res.toInt = want.toInt) ?_
        refine Go.aload (pc' := 366) at_364 rfl rfl rfl ?_
        refine Go.callV0 (pc' := 369) (W := 0) (a := a40) (argsL := []) (rest := []) (v0 := some (.int pk)) (st2 := [(.int pk)]) at_366 rfl (hw _ w32) (hw _ w33) (nf_sel (hw _ w35)) (hw _ w35) (hw _ w34) (hw _ w10) (hw _ w36) E_a40 (by decide) (c_pos hw a40 arr pk ((1 : Int32) + ((7 : Int32) + ex)) E_a40 F_a40_bytes F_a40_position F_a40_end) (by decide) (by decide) rfl rfl rfl (by decide) (by decide) rfl pd__28_29I rfl rfl (Nat.le_of_eq rfl) ?_
        refine Go.iload (pc' := 371) at_369 rfl rfl ?_
        refine Go.iload (pc' := 373) at_371 rfl rfl ?_
        refine Go.iadd (pc' := 374) at_373 rfl (z := (8 : Int32)) (by decide) ?_
        refine Go.icmpF (pc' := 377) (X := pk.toInt) (Y := (8 : Int)) at_374 rfl rfl (by decide) (by omega : pk.toInt = (8 : Int)) ?_
        refine Go.aload (pc' := 379) at_377 rfl rfl rfl ?_
        refine Go.callV0 (pc' := 382) (W := 0) (a := a40) (argsL := []) (rest := []) (v0 := some (.int (0 : Int32))) (st2 := [(.int (0 : Int32))]) at_379 rfl (hw _ w37) (hw _ w38) (nf_sel (hw _ w40)) (hw _ w40) (hw _ w39) (hw _ w10) (hw _ w41) E_a40 (by decide) (c_has hw a40 arr pk ((1 : Int32) + ((7 : Int32) + ex)) (0 : Int32) E_a40 F_a40_bytes F_a40_position F_a40_end (if_neg (by omega))) (by decide) (by decide) rfl rfl rfl (by decide) (by decide) rfl pd__28_29Z rfl rfl (Nat.le_of_eq rfl) ?_
        refine Go.iload (pc' := 384) at_382 rfl rfl ?_
        refine Go.ifT (pc' := 391) (X := ex.toInt) at_384 (by decide) rfl (by omega : ¬ 0 < ex.toInt) ?_
        refine Go.iconst (pc' := 392) at_391 rfl (z := (0 : Int32)) (by decide) ?_
        refine Go.icmpF (pc' := 395) (X := (0 : Int)) (Y := (0 : Int)) at_392 rfl (by decide) (by decide) (by decide : (0 : Int) = (0 : Int)) ?_
        refine Go.iconst (pc' := 396) at_395 rfl (z := (1 : Int32)) (by decide) ?_
        refine Go.goto (pc' := 400) at_396 (by decide) ?_
        refine Go.retZ at_400 rfl (by decide) (by decide) (by decide) ?_
        exact ⟨rfl, N0⟩
    · subst hs43
      have kn : (8 : Int32).toInt = 8 := by decide
      obtain rfl : K = 8 := by omega
      refine Go.bipush (pc' := 331) at_329 rfl (z := (7 : Int32)) (by decide) ?_
      refine Go.iload (pc' := 333) at_331 rfl rfl ?_
      refine Go.imul (pc' := 334) at_333 rfl (z := (56 : Int32)) (by decide) ?_
      refine Go.bipush (pc' := 336) at_334 rfl (z := (64 : Int32)) (by decide) ?_
      refine Go.icmpT (pc' := 343) (X := (56 : Int)) (Y := (64 : Int)) at_336 (by decide) (by decide) (by decide) (by decide : (56 : Int) < (64 : Int)) ?_
      refine Go.lloadN (pc' := 344) at_343 rfl rfl ?_
      refine Go.lconst (pc' := 345) at_344 rfl (z := (1 : Int64)) (by decide) ?_
      refine Go.bipush (pc' := 347) at_345 rfl (z := (7 : Int32)) (by decide) ?_
      refine Go.iload (pc' := 349) at_347 rfl rfl ?_
      refine Go.imul (pc' := 350) at_349 rfl (z := (56 : Int32)) (by decide) ?_
      refine Go.lshl (pc' := 351) at_350 rfl (z := (72057594037927936 : Int64)) (by decide) ?_
      refine Go.lconst (pc' := 352) at_351 rfl (z := (1 : Int64)) (by decide) ?_
      refine Go.lsub (pc' := 353) at_352 rfl (z := (72057594037927935 : Int64)) (by decide) ?_
      refine Go.land (pc' := 354) at_353 rfl rfl ?_
      generalize hv_want : (v &&& (72057594037927935 : Int64)) = want
      refine Go.lstore (pc' := 356) at_354 rfl (Ls' := #[.val (.long v), .second, .val (.int kq), .val (.int oo), .val (.int ee), .val (.int g), .val (.int (8 : Int32)), .val (.int (1 : Int32)), .val (.int ex), .val (.ref arr), .val (.ref a40), .val (.long res), .second, .val (.long want), .second]) rfl ?_
      
      by_cases hex : 0 < ex.toInt
      · have _ := hex
        refine Go.lload (pc' := 358) at_356 rfl rfl ?_
        refine Go.lload (pc' := 360) at_358 rfl rfl ?_
        refine Go.lcmpF (pc' := 364) (X := res.toInt) (Y := want.toInt) at_360 at_361 rfl rfl rfl rfl (by rw [← hv_want]; exact congrArg _ (own_want v res (72057594037927935 : Int64) (7 * 8) (by decide) hres) : res.toInt = want.toInt) ?_
        refine Go.aload (pc' := 366) at_364 rfl rfl rfl ?_
        refine Go.callV0 (pc' := 369) (W := 0) (a := a40) (argsL := []) (rest := []) (v0 := some (.int pk)) (st2 := [(.int pk)]) at_366 rfl (hw _ w32) (hw _ w33) (nf_sel (hw _ w35)) (hw _ w35) (hw _ w34) (hw _ w10) (hw _ w36) E_a40 (by decide) (c_pos hw a40 arr pk ((1 : Int32) + ((8 : Int32) + ex)) E_a40 F_a40_bytes F_a40_position F_a40_end) (by decide) (by decide) rfl rfl rfl (by decide) (by decide) rfl pd__28_29I rfl rfl (Nat.le_of_eq rfl) ?_
        refine Go.iload (pc' := 371) at_369 rfl rfl ?_
        refine Go.iload (pc' := 373) at_371 rfl rfl ?_
        refine Go.iadd (pc' := 374) at_373 rfl (z := (9 : Int32)) (by decide) ?_
        refine Go.icmpF (pc' := 377) (X := pk.toInt) (Y := (9 : Int)) at_374 rfl rfl (by decide) (by omega : pk.toInt = (9 : Int)) ?_
        refine Go.aload (pc' := 379) at_377 rfl rfl rfl ?_
        refine Go.callV0 (pc' := 382) (W := 0) (a := a40) (argsL := []) (rest := []) (v0 := some (.int (1 : Int32))) (st2 := [(.int (1 : Int32))]) at_379 rfl (hw _ w37) (hw _ w38) (nf_sel (hw _ w40)) (hw _ w40) (hw _ w39) (hw _ w10) (hw _ w41) E_a40 (by decide) (c_has hw a40 arr pk ((1 : Int32) + ((8 : Int32) + ex)) (1 : Int32) E_a40 F_a40_bytes F_a40_position F_a40_end (if_pos (by omega))) (by decide) (by decide) rfl rfl rfl (by decide) (by decide) rfl pd__28_29Z rfl rfl (Nat.le_of_eq rfl) ?_
        refine Go.iload (pc' := 384) at_382 rfl rfl ?_
        refine Go.ifF (pc' := 387) (X := ex.toInt) at_384 rfl rfl (by omega : 0 < ex.toInt) ?_
        refine Go.iconst (pc' := 388) at_387 rfl (z := (1 : Int32)) (by decide) ?_
        refine Go.goto (pc' := 392) at_388 (by decide) ?_
        refine Go.icmpF (pc' := 395) (X := (1 : Int)) (Y := (1 : Int)) at_392 rfl (by decide) (by decide) (by decide : (1 : Int) = (1 : Int)) ?_
        refine Go.iconst (pc' := 396) at_395 rfl (z := (1 : Int32)) (by decide) ?_
        refine Go.goto (pc' := 400) at_396 (by decide) ?_
        refine Go.retZ at_400 rfl (by decide) (by decide) (by decide) ?_
        exact ⟨rfl, N0⟩
      · have _ := hex
        refine Go.lload (pc' := 358) at_356 rfl rfl ?_
        refine Go.lload (pc' := 360) at_358 rfl rfl ?_
        refine Go.lcmpF (pc' := 364) (X := res.toInt) (Y := want.toInt) at_360 at_361 rfl rfl rfl rfl (by rw [← hv_want]; exact congrArg _ (own_want v res (72057594037927935 : Int64) (7 * 8) (by decide) hres) : res.toInt = want.toInt) ?_
        refine Go.aload (pc' := 366) at_364 rfl rfl rfl ?_
        refine Go.callV0 (pc' := 369) (W := 0) (a := a40) (argsL := []) (rest := []) (v0 := some (.int pk)) (st2 := [(.int pk)]) at_366 rfl (hw _ w32) (hw _ w33) (nf_sel (hw _ w35)) (hw _ w35) (hw _ w34) (hw _ w10) (hw _ w36) E_a40 (by decide) (c_pos hw a40 arr pk ((1 : Int32) + ((8 : Int32) + ex)) E_a40 F_a40_bytes F_a40_position F_a40_end) (by decide) (by decide) rfl rfl rfl (by decide) (by decide) rfl pd__28_29I rfl rfl (Nat.le_of_eq rfl) ?_
        refine Go.iload (pc' := 371) at_369 rfl rfl ?_
        refine Go.iload (pc' := 373) at_371 rfl rfl ?_
        refine Go.iadd (pc' := 374) at_373 rfl (z := (9 : Int32)) (by decide) ?_
        refine Go.icmpF (pc' := 377) (X := pk.toInt) (Y := (9 : Int)) at_374 rfl rfl (by decide) (by omega : pk.toInt = (9 : Int)) ?_
        refine Go.aload (pc' := 379) at_377 rfl rfl rfl ?_
        refine Go.callV0 (pc' := 382) (W := 0) (a := a40) (argsL := []) (rest := []) (v0 := some (.int (0 : Int32))) (st2 := [(.int (0 : Int32))]) at_379 rfl (hw _ w37) (hw _ w38) (nf_sel (hw _ w40)) (hw _ w40) (hw _ w39) (hw _ w10) (hw _ w41) E_a40 (by decide) (c_has hw a40 arr pk ((1 : Int32) + ((8 : Int32) + ex)) (0 : Int32) E_a40 F_a40_bytes F_a40_position F_a40_end (if_neg (by omega))) (by decide) (by decide) rfl rfl rfl (by decide) (by decide) rfl pd__28_29Z rfl rfl (Nat.le_of_eq rfl) ?_
        refine Go.iload (pc' := 384) at_382 rfl rfl ?_
        refine Go.ifT (pc' := 391) (X := ex.toInt) at_384 (by decide) rfl (by omega : ¬ 0 < ex.toInt) ?_
        refine Go.iconst (pc' := 392) at_391 rfl (z := (0 : Int32)) (by decide) ?_
        refine Go.icmpF (pc' := 395) (X := (0 : Int)) (Y := (0 : Int)) at_392 rfl (by decide) (by decide) (by decide : (0 : Int) = (0 : Int)) ?_
        refine Go.iconst (pc' := 396) at_395 rfl (z := (1 : Int32)) (by decide) ?_
        refine Go.goto (pc' := 400) at_396 (by decide) ?_
        refine Go.retZ at_400 rfl (by decide) (by decide) (by decide) ?_
        exact ⟨rfl, N0⟩
    · subst hs43
      have kn : (9 : Int32).toInt = 9 := by decide
      obtain rfl : K = 9 := by omega
      refine Go.bipush (pc' := 331) at_329 rfl (z := (7 : Int32)) (by decide) ?_
      refine Go.iload (pc' := 333) at_331 rfl rfl ?_
      refine Go.imul (pc' := 334) at_333 rfl (z := (63 : Int32)) (by decide) ?_
      refine Go.bipush (pc' := 336) at_334 rfl (z := (64 : Int32)) (by decide) ?_
      refine Go.icmpT (pc' := 343) (X := (63 : Int)) (Y := (64 : Int)) at_336 (by decide) (by decide) (by decide) (by decide : (63 : Int) < (64 : Int)) ?_
      refine Go.lloadN (pc' := 344) at_343 rfl rfl ?_
      refine Go.lconst (pc' := 345) at_344 rfl (z := (1 : Int64)) (by decide) ?_
      refine Go.bipush (pc' := 347) at_345 rfl (z := (7 : Int32)) (by decide) ?_
      refine Go.iload (pc' := 349) at_347 rfl rfl ?_
      refine Go.imul (pc' := 350) at_349 rfl (z := (63 : Int32)) (by decide) ?_
      refine Go.lshl (pc' := 351) at_350 rfl (z := (-9223372036854775808 : Int64)) (by decide) ?_
      refine Go.lconst (pc' := 352) at_351 rfl (z := (1 : Int64)) (by decide) ?_
      refine Go.lsub (pc' := 353) at_352 rfl (z := (9223372036854775807 : Int64)) (by decide) ?_
      refine Go.land (pc' := 354) at_353 rfl rfl ?_
      generalize hv_want : (v &&& (9223372036854775807 : Int64)) = want
      refine Go.lstore (pc' := 356) at_354 rfl (Ls' := #[.val (.long v), .second, .val (.int kq), .val (.int oo), .val (.int ee), .val (.int g), .val (.int (9 : Int32)), .val (.int (1 : Int32)), .val (.int ex), .val (.ref arr), .val (.ref a40), .val (.long res), .second, .val (.long want), .second]) rfl ?_
      
      by_cases hex : 0 < ex.toInt
      · have _ := hex
        refine Go.lload (pc' := 358) at_356 rfl rfl ?_
        refine Go.lload (pc' := 360) at_358 rfl rfl ?_
        refine Go.lcmpF (pc' := 364) (X := res.toInt) (Y := want.toInt) at_360 at_361 rfl rfl rfl rfl (by rw [← hv_want]; exact congrArg _ (own_want v res (9223372036854775807 : Int64) (7 * 9) (by decide) hres) : res.toInt = want.toInt) ?_
        refine Go.aload (pc' := 366) at_364 rfl rfl rfl ?_
        refine Go.callV0 (pc' := 369) (W := 0) (a := a40) (argsL := []) (rest := []) (v0 := some (.int pk)) (st2 := [(.int pk)]) at_366 rfl (hw _ w32) (hw _ w33) (nf_sel (hw _ w35)) (hw _ w35) (hw _ w34) (hw _ w10) (hw _ w36) E_a40 (by decide) (c_pos hw a40 arr pk ((1 : Int32) + ((9 : Int32) + ex)) E_a40 F_a40_bytes F_a40_position F_a40_end) (by decide) (by decide) rfl rfl rfl (by decide) (by decide) rfl pd__28_29I rfl rfl (Nat.le_of_eq rfl) ?_
        refine Go.iload (pc' := 371) at_369 rfl rfl ?_
        refine Go.iload (pc' := 373) at_371 rfl rfl ?_
        refine Go.iadd (pc' := 374) at_373 rfl (z := (10 : Int32)) (by decide) ?_
        refine Go.icmpF (pc' := 377) (X := pk.toInt) (Y := (10 : Int)) at_374 rfl rfl (by decide) (by omega : pk.toInt = (10 : Int)) ?_
        refine Go.aload (pc' := 379) at_377 rfl rfl rfl ?_
        refine Go.callV0 (pc' := 382) (W := 0) (a := a40) (argsL := []) (rest := []) (v0 := some (.int (1 : Int32))) (st2 := [(.int (1 : Int32))]) at_379 rfl (hw _ w37) (hw _ w38) (nf_sel (hw _ w40)) (hw _ w40) (hw _ w39) (hw _ w10) (hw _ w41) E_a40 (by decide) (c_has hw a40 arr pk ((1 : Int32) + ((9 : Int32) + ex)) (1 : Int32) E_a40 F_a40_bytes F_a40_position F_a40_end (if_pos (by omega))) (by decide) (by decide) rfl rfl rfl (by decide) (by decide) rfl pd__28_29Z rfl rfl (Nat.le_of_eq rfl) ?_
        refine Go.iload (pc' := 384) at_382 rfl rfl ?_
        refine Go.ifF (pc' := 387) (X := ex.toInt) at_384 rfl rfl (by omega : 0 < ex.toInt) ?_
        refine Go.iconst (pc' := 388) at_387 rfl (z := (1 : Int32)) (by decide) ?_
        refine Go.goto (pc' := 392) at_388 (by decide) ?_
        refine Go.icmpF (pc' := 395) (X := (1 : Int)) (Y := (1 : Int)) at_392 rfl (by decide) (by decide) (by decide : (1 : Int) = (1 : Int)) ?_
        refine Go.iconst (pc' := 396) at_395 rfl (z := (1 : Int32)) (by decide) ?_
        refine Go.goto (pc' := 400) at_396 (by decide) ?_
        refine Go.retZ at_400 rfl (by decide) (by decide) (by decide) ?_
        exact ⟨rfl, N0⟩
      · have _ := hex
        refine Go.lload (pc' := 358) at_356 rfl rfl ?_
        refine Go.lload (pc' := 360) at_358 rfl rfl ?_
        refine Go.lcmpF (pc' := 364) (X := res.toInt) (Y := want.toInt) at_360 at_361 rfl rfl rfl rfl (by rw [← hv_want]; exact congrArg _ (own_want v res (9223372036854775807 : Int64) (7 * 9) (by decide) hres) : res.toInt = want.toInt) ?_
        refine Go.aload (pc' := 366) at_364 rfl rfl rfl ?_
        refine Go.callV0 (pc' := 369) (W := 0) (a := a40) (argsL := []) (rest := []) (v0 := some (.int pk)) (st2 := [(.int pk)]) at_366 rfl (hw _ w32) (hw _ w33) (nf_sel (hw _ w35)) (hw _ w35) (hw _ w34) (hw _ w10) (hw _ w36) E_a40 (by decide) (c_pos hw a40 arr pk ((1 : Int32) + ((9 : Int32) + ex)) E_a40 F_a40_bytes F_a40_position F_a40_end) (by decide) (by decide) rfl rfl rfl (by decide) (by decide) rfl pd__28_29I rfl rfl (Nat.le_of_eq rfl) ?_
        refine Go.iload (pc' := 371) at_369 rfl rfl ?_
        refine Go.iload (pc' := 373) at_371 rfl rfl ?_
        refine Go.iadd (pc' := 374) at_373 rfl (z := (10 : Int32)) (by decide) ?_
        refine Go.icmpF (pc' := 377) (X := pk.toInt) (Y := (10 : Int)) at_374 rfl rfl (by decide) (by omega : pk.toInt = (10 : Int)) ?_
        refine Go.aload (pc' := 379) at_377 rfl rfl rfl ?_
        refine Go.callV0 (pc' := 382) (W := 0) (a := a40) (argsL := []) (rest := []) (v0 := some (.int (0 : Int32))) (st2 := [(.int (0 : Int32))]) at_379 rfl (hw _ w37) (hw _ w38) (nf_sel (hw _ w40)) (hw _ w40) (hw _ w39) (hw _ w10) (hw _ w41) E_a40 (by decide) (c_has hw a40 arr pk ((1 : Int32) + ((9 : Int32) + ex)) (0 : Int32) E_a40 F_a40_bytes F_a40_position F_a40_end (if_neg (by omega))) (by decide) (by decide) rfl rfl rfl (by decide) (by decide) rfl pd__28_29Z rfl rfl (Nat.le_of_eq rfl) ?_
        refine Go.iload (pc' := 384) at_382 rfl rfl ?_
        refine Go.ifT (pc' := 391) (X := ex.toInt) at_384 (by decide) rfl (by omega : ¬ 0 < ex.toInt) ?_
        refine Go.iconst (pc' := 392) at_391 rfl (z := (0 : Int32)) (by decide) ?_
        refine Go.icmpF (pc' := 395) (X := (0 : Int)) (Y := (0 : Int)) at_392 rfl (by decide) (by decide) (by decide : (0 : Int) = (0 : Int)) ?_
        refine Go.iconst (pc' := 396) at_395 rfl (z := (1 : Int32)) (by decide) ?_
        refine Go.goto (pc' := 400) at_396 (by decide) ?_
        refine Go.retZ at_400 rfl (by decide) (by decide) (by decide) ?_
        exact ⟨rfl, N0⟩
    · subst hs43
      have kn : (10 : Int32).toInt = 10 := by decide
      obtain rfl : K = 10 := by omega
      refine Go.bipush (pc' := 331) at_329 rfl (z := (7 : Int32)) (by decide) ?_
      refine Go.iload (pc' := 333) at_331 rfl rfl ?_
      refine Go.imul (pc' := 334) at_333 rfl (z := (70 : Int32)) (by decide) ?_
      refine Go.bipush (pc' := 336) at_334 rfl (z := (64 : Int32)) (by decide) ?_
      refine Go.icmpF (pc' := 339) (X := (70 : Int)) (Y := (64 : Int)) at_336 rfl (by decide) (by decide) (by decide : ¬ (70 : Int) < (64 : Int)) ?_
      refine Go.lloadN (pc' := 340) at_339 rfl rfl ?_
      refine Go.goto (pc' := 354) at_340 (by decide) ?_
      refine Go.lstore (pc' := 356) at_354 rfl (Ls' := #[.val (.long v), .second, .val (.int kq), .val (.int oo), .val (.int ee), .val (.int g), .val (.int (10 : Int32)), .val (.int (1 : Int32)), .val (.int ex), .val (.ref arr), .val (.ref a40), .val (.long res), .second, .val (.long v), .second]) rfl ?_
      
      by_cases hex : 0 < ex.toInt
      · have _ := hex
        refine Go.lload (pc' := 358) at_356 rfl rfl ?_
        refine Go.lload (pc' := 360) at_358 rfl rfl ?_
        refine Go.lcmpF (pc' := 364) (X := res.toInt) (Y := v.toInt) at_360 at_361 rfl rfl rfl rfl (congrArg _ (own_full v res hres) : res.toInt = v.toInt) ?_
        refine Go.aload (pc' := 366) at_364 rfl rfl rfl ?_
        refine Go.callV0 (pc' := 369) (W := 0) (a := a40) (argsL := []) (rest := []) (v0 := some (.int pk)) (st2 := [(.int pk)]) at_366 rfl (hw _ w32) (hw _ w33) (nf_sel (hw _ w35)) (hw _ w35) (hw _ w34) (hw _ w10) (hw _ w36) E_a40 (by decide) (c_pos hw a40 arr pk ((1 : Int32) + ((10 : Int32) + ex)) E_a40 F_a40_bytes F_a40_position F_a40_end) (by decide) (by decide) rfl rfl rfl (by decide) (by decide) rfl pd__28_29I rfl rfl (Nat.le_of_eq rfl) ?_
        refine Go.iload (pc' := 371) at_369 rfl rfl ?_
        refine Go.iload (pc' := 373) at_371 rfl rfl ?_
        refine Go.iadd (pc' := 374) at_373 rfl (z := (11 : Int32)) (by decide) ?_
        refine Go.icmpF (pc' := 377) (X := pk.toInt) (Y := (11 : Int)) at_374 rfl rfl (by decide) (by omega : pk.toInt = (11 : Int)) ?_
        refine Go.aload (pc' := 379) at_377 rfl rfl rfl ?_
        refine Go.callV0 (pc' := 382) (W := 0) (a := a40) (argsL := []) (rest := []) (v0 := some (.int (1 : Int32))) (st2 := [(.int (1 : Int32))]) at_379 rfl (hw _ w37) (hw _ w38) (nf_sel (hw _ w40)) (hw _ w40) (hw _ w39) (hw _ w10) (hw _ w41) E_a40 (by decide) (c_has hw a40 arr pk ((1 : Int32) + ((10 : Int32) + ex)) (1 : Int32) E_a40 F_a40_bytes F_a40_position F_a40_end (if_pos (by omega))) (by decide) (by decide) rfl rfl rfl (by decide) (by decide) rfl pd__28_29Z rfl rfl (Nat.le_of_eq rfl) ?_
        refine Go.iload (pc' := 384) at_382 rfl rfl ?_
        refine Go.ifF (pc' := 387) (X := ex.toInt) at_384 rfl rfl (by omega : 0 < ex.toInt) ?_
        refine Go.iconst (pc' := 388) at_387 rfl (z := (1 : Int32)) (by decide) ?_
        refine Go.goto (pc' := 392) at_388 (by decide) ?_
        refine Go.icmpF (pc' := 395) (X := (1 : Int)) (Y := (1 : Int)) at_392 rfl (by decide) (by decide) (by decide : (1 : Int) = (1 : Int)) ?_
        refine Go.iconst (pc' := 396) at_395 rfl (z := (1 : Int32)) (by decide) ?_
        refine Go.goto (pc' := 400) at_396 (by decide) ?_
        refine Go.retZ at_400 rfl (by decide) (by decide) (by decide) ?_
        exact ⟨rfl, N0⟩
      · have _ := hex
        refine Go.lload (pc' := 358) at_356 rfl rfl ?_
        refine Go.lload (pc' := 360) at_358 rfl rfl ?_
        refine Go.lcmpF (pc' := 364) (X := res.toInt) (Y := v.toInt) at_360 at_361 rfl rfl rfl rfl (congrArg _ (own_full v res hres) : res.toInt = v.toInt) ?_
        refine Go.aload (pc' := 366) at_364 rfl rfl rfl ?_
        refine Go.callV0 (pc' := 369) (W := 0) (a := a40) (argsL := []) (rest := []) (v0 := some (.int pk)) (st2 := [(.int pk)]) at_366 rfl (hw _ w32) (hw _ w33) (nf_sel (hw _ w35)) (hw _ w35) (hw _ w34) (hw _ w10) (hw _ w36) E_a40 (by decide) (c_pos hw a40 arr pk ((1 : Int32) + ((10 : Int32) + ex)) E_a40 F_a40_bytes F_a40_position F_a40_end) (by decide) (by decide) rfl rfl rfl (by decide) (by decide) rfl pd__28_29I rfl rfl (Nat.le_of_eq rfl) ?_
        refine Go.iload (pc' := 371) at_369 rfl rfl ?_
        refine Go.iload (pc' := 373) at_371 rfl rfl ?_
        refine Go.iadd (pc' := 374) at_373 rfl (z := (11 : Int32)) (by decide) ?_
        refine Go.icmpF (pc' := 377) (X := pk.toInt) (Y := (11 : Int)) at_374 rfl rfl (by decide) (by omega : pk.toInt = (11 : Int)) ?_
        refine Go.aload (pc' := 379) at_377 rfl rfl rfl ?_
        refine Go.callV0 (pc' := 382) (W := 0) (a := a40) (argsL := []) (rest := []) (v0 := some (.int (0 : Int32))) (st2 := [(.int (0 : Int32))]) at_379 rfl (hw _ w37) (hw _ w38) (nf_sel (hw _ w40)) (hw _ w40) (hw _ w39) (hw _ w10) (hw _ w41) E_a40 (by decide) (c_has hw a40 arr pk ((1 : Int32) + ((10 : Int32) + ex)) (0 : Int32) E_a40 F_a40_bytes F_a40_position F_a40_end (if_neg (by omega))) (by decide) (by decide) rfl rfl rfl (by decide) (by decide) rfl pd__28_29Z rfl rfl (Nat.le_of_eq rfl) ?_
        refine Go.iload (pc' := 384) at_382 rfl rfl ?_
        refine Go.ifT (pc' := 391) (X := ex.toInt) at_384 (by decide) rfl (by omega : ¬ 0 < ex.toInt) ?_
        refine Go.iconst (pc' := 392) at_391 rfl (z := (0 : Int32)) (by decide) ?_
        refine Go.icmpF (pc' := 395) (X := (0 : Int)) (Y := (0 : Int)) at_392 rfl (by decide) (by decide) (by decide : (0 : Int) = (0 : Int)) ?_
        refine Go.iconst (pc' := 396) at_395 rfl (z := (1 : Int32)) (by decide) ?_
        refine Go.goto (pc' := 400) at_396 (by decide) ?_
        refine Go.retZ at_400 rfl (by decide) (by decide) (by decide) ?_
        exact ⟨rfl, N0⟩
  · subst hs1
    refine Go.iload (pc' := 18) at_16 rfl rfl ?_
    refine Go.iconst (pc' := 19) at_18 rfl (z := (3 : Int32)) (by decide) ?_
    refine Go.iand (pc' := 20) at_19 rfl rfl ?_
    generalize hv_ex : (ee &&& (3 : Int32)) = ex
    refine Go.istore (pc' := 22) at_20 rfl (Ls' := #[.val (.long v), .second, .val (.int kq), .val (.int oo), .val (.int ee), .val (.int g), .val (.int kk), .val (.int (2 : Int32)), .val (.int ex), .unset, .unset, .unset, .unset, .unset, .unset]) rfl ?_
    have hex3 := own_ex ee ex hv_ex
    refine Go.bipush (pc' := 24) at_22 rfl (z := (16 : Int32)) (by decide) ?_
    refine Go.new_byte (pc' := 26) (k' := 1) (n' := 16) (N := 16) (vs := [(.int (0 : Int32)), (.int (0 : Int32)), (.int (0 : Int32)), (.int (0 : Int32)), (.int (0 : Int32)), (.int (0 : Int32)), (.int (0 : Int32)), (.int (0 : Int32)), (.int (0 : Int32)), (.int (0 : Int32)), (.int (0 : Int32)), (.int (0 : Int32)), (.int (0 : Int32)), (.int (0 : Int32)), (.int (0 : Int32)), (.int (0 : Int32))]) at_24 rfl (hw _ w1) (by decide) rfl 16 (Nat.le_refl _) (by decide) (by decide) (by decide) rfl rfl ?_
    intro h44 arr ha_arr X44 A_arr
    have gn_arr : n0 ≤ arr := by rw [ha_arr]; exact sz0
    replace sz0 : n0 ≤ h44.size := Nat.le_trans sz0 X44.1
    refine Go.astore (pc' := 28) at_26 rfl rfl (Ls' := #[.val (.long v), .second, .val (.int kq), .val (.int oo), .val (.int ee), .val (.int g), .val (.int kk), .val (.int (2 : Int32)), .val (.int ex), .val (.ref arr), .unset, .unset, .unset, .unset, .unset]) rfl ?_
    refine Go.aload (pc' := 30) at_28 rfl rfl rfl ?_
    refine Go.iconst (pc' := 31) at_30 rfl (z := (0 : Int32)) (by decide) ?_
    refine Go.iconst (pc' := 32) at_31 rfl (z := (0 : Int32)) (by decide) ?_
    refine Go.iload (pc' := 34) at_32 rfl rfl ?_
    refine Go.isub (pc' := 35) at_34 rfl (z := (-2 : Int32)) (by decide) ?_
    refine Go.lloadN (pc' := 36) at_35 rfl rfl ?_
    refine Go.iload (pc' := 38) at_36 rfl rfl ?_
    refine Go.iload (pc' := 40) at_38 rfl rfl ?_
    refine Go.callS0 (pc' := 43) (W := 2) (argsL := [(.int (-2 : Int32)), (.long v), (.int kk), (.int g)]) (rest := [(.int (0 : Int32)), (.ref arr)]) (v0 := some (.int (f_c_at (-2 : Int32) v kk g))) (st2 := [(.int (f_c_at (-2 : Int32) v kk g)), (.int (0 : Int32)), (.ref arr)]) at_40 rfl (hw _ w2) (hw _ w3) (hw _ w4) (hw _ w5) (by decide) (c_at hw (-2 : Int32) v kk g rfl) (by decide) (by decide) rfl rfl rfl (by decide) (by decide) rfl pd__28IJII_29B rfl rfl (Nat.le_of_eq rfl) ?_
    refine Go.bastoreB (pc' := 44) (i := 0) (v := (.int (f_c_at (-2 : Int32) v kk g))) (vs' := [(.int (f_c_at (-2 : Int32) v kk g)), (.int (0 : Int32)), (.int (0 : Int32)), (.int (0 : Int32)), (.int (0 : Int32)), (.int (0 : Int32)), (.int (0 : Int32)), (.int (0 : Int32)), (.int (0 : Int32)), (.int (0 : Int32)), (.int (0 : Int32)), (.int (0 : Int32)), (.int (0 : Int32)), (.int (0 : Int32)), (.int (0 : Int32)), (.int (0 : Int32))]) at_43 rfl A_arr (by decide) (Nat.le_of_ble_eq_true rfl) (congrArg Value.int (own_nar _ _ _ _)) rfl ?_
    intro h45 L45 NL45 W45 B45
    replace N0 := NL45 _ N0 gn_arr
    replace sz0 : n0 ≤ h45.size := by rw [W45.size]; exact sz0
    clear A_arr; have A_arr := B45
    refine Go.aload (pc' := 46) at_44 rfl rfl rfl ?_
    refine Go.iconst (pc' := 47) at_46 rfl (z := (1 : Int32)) (by decide) ?_
    refine Go.iconst (pc' := 48) at_47 rfl (z := (1 : Int32)) (by decide) ?_
    refine Go.iload (pc' := 50) at_48 rfl rfl ?_
    refine Go.isub (pc' := 51) at_50 rfl (z := (-1 : Int32)) (by decide) ?_
    refine Go.lloadN (pc' := 52) at_51 rfl rfl ?_
    refine Go.iload (pc' := 54) at_52 rfl rfl ?_
    refine Go.iload (pc' := 56) at_54 rfl rfl ?_
    refine Go.callS0 (pc' := 59) (W := 2) (argsL := [(.int (-1 : Int32)), (.long v), (.int kk), (.int g)]) (rest := [(.int (1 : Int32)), (.ref arr)]) (v0 := some (.int (f_c_at (-1 : Int32) v kk g))) (st2 := [(.int (f_c_at (-1 : Int32) v kk g)), (.int (1 : Int32)), (.ref arr)]) at_56 rfl (hw _ w2) (hw _ w3) (hw _ w4) (hw _ w5) (by decide) (c_at hw (-1 : Int32) v kk g rfl) (by decide) (by decide) rfl rfl rfl (by decide) (by decide) rfl pd__28IJII_29B rfl rfl (Nat.le_of_eq rfl) ?_
    refine Go.bastoreB (pc' := 60) (i := 1) (v := (.int (f_c_at (-1 : Int32) v kk g))) (vs' := [(.int (f_c_at (-2 : Int32) v kk g)), (.int (f_c_at (-1 : Int32) v kk g)), (.int (0 : Int32)), (.int (0 : Int32)), (.int (0 : Int32)), (.int (0 : Int32)), (.int (0 : Int32)), (.int (0 : Int32)), (.int (0 : Int32)), (.int (0 : Int32)), (.int (0 : Int32)), (.int (0 : Int32)), (.int (0 : Int32)), (.int (0 : Int32)), (.int (0 : Int32)), (.int (0 : Int32))]) at_59 rfl A_arr (by decide) (Nat.le_of_ble_eq_true rfl) (congrArg Value.int (own_nar _ _ _ _)) rfl ?_
    intro h46 L46 NL46 W46 B46
    replace N0 := NL46 _ N0 gn_arr
    replace sz0 : n0 ≤ h46.size := by rw [W46.size]; exact sz0
    clear A_arr; have A_arr := B46
    refine Go.aload (pc' := 62) at_60 rfl rfl rfl ?_
    refine Go.iconst (pc' := 63) at_62 rfl (z := (2 : Int32)) (by decide) ?_
    refine Go.iconst (pc' := 64) at_63 rfl (z := (2 : Int32)) (by decide) ?_
    refine Go.iload (pc' := 66) at_64 rfl rfl ?_
    refine Go.isub (pc' := 67) at_66 rfl (z := (0 : Int32)) (by decide) ?_
    refine Go.lloadN (pc' := 68) at_67 rfl rfl ?_
    refine Go.iload (pc' := 70) at_68 rfl rfl ?_
    refine Go.iload (pc' := 72) at_70 rfl rfl ?_
    refine Go.callS0 (pc' := 75) (W := 2) (argsL := [(.int (0 : Int32)), (.long v), (.int kk), (.int g)]) (rest := [(.int (2 : Int32)), (.ref arr)]) (v0 := some (.int (f_c_at (0 : Int32) v kk g))) (st2 := [(.int (f_c_at (0 : Int32) v kk g)), (.int (2 : Int32)), (.ref arr)]) at_72 rfl (hw _ w2) (hw _ w3) (hw _ w4) (hw _ w5) (by decide) (c_at hw (0 : Int32) v kk g rfl) (by decide) (by decide) rfl rfl rfl (by decide) (by decide) rfl pd__28IJII_29B rfl rfl (Nat.le_of_eq rfl) ?_
    refine Go.bastoreB (pc' := 76) (i := 2) (v := (.int (f_c_at (0 : Int32) v kk g))) (vs' := [(.int (f_c_at (-2 : Int32) v kk g)), (.int (f_c_at (-1 : Int32) v kk g)), (.int (f_c_at (0 : Int32) v kk g)), (.int (0 : Int32)), (.int (0 : Int32)), (.int (0 : Int32)), (.int (0 : Int32)), (.int (0 : Int32)), (.int (0 : Int32)), (.int (0 : Int32)), (.int (0 : Int32)), (.int (0 : Int32)), (.int (0 : Int32)), (.int (0 : Int32)), (.int (0 : Int32)), (.int (0 : Int32))]) at_75 rfl A_arr (by decide) (Nat.le_of_ble_eq_true rfl) (congrArg Value.int (own_nar _ _ _ _)) rfl ?_
    intro h47 L47 NL47 W47 B47
    replace N0 := NL47 _ N0 gn_arr
    replace sz0 : n0 ≤ h47.size := by rw [W47.size]; exact sz0
    clear A_arr; have A_arr := B47
    refine Go.aload (pc' := 78) at_76 rfl rfl rfl ?_
    refine Go.iconst (pc' := 79) at_78 rfl (z := (3 : Int32)) (by decide) ?_
    refine Go.iconst (pc' := 80) at_79 rfl (z := (3 : Int32)) (by decide) ?_
    refine Go.iload (pc' := 82) at_80 rfl rfl ?_
    refine Go.isub (pc' := 83) at_82 rfl (z := (1 : Int32)) (by decide) ?_
    refine Go.lloadN (pc' := 84) at_83 rfl rfl ?_
    refine Go.iload (pc' := 86) at_84 rfl rfl ?_
    refine Go.iload (pc' := 88) at_86 rfl rfl ?_
    refine Go.callS0 (pc' := 91) (W := 2) (argsL := [(.int (1 : Int32)), (.long v), (.int kk), (.int g)]) (rest := [(.int (3 : Int32)), (.ref arr)]) (v0 := some (.int (f_c_at (1 : Int32) v kk g))) (st2 := [(.int (f_c_at (1 : Int32) v kk g)), (.int (3 : Int32)), (.ref arr)]) at_88 rfl (hw _ w2) (hw _ w3) (hw _ w4) (hw _ w5) (by decide) (c_at hw (1 : Int32) v kk g rfl) (by decide) (by decide) rfl rfl rfl (by decide) (by decide) rfl pd__28IJII_29B rfl rfl (Nat.le_of_eq rfl) ?_
    refine Go.bastoreB (pc' := 92) (i := 3) (v := (.int (f_c_at (1 : Int32) v kk g))) (vs' := [(.int (f_c_at (-2 : Int32) v kk g)), (.int (f_c_at (-1 : Int32) v kk g)), (.int (f_c_at (0 : Int32) v kk g)), (.int (f_c_at (1 : Int32) v kk g)), (.int (0 : Int32)), (.int (0 : Int32)), (.int (0 : Int32)), (.int (0 : Int32)), (.int (0 : Int32)), (.int (0 : Int32)), (.int (0 : Int32)), (.int (0 : Int32)), (.int (0 : Int32)), (.int (0 : Int32)), (.int (0 : Int32)), (.int (0 : Int32))]) at_91 rfl A_arr (by decide) (Nat.le_of_ble_eq_true rfl) (congrArg Value.int (own_nar _ _ _ _)) rfl ?_
    intro h48 L48 NL48 W48 B48
    replace N0 := NL48 _ N0 gn_arr
    replace sz0 : n0 ≤ h48.size := by rw [W48.size]; exact sz0
    clear A_arr; have A_arr := B48
    refine Go.aload (pc' := 94) at_92 rfl rfl rfl ?_
    refine Go.iconst (pc' := 95) at_94 rfl (z := (4 : Int32)) (by decide) ?_
    refine Go.iconst (pc' := 96) at_95 rfl (z := (4 : Int32)) (by decide) ?_
    refine Go.iload (pc' := 98) at_96 rfl rfl ?_
    refine Go.isub (pc' := 99) at_98 rfl (z := (2 : Int32)) (by decide) ?_
    refine Go.lloadN (pc' := 100) at_99 rfl rfl ?_
    refine Go.iload (pc' := 102) at_100 rfl rfl ?_
    refine Go.iload (pc' := 104) at_102 rfl rfl ?_
    refine Go.callS0 (pc' := 107) (W := 2) (argsL := [(.int (2 : Int32)), (.long v), (.int kk), (.int g)]) (rest := [(.int (4 : Int32)), (.ref arr)]) (v0 := some (.int (f_c_at (2 : Int32) v kk g))) (st2 := [(.int (f_c_at (2 : Int32) v kk g)), (.int (4 : Int32)), (.ref arr)]) at_104 rfl (hw _ w2) (hw _ w3) (hw _ w4) (hw _ w5) (by decide) (c_at hw (2 : Int32) v kk g rfl) (by decide) (by decide) rfl rfl rfl (by decide) (by decide) rfl pd__28IJII_29B rfl rfl (Nat.le_of_eq rfl) ?_
    refine Go.bastoreB (pc' := 108) (i := 4) (v := (.int (f_c_at (2 : Int32) v kk g))) (vs' := [(.int (f_c_at (-2 : Int32) v kk g)), (.int (f_c_at (-1 : Int32) v kk g)), (.int (f_c_at (0 : Int32) v kk g)), (.int (f_c_at (1 : Int32) v kk g)), (.int (f_c_at (2 : Int32) v kk g)), (.int (0 : Int32)), (.int (0 : Int32)), (.int (0 : Int32)), (.int (0 : Int32)), (.int (0 : Int32)), (.int (0 : Int32)), (.int (0 : Int32)), (.int (0 : Int32)), (.int (0 : Int32)), (.int (0 : Int32)), (.int (0 : Int32))]) at_107 rfl A_arr (by decide) (Nat.le_of_ble_eq_true rfl) (congrArg Value.int (own_nar _ _ _ _)) rfl ?_
    intro h49 L49 NL49 W49 B49
    replace N0 := NL49 _ N0 gn_arr
    replace sz0 : n0 ≤ h49.size := by rw [W49.size]; exact sz0
    clear A_arr; have A_arr := B49
    refine Go.aload (pc' := 110) at_108 rfl rfl rfl ?_
    refine Go.iconst (pc' := 111) at_110 rfl (z := (5 : Int32)) (by decide) ?_
    refine Go.iconst (pc' := 112) at_111 rfl (z := (5 : Int32)) (by decide) ?_
    refine Go.iload (pc' := 114) at_112 rfl rfl ?_
    refine Go.isub (pc' := 115) at_114 rfl (z := (3 : Int32)) (by decide) ?_
    refine Go.lloadN (pc' := 116) at_115 rfl rfl ?_
    refine Go.iload (pc' := 118) at_116 rfl rfl ?_
    refine Go.iload (pc' := 120) at_118 rfl rfl ?_
    refine Go.callS0 (pc' := 123) (W := 2) (argsL := [(.int (3 : Int32)), (.long v), (.int kk), (.int g)]) (rest := [(.int (5 : Int32)), (.ref arr)]) (v0 := some (.int (f_c_at (3 : Int32) v kk g))) (st2 := [(.int (f_c_at (3 : Int32) v kk g)), (.int (5 : Int32)), (.ref arr)]) at_120 rfl (hw _ w2) (hw _ w3) (hw _ w4) (hw _ w5) (by decide) (c_at hw (3 : Int32) v kk g rfl) (by decide) (by decide) rfl rfl rfl (by decide) (by decide) rfl pd__28IJII_29B rfl rfl (Nat.le_of_eq rfl) ?_
    refine Go.bastoreB (pc' := 124) (i := 5) (v := (.int (f_c_at (3 : Int32) v kk g))) (vs' := [(.int (f_c_at (-2 : Int32) v kk g)), (.int (f_c_at (-1 : Int32) v kk g)), (.int (f_c_at (0 : Int32) v kk g)), (.int (f_c_at (1 : Int32) v kk g)), (.int (f_c_at (2 : Int32) v kk g)), (.int (f_c_at (3 : Int32) v kk g)), (.int (0 : Int32)), (.int (0 : Int32)), (.int (0 : Int32)), (.int (0 : Int32)), (.int (0 : Int32)), (.int (0 : Int32)), (.int (0 : Int32)), (.int (0 : Int32)), (.int (0 : Int32)), (.int (0 : Int32))]) at_123 rfl A_arr (by decide) (Nat.le_of_ble_eq_true rfl) (congrArg Value.int (own_nar _ _ _ _)) rfl ?_
    intro h50 L50 NL50 W50 B50
    replace N0 := NL50 _ N0 gn_arr
    replace sz0 : n0 ≤ h50.size := by rw [W50.size]; exact sz0
    clear A_arr; have A_arr := B50
    refine Go.aload (pc' := 126) at_124 rfl rfl rfl ?_
    refine Go.bipush (pc' := 128) at_126 rfl (z := (6 : Int32)) (by decide) ?_
    refine Go.bipush (pc' := 130) at_128 rfl (z := (6 : Int32)) (by decide) ?_
    refine Go.iload (pc' := 132) at_130 rfl rfl ?_
    refine Go.isub (pc' := 133) at_132 rfl (z := (4 : Int32)) (by decide) ?_
    refine Go.lloadN (pc' := 134) at_133 rfl rfl ?_
    refine Go.iload (pc' := 136) at_134 rfl rfl ?_
    refine Go.iload (pc' := 138) at_136 rfl rfl ?_
    refine Go.callS0 (pc' := 141) (W := 2) (argsL := [(.int (4 : Int32)), (.long v), (.int kk), (.int g)]) (rest := [(.int (6 : Int32)), (.ref arr)]) (v0 := some (.int (f_c_at (4 : Int32) v kk g))) (st2 := [(.int (f_c_at (4 : Int32) v kk g)), (.int (6 : Int32)), (.ref arr)]) at_138 rfl (hw _ w2) (hw _ w3) (hw _ w4) (hw _ w5) (by decide) (c_at hw (4 : Int32) v kk g rfl) (by decide) (by decide) rfl rfl rfl (by decide) (by decide) rfl pd__28IJII_29B rfl rfl (Nat.le_of_eq rfl) ?_
    refine Go.bastoreB (pc' := 142) (i := 6) (v := (.int (f_c_at (4 : Int32) v kk g))) (vs' := [(.int (f_c_at (-2 : Int32) v kk g)), (.int (f_c_at (-1 : Int32) v kk g)), (.int (f_c_at (0 : Int32) v kk g)), (.int (f_c_at (1 : Int32) v kk g)), (.int (f_c_at (2 : Int32) v kk g)), (.int (f_c_at (3 : Int32) v kk g)), (.int (f_c_at (4 : Int32) v kk g)), (.int (0 : Int32)), (.int (0 : Int32)), (.int (0 : Int32)), (.int (0 : Int32)), (.int (0 : Int32)), (.int (0 : Int32)), (.int (0 : Int32)), (.int (0 : Int32)), (.int (0 : Int32))]) at_141 rfl A_arr (by decide) (Nat.le_of_ble_eq_true rfl) (congrArg Value.int (own_nar _ _ _ _)) rfl ?_
    intro h51 L51 NL51 W51 B51
    replace N0 := NL51 _ N0 gn_arr
    replace sz0 : n0 ≤ h51.size := by rw [W51.size]; exact sz0
    clear A_arr; have A_arr := B51
    refine Go.aload (pc' := 144) at_142 rfl rfl rfl ?_
    refine Go.bipush (pc' := 146) at_144 rfl (z := (7 : Int32)) (by decide) ?_
    refine Go.bipush (pc' := 148) at_146 rfl (z := (7 : Int32)) (by decide) ?_
    refine Go.iload (pc' := 150) at_148 rfl rfl ?_
    refine Go.isub (pc' := 151) at_150 rfl (z := (5 : Int32)) (by decide) ?_
    refine Go.lloadN (pc' := 152) at_151 rfl rfl ?_
    refine Go.iload (pc' := 154) at_152 rfl rfl ?_
    refine Go.iload (pc' := 156) at_154 rfl rfl ?_
    refine Go.callS0 (pc' := 159) (W := 2) (argsL := [(.int (5 : Int32)), (.long v), (.int kk), (.int g)]) (rest := [(.int (7 : Int32)), (.ref arr)]) (v0 := some (.int (f_c_at (5 : Int32) v kk g))) (st2 := [(.int (f_c_at (5 : Int32) v kk g)), (.int (7 : Int32)), (.ref arr)]) at_156 rfl (hw _ w2) (hw _ w3) (hw _ w4) (hw _ w5) (by decide) (c_at hw (5 : Int32) v kk g rfl) (by decide) (by decide) rfl rfl rfl (by decide) (by decide) rfl pd__28IJII_29B rfl rfl (Nat.le_of_eq rfl) ?_
    refine Go.bastoreB (pc' := 160) (i := 7) (v := (.int (f_c_at (5 : Int32) v kk g))) (vs' := [(.int (f_c_at (-2 : Int32) v kk g)), (.int (f_c_at (-1 : Int32) v kk g)), (.int (f_c_at (0 : Int32) v kk g)), (.int (f_c_at (1 : Int32) v kk g)), (.int (f_c_at (2 : Int32) v kk g)), (.int (f_c_at (3 : Int32) v kk g)), (.int (f_c_at (4 : Int32) v kk g)), (.int (f_c_at (5 : Int32) v kk g)), (.int (0 : Int32)), (.int (0 : Int32)), (.int (0 : Int32)), (.int (0 : Int32)), (.int (0 : Int32)), (.int (0 : Int32)), (.int (0 : Int32)), (.int (0 : Int32))]) at_159 rfl A_arr (by decide) (Nat.le_of_ble_eq_true rfl) (congrArg Value.int (own_nar _ _ _ _)) rfl ?_
    intro h52 L52 NL52 W52 B52
    replace N0 := NL52 _ N0 gn_arr
    replace sz0 : n0 ≤ h52.size := by rw [W52.size]; exact sz0
    clear A_arr; have A_arr := B52
    refine Go.aload (pc' := 162) at_160 rfl rfl rfl ?_
    refine Go.bipush (pc' := 164) at_162 rfl (z := (8 : Int32)) (by decide) ?_
    refine Go.bipush (pc' := 166) at_164 rfl (z := (8 : Int32)) (by decide) ?_
    refine Go.iload (pc' := 168) at_166 rfl rfl ?_
    refine Go.isub (pc' := 169) at_168 rfl (z := (6 : Int32)) (by decide) ?_
    refine Go.lloadN (pc' := 170) at_169 rfl rfl ?_
    refine Go.iload (pc' := 172) at_170 rfl rfl ?_
    refine Go.iload (pc' := 174) at_172 rfl rfl ?_
    refine Go.callS0 (pc' := 177) (W := 2) (argsL := [(.int (6 : Int32)), (.long v), (.int kk), (.int g)]) (rest := [(.int (8 : Int32)), (.ref arr)]) (v0 := some (.int (f_c_at (6 : Int32) v kk g))) (st2 := [(.int (f_c_at (6 : Int32) v kk g)), (.int (8 : Int32)), (.ref arr)]) at_174 rfl (hw _ w2) (hw _ w3) (hw _ w4) (hw _ w5) (by decide) (c_at hw (6 : Int32) v kk g rfl) (by decide) (by decide) rfl rfl rfl (by decide) (by decide) rfl pd__28IJII_29B rfl rfl (Nat.le_of_eq rfl) ?_
    refine Go.bastoreB (pc' := 178) (i := 8) (v := (.int (f_c_at (6 : Int32) v kk g))) (vs' := [(.int (f_c_at (-2 : Int32) v kk g)), (.int (f_c_at (-1 : Int32) v kk g)), (.int (f_c_at (0 : Int32) v kk g)), (.int (f_c_at (1 : Int32) v kk g)), (.int (f_c_at (2 : Int32) v kk g)), (.int (f_c_at (3 : Int32) v kk g)), (.int (f_c_at (4 : Int32) v kk g)), (.int (f_c_at (5 : Int32) v kk g)), (.int (f_c_at (6 : Int32) v kk g)), (.int (0 : Int32)), (.int (0 : Int32)), (.int (0 : Int32)), (.int (0 : Int32)), (.int (0 : Int32)), (.int (0 : Int32)), (.int (0 : Int32))]) at_177 rfl A_arr (by decide) (Nat.le_of_ble_eq_true rfl) (congrArg Value.int (own_nar _ _ _ _)) rfl ?_
    intro h53 L53 NL53 W53 B53
    replace N0 := NL53 _ N0 gn_arr
    replace sz0 : n0 ≤ h53.size := by rw [W53.size]; exact sz0
    clear A_arr; have A_arr := B53
    refine Go.aload (pc' := 180) at_178 rfl rfl rfl ?_
    refine Go.bipush (pc' := 182) at_180 rfl (z := (9 : Int32)) (by decide) ?_
    refine Go.bipush (pc' := 184) at_182 rfl (z := (9 : Int32)) (by decide) ?_
    refine Go.iload (pc' := 186) at_184 rfl rfl ?_
    refine Go.isub (pc' := 187) at_186 rfl (z := (7 : Int32)) (by decide) ?_
    refine Go.lloadN (pc' := 188) at_187 rfl rfl ?_
    refine Go.iload (pc' := 190) at_188 rfl rfl ?_
    refine Go.iload (pc' := 192) at_190 rfl rfl ?_
    refine Go.callS0 (pc' := 195) (W := 2) (argsL := [(.int (7 : Int32)), (.long v), (.int kk), (.int g)]) (rest := [(.int (9 : Int32)), (.ref arr)]) (v0 := some (.int (f_c_at (7 : Int32) v kk g))) (st2 := [(.int (f_c_at (7 : Int32) v kk g)), (.int (9 : Int32)), (.ref arr)]) at_192 rfl (hw _ w2) (hw _ w3) (hw _ w4) (hw _ w5) (by decide) (c_at hw (7 : Int32) v kk g rfl) (by decide) (by decide) rfl rfl rfl (by decide) (by decide) rfl pd__28IJII_29B rfl rfl (Nat.le_of_eq rfl) ?_
    refine Go.bastoreB (pc' := 196) (i := 9) (v := (.int (f_c_at (7 : Int32) v kk g))) (vs' := [(.int (f_c_at (-2 : Int32) v kk g)), (.int (f_c_at (-1 : Int32) v kk g)), (.int (f_c_at (0 : Int32) v kk g)), (.int (f_c_at (1 : Int32) v kk g)), (.int (f_c_at (2 : Int32) v kk g)), (.int (f_c_at (3 : Int32) v kk g)), (.int (f_c_at (4 : Int32) v kk g)), (.int (f_c_at (5 : Int32) v kk g)), (.int (f_c_at (6 : Int32) v kk g)), (.int (f_c_at (7 : Int32) v kk g)), (.int (0 : Int32)), (.int (0 : Int32)), (.int (0 : Int32)), (.int (0 : Int32)), (.int (0 : Int32)), (.int (0 : Int32))]) at_195 rfl A_arr (by decide) (Nat.le_of_ble_eq_true rfl) (congrArg Value.int (own_nar _ _ _ _)) rfl ?_
    intro h54 L54 NL54 W54 B54
    replace N0 := NL54 _ N0 gn_arr
    replace sz0 : n0 ≤ h54.size := by rw [W54.size]; exact sz0
    clear A_arr; have A_arr := B54
    refine Go.aload (pc' := 198) at_196 rfl rfl rfl ?_
    refine Go.bipush (pc' := 200) at_198 rfl (z := (10 : Int32)) (by decide) ?_
    refine Go.bipush (pc' := 202) at_200 rfl (z := (10 : Int32)) (by decide) ?_
    refine Go.iload (pc' := 204) at_202 rfl rfl ?_
    refine Go.isub (pc' := 205) at_204 rfl (z := (8 : Int32)) (by decide) ?_
    refine Go.lloadN (pc' := 206) at_205 rfl rfl ?_
    refine Go.iload (pc' := 208) at_206 rfl rfl ?_
    refine Go.iload (pc' := 210) at_208 rfl rfl ?_
    refine Go.callS0 (pc' := 213) (W := 2) (argsL := [(.int (8 : Int32)), (.long v), (.int kk), (.int g)]) (rest := [(.int (10 : Int32)), (.ref arr)]) (v0 := some (.int (f_c_at (8 : Int32) v kk g))) (st2 := [(.int (f_c_at (8 : Int32) v kk g)), (.int (10 : Int32)), (.ref arr)]) at_210 rfl (hw _ w2) (hw _ w3) (hw _ w4) (hw _ w5) (by decide) (c_at hw (8 : Int32) v kk g rfl) (by decide) (by decide) rfl rfl rfl (by decide) (by decide) rfl pd__28IJII_29B rfl rfl (Nat.le_of_eq rfl) ?_
    refine Go.bastoreB (pc' := 214) (i := 10) (v := (.int (f_c_at (8 : Int32) v kk g))) (vs' := [(.int (f_c_at (-2 : Int32) v kk g)), (.int (f_c_at (-1 : Int32) v kk g)), (.int (f_c_at (0 : Int32) v kk g)), (.int (f_c_at (1 : Int32) v kk g)), (.int (f_c_at (2 : Int32) v kk g)), (.int (f_c_at (3 : Int32) v kk g)), (.int (f_c_at (4 : Int32) v kk g)), (.int (f_c_at (5 : Int32) v kk g)), (.int (f_c_at (6 : Int32) v kk g)), (.int (f_c_at (7 : Int32) v kk g)), (.int (f_c_at (8 : Int32) v kk g)), (.int (0 : Int32)), (.int (0 : Int32)), (.int (0 : Int32)), (.int (0 : Int32)), (.int (0 : Int32))]) at_213 rfl A_arr (by decide) (Nat.le_of_ble_eq_true rfl) (congrArg Value.int (own_nar _ _ _ _)) rfl ?_
    intro h55 L55 NL55 W55 B55
    replace N0 := NL55 _ N0 gn_arr
    replace sz0 : n0 ≤ h55.size := by rw [W55.size]; exact sz0
    clear A_arr; have A_arr := B55
    refine Go.aload (pc' := 216) at_214 rfl rfl rfl ?_
    refine Go.bipush (pc' := 218) at_216 rfl (z := (11 : Int32)) (by decide) ?_
    refine Go.bipush (pc' := 220) at_218 rfl (z := (11 : Int32)) (by decide) ?_
    refine Go.iload (pc' := 222) at_220 rfl rfl ?_
    refine Go.isub (pc' := 223) at_222 rfl (z := (9 : Int32)) (by decide) ?_
    refine Go.lloadN (pc' := 224) at_223 rfl rfl ?_
    refine Go.iload (pc' := 226) at_224 rfl rfl ?_
    refine Go.iload (pc' := 228) at_226 rfl rfl ?_
    refine Go.callS0 (pc' := 231) (W := 2) (argsL := [(.int (9 : Int32)), (.long v), (.int kk), (.int g)]) (rest := [(.int (11 : Int32)), (.ref arr)]) (v0 := some (.int (f_c_at (9 : Int32) v kk g))) (st2 := [(.int (f_c_at (9 : Int32) v kk g)), (.int (11 : Int32)), (.ref arr)]) at_228 rfl (hw _ w2) (hw _ w3) (hw _ w4) (hw _ w5) (by decide) (c_at hw (9 : Int32) v kk g rfl) (by decide) (by decide) rfl rfl rfl (by decide) (by decide) rfl pd__28IJII_29B rfl rfl (Nat.le_of_eq rfl) ?_
    refine Go.bastoreB (pc' := 232) (i := 11) (v := (.int (f_c_at (9 : Int32) v kk g))) (vs' := [(.int (f_c_at (-2 : Int32) v kk g)), (.int (f_c_at (-1 : Int32) v kk g)), (.int (f_c_at (0 : Int32) v kk g)), (.int (f_c_at (1 : Int32) v kk g)), (.int (f_c_at (2 : Int32) v kk g)), (.int (f_c_at (3 : Int32) v kk g)), (.int (f_c_at (4 : Int32) v kk g)), (.int (f_c_at (5 : Int32) v kk g)), (.int (f_c_at (6 : Int32) v kk g)), (.int (f_c_at (7 : Int32) v kk g)), (.int (f_c_at (8 : Int32) v kk g)), (.int (f_c_at (9 : Int32) v kk g)), (.int (0 : Int32)), (.int (0 : Int32)), (.int (0 : Int32)), (.int (0 : Int32))]) at_231 rfl A_arr (by decide) (Nat.le_of_ble_eq_true rfl) (congrArg Value.int (own_nar _ _ _ _)) rfl ?_
    intro h56 L56 NL56 W56 B56
    replace N0 := NL56 _ N0 gn_arr
    replace sz0 : n0 ≤ h56.size := by rw [W56.size]; exact sz0
    clear A_arr; have A_arr := B56
    refine Go.aload (pc' := 234) at_232 rfl rfl rfl ?_
    refine Go.bipush (pc' := 236) at_234 rfl (z := (12 : Int32)) (by decide) ?_
    refine Go.bipush (pc' := 238) at_236 rfl (z := (12 : Int32)) (by decide) ?_
    refine Go.iload (pc' := 240) at_238 rfl rfl ?_
    refine Go.isub (pc' := 241) at_240 rfl (z := (10 : Int32)) (by decide) ?_
    refine Go.lloadN (pc' := 242) at_241 rfl rfl ?_
    refine Go.iload (pc' := 244) at_242 rfl rfl ?_
    refine Go.iload (pc' := 246) at_244 rfl rfl ?_
    refine Go.callS0 (pc' := 249) (W := 2) (argsL := [(.int (10 : Int32)), (.long v), (.int kk), (.int g)]) (rest := [(.int (12 : Int32)), (.ref arr)]) (v0 := some (.int (f_c_at (10 : Int32) v kk g))) (st2 := [(.int (f_c_at (10 : Int32) v kk g)), (.int (12 : Int32)), (.ref arr)]) at_246 rfl (hw _ w2) (hw _ w3) (hw _ w4) (hw _ w5) (by decide) (c_at hw (10 : Int32) v kk g rfl) (by decide) (by decide) rfl rfl rfl (by decide) (by decide) rfl pd__28IJII_29B rfl rfl (Nat.le_of_eq rfl) ?_
    refine Go.bastoreB (pc' := 250) (i := 12) (v := (.int (f_c_at (10 : Int32) v kk g))) (vs' := [(.int (f_c_at (-2 : Int32) v kk g)), (.int (f_c_at (-1 : Int32) v kk g)), (.int (f_c_at (0 : Int32) v kk g)), (.int (f_c_at (1 : Int32) v kk g)), (.int (f_c_at (2 : Int32) v kk g)), (.int (f_c_at (3 : Int32) v kk g)), (.int (f_c_at (4 : Int32) v kk g)), (.int (f_c_at (5 : Int32) v kk g)), (.int (f_c_at (6 : Int32) v kk g)), (.int (f_c_at (7 : Int32) v kk g)), (.int (f_c_at (8 : Int32) v kk g)), (.int (f_c_at (9 : Int32) v kk g)), (.int (f_c_at (10 : Int32) v kk g)), (.int (0 : Int32)), (.int (0 : Int32)), (.int (0 : Int32))]) at_249 rfl A_arr (by decide) (Nat.le_of_ble_eq_true rfl) (congrArg Value.int (own_nar _ _ _ _)) rfl ?_
    intro h57 L57 NL57 W57 B57
    replace N0 := NL57 _ N0 gn_arr
    replace sz0 : n0 ≤ h57.size := by rw [W57.size]; exact sz0
    clear A_arr; have A_arr := B57
    refine Go.aload (pc' := 252) at_250 rfl rfl rfl ?_
    refine Go.bipush (pc' := 254) at_252 rfl (z := (13 : Int32)) (by decide) ?_
    refine Go.bipush (pc' := 256) at_254 rfl (z := (13 : Int32)) (by decide) ?_
    refine Go.iload (pc' := 258) at_256 rfl rfl ?_
    refine Go.isub (pc' := 259) at_258 rfl (z := (11 : Int32)) (by decide) ?_
    refine Go.lloadN (pc' := 260) at_259 rfl rfl ?_
    refine Go.iload (pc' := 262) at_260 rfl rfl ?_
    refine Go.iload (pc' := 264) at_262 rfl rfl ?_
    refine Go.callS0 (pc' := 267) (W := 2) (argsL := [(.int (11 : Int32)), (.long v), (.int kk), (.int g)]) (rest := [(.int (13 : Int32)), (.ref arr)]) (v0 := some (.int (f_c_at (11 : Int32) v kk g))) (st2 := [(.int (f_c_at (11 : Int32) v kk g)), (.int (13 : Int32)), (.ref arr)]) at_264 rfl (hw _ w2) (hw _ w3) (hw _ w4) (hw _ w5) (by decide) (c_at hw (11 : Int32) v kk g rfl) (by decide) (by decide) rfl rfl rfl (by decide) (by decide) rfl pd__28IJII_29B rfl rfl (Nat.le_of_eq rfl) ?_
    refine Go.bastoreB (pc' := 268) (i := 13) (v := (.int (f_c_at (11 : Int32) v kk g))) (vs' := [(.int (f_c_at (-2 : Int32) v kk g)), (.int (f_c_at (-1 : Int32) v kk g)), (.int (f_c_at (0 : Int32) v kk g)), (.int (f_c_at (1 : Int32) v kk g)), (.int (f_c_at (2 : Int32) v kk g)), (.int (f_c_at (3 : Int32) v kk g)), (.int (f_c_at (4 : Int32) v kk g)), (.int (f_c_at (5 : Int32) v kk g)), (.int (f_c_at (6 : Int32) v kk g)), (.int (f_c_at (7 : Int32) v kk g)), (.int (f_c_at (8 : Int32) v kk g)), (.int (f_c_at (9 : Int32) v kk g)), (.int (f_c_at (10 : Int32) v kk g)), (.int (f_c_at (11 : Int32) v kk g)), (.int (0 : Int32)), (.int (0 : Int32))]) at_267 rfl A_arr (by decide) (Nat.le_of_ble_eq_true rfl) (congrArg Value.int (own_nar _ _ _ _)) rfl ?_
    intro h58 L58 NL58 W58 B58
    replace N0 := NL58 _ N0 gn_arr
    replace sz0 : n0 ≤ h58.size := by rw [W58.size]; exact sz0
    clear A_arr; have A_arr := B58
    refine Go.aload (pc' := 270) at_268 rfl rfl rfl ?_
    refine Go.bipush (pc' := 272) at_270 rfl (z := (14 : Int32)) (by decide) ?_
    refine Go.bipush (pc' := 274) at_272 rfl (z := (14 : Int32)) (by decide) ?_
    refine Go.iload (pc' := 276) at_274 rfl rfl ?_
    refine Go.isub (pc' := 277) at_276 rfl (z := (12 : Int32)) (by decide) ?_
    refine Go.lloadN (pc' := 278) at_277 rfl rfl ?_
    refine Go.iload (pc' := 280) at_278 rfl rfl ?_
    refine Go.iload (pc' := 282) at_280 rfl rfl ?_
    refine Go.callS0 (pc' := 285) (W := 2) (argsL := [(.int (12 : Int32)), (.long v), (.int kk), (.int g)]) (rest := [(.int (14 : Int32)), (.ref arr)]) (v0 := some (.int (f_c_at (12 : Int32) v kk g))) (st2 := [(.int (f_c_at (12 : Int32) v kk g)), (.int (14 : Int32)), (.ref arr)]) at_282 rfl (hw _ w2) (hw _ w3) (hw _ w4) (hw _ w5) (by decide) (c_at hw (12 : Int32) v kk g rfl) (by decide) (by decide) rfl rfl rfl (by decide) (by decide) rfl pd__28IJII_29B rfl rfl (Nat.le_of_eq rfl) ?_
    refine Go.bastoreB (pc' := 286) (i := 14) (v := (.int (f_c_at (12 : Int32) v kk g))) (vs' := [(.int (f_c_at (-2 : Int32) v kk g)), (.int (f_c_at (-1 : Int32) v kk g)), (.int (f_c_at (0 : Int32) v kk g)), (.int (f_c_at (1 : Int32) v kk g)), (.int (f_c_at (2 : Int32) v kk g)), (.int (f_c_at (3 : Int32) v kk g)), (.int (f_c_at (4 : Int32) v kk g)), (.int (f_c_at (5 : Int32) v kk g)), (.int (f_c_at (6 : Int32) v kk g)), (.int (f_c_at (7 : Int32) v kk g)), (.int (f_c_at (8 : Int32) v kk g)), (.int (f_c_at (9 : Int32) v kk g)), (.int (f_c_at (10 : Int32) v kk g)), (.int (f_c_at (11 : Int32) v kk g)), (.int (f_c_at (12 : Int32) v kk g)), (.int (0 : Int32))]) at_285 rfl A_arr (by decide) (Nat.le_of_ble_eq_true rfl) (congrArg Value.int (own_nar _ _ _ _)) rfl ?_
    intro h59 L59 NL59 W59 B59
    replace N0 := NL59 _ N0 gn_arr
    replace sz0 : n0 ≤ h59.size := by rw [W59.size]; exact sz0
    clear A_arr; have A_arr := B59
    refine Go.aload (pc' := 288) at_286 rfl rfl rfl ?_
    refine Go.bipush (pc' := 290) at_288 rfl (z := (15 : Int32)) (by decide) ?_
    refine Go.bipush (pc' := 292) at_290 rfl (z := (15 : Int32)) (by decide) ?_
    refine Go.iload (pc' := 294) at_292 rfl rfl ?_
    refine Go.isub (pc' := 295) at_294 rfl (z := (13 : Int32)) (by decide) ?_
    refine Go.lloadN (pc' := 296) at_295 rfl rfl ?_
    refine Go.iload (pc' := 298) at_296 rfl rfl ?_
    refine Go.iload (pc' := 300) at_298 rfl rfl ?_
    refine Go.callS0 (pc' := 303) (W := 2) (argsL := [(.int (13 : Int32)), (.long v), (.int kk), (.int g)]) (rest := [(.int (15 : Int32)), (.ref arr)]) (v0 := some (.int (f_c_at (13 : Int32) v kk g))) (st2 := [(.int (f_c_at (13 : Int32) v kk g)), (.int (15 : Int32)), (.ref arr)]) at_300 rfl (hw _ w2) (hw _ w3) (hw _ w4) (hw _ w5) (by decide) (c_at hw (13 : Int32) v kk g rfl) (by decide) (by decide) rfl rfl rfl (by decide) (by decide) rfl pd__28IJII_29B rfl rfl (Nat.le_of_eq rfl) ?_
    refine Go.bastoreB (pc' := 304) (i := 15) (v := (.int (f_c_at (13 : Int32) v kk g))) (vs' := [(.int (f_c_at (-2 : Int32) v kk g)), (.int (f_c_at (-1 : Int32) v kk g)), (.int (f_c_at (0 : Int32) v kk g)), (.int (f_c_at (1 : Int32) v kk g)), (.int (f_c_at (2 : Int32) v kk g)), (.int (f_c_at (3 : Int32) v kk g)), (.int (f_c_at (4 : Int32) v kk g)), (.int (f_c_at (5 : Int32) v kk g)), (.int (f_c_at (6 : Int32) v kk g)), (.int (f_c_at (7 : Int32) v kk g)), (.int (f_c_at (8 : Int32) v kk g)), (.int (f_c_at (9 : Int32) v kk g)), (.int (f_c_at (10 : Int32) v kk g)), (.int (f_c_at (11 : Int32) v kk g)), (.int (f_c_at (12 : Int32) v kk g)), (.int (f_c_at (13 : Int32) v kk g))]) at_303 rfl A_arr (by decide) (Nat.le_of_ble_eq_true rfl) (congrArg Value.int (own_nar _ _ _ _)) rfl ?_
    intro h60 L60 NL60 W60 B60
    replace N0 := NL60 _ N0 gn_arr
    replace sz0 : n0 ≤ h60.size := by rw [W60.size]; exact sz0
    clear A_arr; have A_arr := B60
    refine Go.newO (pc' := 307) (k' := 2) (n' := 19) at_304 rfl (hw _ w8) (hw _ w9) (hw _ w10) (by decide) (by decide) rfl rfl ?_
    intro h61 a61 ha_a61 X61 E_a61 D61
    have ne_arr_a61 : arr ≠ a61 := Nat.ne_of_lt (by rw [ha_a61]; exact A_arr.lt)
    have gn_a61 : n0 ≤ a61 := by rw [ha_a61]; exact sz0
    replace sz0 : n0 ≤ h61.size := Nat.le_trans sz0 X61.1
    replace A_arr := A_arr.ext X61
    have F_a61_bytes : Fld Z h61 a61 "com/example/mixed_urn/mixedurn/index/ByteReader" "bytes" "[B" .null := D61 (Or.inr (hw _ w18)) (ty := (.array .byte)) (by decide)
    have F_a61_position : Fld Z h61 a61 "com/example/mixed_urn/mixedurn/index/ByteReader" "position" "I" (.int (0 : Int32)) := D61 (Or.inl (hw _ w20)) (ty := .int) (by decide)
    have F_a61_end : Fld Z h61 a61 "com/example/mixed_urn/mixedurn/index/ByteReader" "end" "I" (.int (0 : Int32)) := D61 (Or.inr (hw _ w22)) (ty := .int) (by decide)
    refine Go.dup (pc' := 308) at_307 rfl rfl ?_
    refine Go.aload (pc' := 310) at_308 rfl rfl rfl ?_
    refine Go.iload (pc' := 312) at_310 rfl rfl ?_
    refine Go.iload (pc' := 314) at_312 rfl rfl ?_
    refine Go.iload (pc' := 316) at_314 rfl rfl ?_
    refine Go.iadd (pc' := 317) at_316 rfl rfl ?_
    refine Go.callI (pc' := 320) (W := 1) (a := a61) (argsL := [(.ref arr), (.int (2 : Int32)), (.int (kk + ex))]) (rest := [(.ref a61)]) (k' := 2) (n' := 19) at_317 rfl rfl (hw _ w11) (hw _ w12) (hw _ w10) (hw _ w13) (by decide) (c_init hw sz0 a61 arr (2 : Int32) (kk + ex) gn_a61 E_a61 F_a61_bytes F_a61_position F_a61_end) (by decide) (by decide) (by decide) (by decide) rfl rfl rfl pd__28_5bBII_29V rfl rfl (Nat.le_of_eq rfl) ?_
    intro v62 h62 P62 L62 NL62 hq62
    obtain ⟨rfl, N62, K62, E_a61_62, F_a61_bytes_62, F_a61_position_62, F_a61_end_62⟩ := hq62
    dsimp only [Option.toList, List.cons_append, List.nil_append]
    replace N0 := NL62 _ N0 N62
    replace sz0 : n0 ≤ h62.size := Nat.le_trans sz0 K62.1
    clear E_a61
    clear F_a61_bytes
    clear F_a61_position
    clear F_a61_end
    replace A_arr := A_arr.keep K62 (ninS ne_arr_a61 nin0)
    have E_a61 := E_a61_62; clear E_a61_62
    have F_a61_bytes := F_a61_bytes_62; clear F_a61_bytes_62
    have F_a61_position := F_a61_position_62; clear F_a61_position_62
    have F_a61_end := F_a61_end_62; clear F_a61_end_62
    refine Go.astore (pc' := 322) at_320 rfl rfl (Ls' := #[.val (.long v), .second, .val (.int kq), .val (.int oo), .val (.int ee), .val (.int g), .val (.int kk), .val (.int (2 : Int32)), .val (.int ex), .val (.ref arr), .val (.ref a61), .unset, .unset, .unset, .unset]) rfl ?_
    refine Go.aload (pc' := 324) at_322 rfl rfl rfl ?_
    have hvs : ∀ i, i < K → ([(.int (f_c_at (-2 : Int32) v kk g)), (.int (f_c_at (-1 : Int32) v kk g)), (.int (f_c_at (0 : Int32) v kk g)), (.int (f_c_at (1 : Int32) v kk g)), (.int (f_c_at (2 : Int32) v kk g)), (.int (f_c_at (3 : Int32) v kk g)), (.int (f_c_at (4 : Int32) v kk g)), (.int (f_c_at (5 : Int32) v kk g)), (.int (f_c_at (6 : Int32) v kk g)), (.int (f_c_at (7 : Int32) v kk g)), (.int (f_c_at (8 : Int32) v kk g)), (.int (f_c_at (9 : Int32) v kk g)), (.int (f_c_at (10 : Int32) v kk g)), (.int (f_c_at (11 : Int32) v kk g)), (.int (f_c_at (12 : Int32) v kk g)), (.int (f_c_at (13 : Int32) v kk g))] : List Value)[2 + i]? = some (.int (f_c_at (Int32.ofNat i) v kk g)) := by
      intro i hi
      match i, (show i < 10 by omega) with
      | 0, _ => rfl
      | 1, _ => rfl
      | 2, _ => rfl
      | 3, _ => rfl
      | 4, _ => rfl
      | 5, _ => rfl
      | 6, _ => rfl
      | 7, _ => rfl
      | 8, _ => rfl
      | 9, _ => rfl
    have ko : (2 : Int32).toInt = 2 := by decide
    have ea : (kk + ex).toInt = kk.toInt + ex.toInt := iadd_eq (by omega) (by omega)
    have eb : ((2 : Int32) + (kk + ex)).toInt = 2 + kk.toInt + ex.toInt := by rw [iadd_eq (by omega) (by omega), ko, ea]; omega
    refine Go.callV (pc' := 327) (W := 0) (a := a61) (argsL := []) (rest := []) (k' := 2) (n' := 19) at_324 rfl (hw _ w23) (hw _ w24) (nf_sel (hw _ w26)) (hw _ w26) (hw _ w25) (hw _ w10) (hw _ w27) E_a61 (by decide) (c_rn hw sz0 a61 arr gn_a61 ((2 : Int32) + (kk + ex)) v _ (fun i => f_c_at (Int32.ofNat i) v kk g) 2 K hK10 (by omega) hvs (fun i hi => own_at v kk g K i hK hi hK10) (2 : Int32) E_a61 F_a61_bytes F_a61_position F_a61_end A_arr (by decide) hK1) (by decide) (by decide) (by decide) (by decide) rfl rfl rfl pd__28_29J rfl rfl (Nat.le_of_eq rfl) ?_
    intro v63 h63 P63 L63 NL63 hq63
    obtain ⟨res, pk, rfl, N63, K63, E_a61_63, F_a61_bytes_63, F_a61_position_63, F_a61_end_63, hpk, hres⟩ := hq63
    dsimp only [Option.toList, List.cons_append, List.nil_append]
    replace N0 := NL63 _ N0 N63
    replace sz0 : n0 ≤ h63.size := Nat.le_trans sz0 K63.1
    clear E_a61
    clear F_a61_bytes
    clear F_a61_position
    clear F_a61_end
    replace A_arr := A_arr.keep K63 (ninS ne_arr_a61 nin0)
    have E_a61 := E_a61_63; clear E_a61_63
    have F_a61_bytes := F_a61_bytes_63; clear F_a61_bytes_63
    have F_a61_position := F_a61_position_63; clear F_a61_position_63
    have F_a61_end := F_a61_end_63; clear F_a61_end_63
    refine Go.lstore (pc' := 329) at_327 rfl (Ls' := #[.val (.long v), .second, .val (.int kq), .val (.int oo), .val (.int ee), .val (.int g), .val (.int kk), .val (.int (2 : Int32)), .val (.int ex), .val (.ref arr), .val (.ref a61), .val (.long res), .second, .unset, .unset]) rfl ?_
    rcases own_ten kk K hK hK1 hK10 with hs64 | hs64 | hs64 | hs64 | hs64 | hs64 | hs64 | hs64 | hs64 | hs64
    · subst hs64
      have kn : (1 : Int32).toInt = 1 := by decide
      obtain rfl : K = 1 := by omega
      refine Go.bipush (pc' := 331) at_329 rfl (z := (7 : Int32)) (by decide) ?_
      refine Go.iload (pc' := 333) at_331 rfl rfl ?_
      refine Go.imul (pc' := 334) at_333 rfl (z := (7 : Int32)) (by decide) ?_
      refine Go.bipush (pc' := 336) at_334 rfl (z := (64 : Int32)) (by decide) ?_
      refine Go.icmpT (pc' := 343) (X := (7 : Int)) (Y := (64 : Int)) at_336 (by decide) (by decide) (by decide) (by decide : (7 : Int) < (64 : Int)) ?_
      refine Go.lloadN (pc' := 344) at_343 rfl rfl ?_
      refine Go.lconst (pc' := 345) at_344 rfl (z := (1 : Int64)) (by decide) ?_
      refine Go.bipush (pc' := 347) at_345 rfl (z := (7 : Int32)) (by decide) ?_
      refine Go.iload (pc' := 349) at_347 rfl rfl ?_
      refine Go.imul (pc' := 350) at_349 rfl (z := (7 : Int32)) (by decide) ?_
      refine Go.lshl (pc' := 351) at_350 rfl (z := (128 : Int64)) (by decide) ?_
      refine Go.lconst (pc' := 352) at_351 rfl (z := (1 : Int64)) (by decide) ?_
      refine Go.lsub (pc' := 353) at_352 rfl (z := (127 : Int64)) (by decide) ?_
      refine Go.land (pc' := 354) at_353 rfl rfl ?_
      generalize hv_want : (v &&& (127 : Int64)) = want
      refine Go.lstore (pc' := 356) at_354 rfl (Ls' := #[.val (.long v), .second, .val (.int kq), .val (.int oo), .val (.int ee), .val (.int g), .val (.int (1 : Int32)), .val (.int (2 : Int32)), .val (.int ex), .val (.ref arr), .val (.ref a61), .val (.long res), .second, .val (.long want), .second]) rfl ?_
      
      by_cases hex : 0 < ex.toInt
      · have _ := hex
        refine Go.lload (pc' := 358) at_356 rfl rfl ?_
        refine Go.lload (pc' := 360) at_358 rfl rfl ?_
        refine Go.lcmpF (pc' := 364) (X := res.toInt) (Y := want.toInt) at_360 at_361 rfl rfl rfl rfl (by rw [← hv_want]; exact congrArg _ (own_want v res (127 : Int64) (7 * 1) (by decide) hres) : res.toInt = want.toInt) ?_
        refine Go.aload (pc' := 366) at_364 rfl rfl rfl ?_
        refine Go.callV0 (pc' := 369) (W := 0) (a := a61) (argsL := []) (rest := []) (v0 := some (.int pk)) (st2 := [(.int pk)]) at_366 rfl (hw _ w32) (hw _ w33) (nf_sel (hw _ w35)) (hw _ w35) (hw _ w34) (hw _ w10) (hw _ w36) E_a61 (by decide) (c_pos hw a61 arr pk ((2 : Int32) + ((1 : Int32) + ex)) E_a61 F_a61_bytes F_a61_position F_a61_end) (by decide) (by decide) rfl rfl rfl (by decide) (by decide) rfl pd__28_29I rfl rfl (Nat.le_of_eq rfl) ?_
        refine Go.iload (pc' := 371) at_369 rfl rfl ?_
        refine Go.iload (pc' := 373) at_371 rfl rfl ?_
        refine Go.iadd (pc' := 374) at_373 rfl (z := (3 : Int32)) (by decide) ?_
        refine Go.icmpF (pc' := 377) (X := pk.toInt) (Y := (3 : Int)) at_374 rfl rfl (by decide) (by omega : pk.toInt = (3 : Int)) ?_
        refine Go.aload (pc' := 379) at_377 rfl rfl rfl ?_
        refine Go.callV0 (pc' := 382) (W := 0) (a := a61) (argsL := []) (rest := []) (v0 := some (.int (1 : Int32))) (st2 := [(.int (1 : Int32))]) at_379 rfl (hw _ w37) (hw _ w38) (nf_sel (hw _ w40)) (hw _ w40) (hw _ w39) (hw _ w10) (hw _ w41) E_a61 (by decide) (c_has hw a61 arr pk ((2 : Int32) + ((1 : Int32) + ex)) (1 : Int32) E_a61 F_a61_bytes F_a61_position F_a61_end (if_pos (by omega))) (by decide) (by decide) rfl rfl rfl (by decide) (by decide) rfl pd__28_29Z rfl rfl (Nat.le_of_eq rfl) ?_
        refine Go.iload (pc' := 384) at_382 rfl rfl ?_
        refine Go.ifF (pc' := 387) (X := ex.toInt) at_384 rfl rfl (by omega : 0 < ex.toInt) ?_
        refine Go.iconst (pc' := 388) at_387 rfl (z := (1 : Int32)) (by decide) ?_
        refine Go.goto (pc' := 392) at_388 (by decide) ?_
        refine Go.icmpF (pc' := 395) (X := (1 : Int)) (Y := (1 : Int)) at_392 rfl (by decide) (by decide) (by decide : (1 : Int) = (1 : Int)) ?_
        refine Go.iconst (pc' := 396) at_395 rfl (z := (1 : Int32)) (by decide) ?_
        refine Go.goto (pc' := 400) at_396 (by decide) ?_
        refine Go.retZ at_400 rfl (by decide) (by decide) (by decide) ?_
        exact ⟨rfl, N0⟩
      · have _ := hex
        refine Go.lload (pc' := 358) at_356 rfl rfl ?_
        refine Go.lload (pc' := 360) at_358 rfl rfl ?_
        refine Go.lcmpF (pc' := 364) (X := res.toInt) (Y := want.toInt) at_360 at_361 rfl rfl rfl rfl (by rw [← hv_want]; exact congrArg _ (own_want v res (127 : Int64) (7 * 1) (by decide) hres) : res.toInt = want.toInt) ?_
        refine Go.aload (pc' := 366) at_364 rfl rfl rfl ?_
        refine Go.callV0 (pc' := 369) (W := 0) (a := a61) (argsL := []) (rest := []) (v0 := some (.int pk)) (st2 := [(.int pk)]) at_366 rfl (hw _ w32) (hw _ w33) (nf_sel (hw _ w35)) (hw _ w35) (hw _ w34) (hw _ w10) (hw _ w36) E_a61 (by decide) (c_pos hw a61 arr pk ((2 : Int32) + ((1 : Int32) + ex)) E_a61 F_a61_bytes F_a61_position F_a61_end) (by decide) (by decide) rfl rfl rfl (by decide) (by decide) rfl pd__28_29I rfl rfl (Nat.le_of_eq rfl) ?_
        refine Go.iload (pc' := 371) at_369 rfl rfl ?_
        refine Go.iload (pc' := 373) at_371 rfl rfl ?_
        refine Go.iadd (pc' := 374) at_373 rfl (z := (3 : Int32)) (by decide) ?_
        refine Go.icmpF (pc' := 377) (X := pk.toInt) (Y := (3 : Int)) at_374 rfl rfl (by decide) (by omega : pk.toInt = (3 : Int)) ?_
        refine Go.aload (pc' := 379) at_377 rfl rfl rfl ?_
        refine Go.callV0 (pc' := 382) (W := 0) (a := a61) (argsL := []) (rest := []) (v0 := some (.int (0 : Int32))) (st2 := [(.int (0 : Int32))]) at_379 rfl (hw _ w37) (hw _ w38) (nf_sel (hw _ w40)) (hw _ w40) (hw _ w39) (hw _ w10) (hw _ w41) E_a61 (by decide) (c_has hw a61 arr pk ((2 : Int32) + ((1 : Int32) + ex)) (0 : Int32) E_a61 F_a61_bytes F_a61_position F_a61_end (if_neg (by omega))) (by decide) (by decide) rfl rfl rfl (by decide) (by decide) rfl pd__28_29Z rfl rfl (Nat.le_of_eq rfl) ?_
        refine Go.iload (pc' := 384) at_382 rfl rfl ?_
        refine Go.ifT (pc' := 391) (X := ex.toInt) at_384 (by decide) rfl (by omega : ¬ 0 < ex.toInt) ?_
        refine Go.iconst (pc' := 392) at_391 rfl (z := (0 : Int32)) (by decide) ?_
        refine Go.icmpF (pc' := 395) (X := (0 : Int)) (Y := (0 : Int)) at_392 rfl (by decide) (by decide) (by decide : (0 : Int) = (0 : Int)) ?_
        refine Go.iconst (pc' := 396) at_395 rfl (z := (1 : Int32)) (by decide) ?_
        refine Go.goto (pc' := 400) at_396 (by decide) ?_
        refine Go.retZ at_400 rfl (by decide) (by decide) (by decide) ?_
        exact ⟨rfl, N0⟩
    · subst hs64
      have kn : (2 : Int32).toInt = 2 := by decide
      obtain rfl : K = 2 := by omega
      refine Go.bipush (pc' := 331) at_329 rfl (z := (7 : Int32)) (by decide) ?_
      refine Go.iload (pc' := 333) at_331 rfl rfl ?_
      refine Go.imul (pc' := 334) at_333 rfl (z := (14 : Int32)) (by decide) ?_
      refine Go.bipush (pc' := 336) at_334 rfl (z := (64 : Int32)) (by decide) ?_
      refine Go.icmpT (pc' := 343) (X := (14 : Int)) (Y := (64 : Int)) at_336 (by decide) (by decide) (by decide) (by decide : (14 : Int) < (64 : Int)) ?_
      refine Go.lloadN (pc' := 344) at_343 rfl rfl ?_
      refine Go.lconst (pc' := 345) at_344 rfl (z := (1 : Int64)) (by decide) ?_
      refine Go.bipush (pc' := 347) at_345 rfl (z := (7 : Int32)) (by decide) ?_
      refine Go.iload (pc' := 349) at_347 rfl rfl ?_
      refine Go.imul (pc' := 350) at_349 rfl (z := (14 : Int32)) (by decide) ?_
      refine Go.lshl (pc' := 351) at_350 rfl (z := (16384 : Int64)) (by decide) ?_
      refine Go.lconst (pc' := 352) at_351 rfl (z := (1 : Int64)) (by decide) ?_
      refine Go.lsub (pc' := 353) at_352 rfl (z := (16383 : Int64)) (by decide) ?_
      refine Go.land (pc' := 354) at_353 rfl rfl ?_
      generalize hv_want : (v &&& (16383 : Int64)) = want
      refine Go.lstore (pc' := 356) at_354 rfl (Ls' := #[.val (.long v), .second, .val (.int kq), .val (.int oo), .val (.int ee), .val (.int g), .val (.int (2 : Int32)), .val (.int (2 : Int32)), .val (.int ex), .val (.ref arr), .val (.ref a61), .val (.long res), .second, .val (.long want), .second]) rfl ?_
      
      by_cases hex : 0 < ex.toInt
      · have _ := hex
        refine Go.lload (pc' := 358) at_356 rfl rfl ?_
        refine Go.lload (pc' := 360) at_358 rfl rfl ?_
        refine Go.lcmpF (pc' := 364) (X := res.toInt) (Y := want.toInt) at_360 at_361 rfl rfl rfl rfl (by rw [← hv_want]; exact congrArg _ (own_want v res (16383 : Int64) (7 * 2) (by decide) hres) : res.toInt = want.toInt) ?_
        refine Go.aload (pc' := 366) at_364 rfl rfl rfl ?_
        refine Go.callV0 (pc' := 369) (W := 0) (a := a61) (argsL := []) (rest := []) (v0 := some (.int pk)) (st2 := [(.int pk)]) at_366 rfl (hw _ w32) (hw _ w33) (nf_sel (hw _ w35)) (hw _ w35) (hw _ w34) (hw _ w10) (hw _ w36) E_a61 (by decide) (c_pos hw a61 arr pk ((2 : Int32) + ((2 : Int32) + ex)) E_a61 F_a61_bytes F_a61_position F_a61_end) (by decide) (by decide) rfl rfl rfl (by decide) (by decide) rfl pd__28_29I rfl rfl (Nat.le_of_eq rfl) ?_
        refine Go.iload (pc' := 371) at_369 rfl rfl ?_
        refine Go.iload (pc' := 373) at_371 rfl rfl ?_
        refine Go.iadd (pc' := 374) at_373 rfl (z := (4 : Int32)) (by decide) ?_
        refine Go.icmpF (pc' := 377) (X := pk.toInt) (Y := (4 : Int)) at_374 rfl rfl (by decide) (by omega : pk.toInt = (4 : Int)) ?_
        refine Go.aload (pc' := 379) at_377 rfl rfl rfl ?_
        refine Go.callV0 (pc' := 382) (W := 0) (a := a61) (argsL := []) (rest := []) (v0 := some (.int (1 : Int32))) (st2 := [(.int (1 : Int32))]) at_379 rfl (hw _ w37) (hw _ w38) (nf_sel (hw _ w40)) (hw _ w40) (hw _ w39) (hw _ w10) (hw _ w41) E_a61 (by decide) (c_has hw a61 arr pk ((2 : Int32) + ((2 : Int32) + ex)) (1 : Int32) E_a61 F_a61_bytes F_a61_position F_a61_end (if_pos (by omega))) (by decide) (by decide) rfl rfl rfl (by decide) (by decide) rfl pd__28_29Z rfl rfl (Nat.le_of_eq rfl) ?_
        refine Go.iload (pc' := 384) at_382 rfl rfl ?_
        refine Go.ifF (pc' := 387) (X := ex.toInt) at_384 rfl rfl (by omega : 0 < ex.toInt) ?_
        refine Go.iconst (pc' := 388) at_387 rfl (z := (1 : Int32)) (by decide) ?_
        refine Go.goto (pc' := 392) at_388 (by decide) ?_
        refine Go.icmpF (pc' := 395) (X := (1 : Int)) (Y := (1 : Int)) at_392 rfl (by decide) (by decide) (by decide : (1 : Int) = (1 : Int)) ?_
        refine Go.iconst (pc' := 396) at_395 rfl (z := (1 : Int32)) (by decide) ?_
        refine Go.goto (pc' := 400) at_396 (by decide) ?_
        refine Go.retZ at_400 rfl (by decide) (by decide) (by decide) ?_
        exact ⟨rfl, N0⟩
      · have _ := hex
        refine Go.lload (pc' := 358) at_356 rfl rfl ?_
        refine Go.lload (pc' := 360) at_358 rfl rfl ?_
        refine Go.lcmpF (pc' := 364) (X := res.toInt) (Y := want.toInt) at_360 at_361 rfl rfl rfl rfl (by rw [← hv_want]; exact congrArg _ (own_want v res (16383 : Int64) (7 * 2) (by decide) hres) : res.toInt = want.toInt) ?_
        refine Go.aload (pc' := 366) at_364 rfl rfl rfl ?_
        refine Go.callV0 (pc' := 369) (W := 0) (a := a61) (argsL := []) (rest := []) (v0 := some (.int pk)) (st2 := [(.int pk)]) at_366 rfl (hw _ w32) (hw _ w33) (nf_sel (hw _ w35)) (hw _ w35) (hw _ w34) (hw _ w10) (hw _ w36) E_a61 (by decide) (c_pos hw a61 arr pk ((2 : Int32) + ((2 : Int32) + ex)) E_a61 F_a61_bytes F_a61_position F_a61_end) (by decide) (by decide) rfl rfl rfl (by decide) (by decide) rfl pd__28_29I rfl rfl (Nat.le_of_eq rfl) ?_
        refine Go.iload (pc' := 371) at_369 rfl rfl ?_
        refine Go.iload (pc' := 373) at_371 rfl rfl ?_
        refine Go.iadd (pc' := 374) at_373 rfl (z := (4 : Int32)) (by decide) ?_
        refine Go.icmpF (pc' := 377) (X := pk.toInt) (Y := (4 : Int)) at_374 rfl rfl (by decide) (by omega : pk.toInt = (4 : Int)) ?_
        refine Go.aload (pc' := 379) at_377 rfl rfl rfl ?_
        refine Go.callV0 (pc' := 382) (W := 0) (a := a61) (argsL := []) (rest := []) (v0 := some (.int (0 : Int32))) (st2 := [(.int (0 : Int32))]) at_379 rfl (hw _ w37) (hw _ w38) (nf_sel (hw _ w40)) (hw _ w40) (hw _ w39) (hw _ w10) (hw _ w41) E_a61 (by decide) (c_has hw a61 arr pk ((2 : Int32) + ((2 : Int32) + ex)) (0 : Int32) E_a61 F_a61_bytes F_a61_position F_a61_end (if_neg (by omega))) (by decide) (by decide) rfl rfl rfl (by decide) (by decide) rfl pd__28_29Z rfl rfl (Nat.le_of_eq rfl) ?_
        refine Go.iload (pc' := 384) at_382 rfl rfl ?_
        refine Go.ifT (pc' := 391) (X := ex.toInt) at_384 (by decide) rfl (by omega : ¬ 0 < ex.toInt) ?_
        refine Go.iconst (pc' := 392) at_391 rfl (z := (0 : Int32)) (by decide) ?_
        refine Go.icmpF (pc' := 395) (X := (0 : Int)) (Y := (0 : Int)) at_392 rfl (by decide) (by decide) (by decide : (0 : Int) = (0 : Int)) ?_
        refine Go.iconst (pc' := 396) at_395 rfl (z := (1 : Int32)) (by decide) ?_
        refine Go.goto (pc' := 400) at_396 (by decide) ?_
        refine Go.retZ at_400 rfl (by decide) (by decide) (by decide) ?_
        exact ⟨rfl, N0⟩
    · subst hs64
      have kn : (3 : Int32).toInt = 3 := by decide
      obtain rfl : K = 3 := by omega
      refine Go.bipush (pc' := 331) at_329 rfl (z := (7 : Int32)) (by decide) ?_
      refine Go.iload (pc' := 333) at_331 rfl rfl ?_
      refine Go.imul (pc' := 334) at_333 rfl (z := (21 : Int32)) (by decide) ?_
      refine Go.bipush (pc' := 336) at_334 rfl (z := (64 : Int32)) (by decide) ?_
      refine Go.icmpT (pc' := 343) (X := (21 : Int)) (Y := (64 : Int)) at_336 (by decide) (by decide) (by decide) (by decide : (21 : Int) < (64 : Int)) ?_
      refine Go.lloadN (pc' := 344) at_343 rfl rfl ?_
      refine Go.lconst (pc' := 345) at_344 rfl (z := (1 : Int64)) (by decide) ?_
      refine Go.bipush (pc' := 347) at_345 rfl (z := (7 : Int32)) (by decide) ?_
      refine Go.iload (pc' := 349) at_347 rfl rfl ?_
      refine Go.imul (pc' := 350) at_349 rfl (z := (21 : Int32)) (by decide) ?_
      refine Go.lshl (pc' := 351) at_350 rfl (z := (2097152 : Int64)) (by decide) ?_
      refine Go.lconst (pc' := 352) at_351 rfl (z := (1 : Int64)) (by decide) ?_
      refine Go.lsub (pc' := 353) at_352 rfl (z := (2097151 : Int64)) (by decide) ?_
      refine Go.land (pc' := 354) at_353 rfl rfl ?_
      generalize hv_want : (v &&& (2097151 : Int64)) = want
      refine Go.lstore (pc' := 356) at_354 rfl (Ls' := #[.val (.long v), .second, .val (.int kq), .val (.int oo), .val (.int ee), .val (.int g), .val (.int (3 : Int32)), .val (.int (2 : Int32)), .val (.int ex), .val (.ref arr), .val (.ref a61), .val (.long res), .second, .val (.long want), .second]) rfl ?_
      
      by_cases hex : 0 < ex.toInt
      · have _ := hex
        refine Go.lload (pc' := 358) at_356 rfl rfl ?_
        refine Go.lload (pc' := 360) at_358 rfl rfl ?_
        refine Go.lcmpF (pc' := 364) (X := res.toInt) (Y := want.toInt) at_360 at_361 rfl rfl rfl rfl (by rw [← hv_want]; exact congrArg _ (own_want v res (2097151 : Int64) (7 * 3) (by decide) hres) : res.toInt = want.toInt) ?_
        refine Go.aload (pc' := 366) at_364 rfl rfl rfl ?_
        refine Go.callV0 (pc' := 369) (W := 0) (a := a61) (argsL := []) (rest := []) (v0 := some (.int pk)) (st2 := [(.int pk)]) at_366 rfl (hw _ w32) (hw _ w33) (nf_sel (hw _ w35)) (hw _ w35) (hw _ w34) (hw _ w10) (hw _ w36) E_a61 (by decide) (c_pos hw a61 arr pk ((2 : Int32) + ((3 : Int32) + ex)) E_a61 F_a61_bytes F_a61_position F_a61_end) (by decide) (by decide) rfl rfl rfl (by decide) (by decide) rfl pd__28_29I rfl rfl (Nat.le_of_eq rfl) ?_
        refine Go.iload (pc' := 371) at_369 rfl rfl ?_
        refine Go.iload (pc' := 373) at_371 rfl rfl ?_
        refine Go.iadd (pc' := 374) at_373 rfl (z := (5 : Int32)) (by decide) ?_
        refine Go.icmpF (pc' := 377) (X := pk.toInt) (Y := (5 : Int)) at_374 rfl rfl (by decide) (by omega : pk.toInt = (5 : Int)) ?_
        refine Go.aload (pc' := 379) at_377 rfl rfl rfl ?_
        refine Go.callV0 (pc' := 382) (W := 0) (a := a61) (argsL := []) (rest := []) (v0 := some (.int (1 : Int32))) (st2 := [(.int (1 : Int32))]) at_379 rfl (hw _ w37) (hw _ w38) (nf_sel (hw _ w40)) (hw _ w40) (hw _ w39) (hw _ w10) (hw _ w41) E_a61 (by decide) (c_has hw a61 arr pk ((2 : Int32) + ((3 : Int32) + ex)) (1 : Int32) E_a61 F_a61_bytes F_a61_position F_a61_end (if_pos (by omega))) (by decide) (by decide) rfl rfl rfl (by decide) (by decide) rfl pd__28_29Z rfl rfl (Nat.le_of_eq rfl) ?_
        refine Go.iload (pc' := 384) at_382 rfl rfl ?_
        refine Go.ifF (pc' := 387) (X := ex.toInt) at_384 rfl rfl (by omega : 0 < ex.toInt) ?_
        refine Go.iconst (pc' := 388) at_387 rfl (z := (1 : Int32)) (by decide) ?_
        refine Go.goto (pc' := 392) at_388 (by decide) ?_
        refine Go.icmpF (pc' := 395) (X := (1 : Int)) (Y := (1 : Int)) at_392 rfl (by decide) (by decide) (by decide : (1 : Int) = (1 : Int)) ?_
        refine Go.iconst (pc' := 396) at_395 rfl (z := (1 : Int32)) (by decide) ?_
        refine Go.goto (pc' := 400) at_396 (by decide) ?_
        refine Go.retZ at_400 rfl (by decide) (by decide) (by decide) ?_
        exact ⟨rfl, N0⟩
      · have _ := hex
        refine Go.lload (pc' := 358) at_356 rfl rfl ?_
        refine Go.lload (pc' := 360) at_358 rfl rfl ?_
        refine Go.lcmpF (pc' := 364) (X := res.toInt) (Y := want.toInt) at_360 at_361 rfl rfl rfl rfl (by rw [← hv_want]; exact congrArg _ (own_want v res (2097151 : Int64) (7 * 3) (by decide) hres) : res.toInt = want.toInt) ?_
        refine Go.aload (pc' := 366) at_364 rfl rfl rfl ?_
        refine Go.callV0 (pc' := 369) (W := 0) (a := a61) (argsL := []) (rest := []) (v0 := some (.int pk)) (st2 := [(.int pk)]) at_366 rfl (hw _ w32) (hw _ w33) (nf_sel (hw _ w35)) (hw _ w35) (hw _ w34) (hw _ w10) (hw _ w36) E_a61 (by decide) (c_pos hw a61 arr pk ((2 : Int32) + ((3 : Int32) + ex)) E_a61 F_a61_bytes F_a61_position F_a61_end) (by decide) (by decide) rfl rfl rfl (by decide) (by decide) rfl pd__28_29I rfl rfl (Nat.le_of_eq rfl) ?_
        refine Go.iload (pc' := 371) at_369 rfl rfl ?_
        refine Go.iload (pc' := 373) at_371 rfl rfl ?_
        refine Go.iadd (pc' := 374) at_373 rfl (z := (5 : Int32)) (by decide) ?_
        refine Go.icmpF (pc' := 377) (X := pk.toInt) (Y := (5 : Int)) at_374 rfl rfl (by decide) (by omega : pk.toInt = (5 : Int)) ?_
        refine Go.aload (pc' := 379) at_377 rfl rfl rfl ?_
        refine Go.callV0 (pc' := 382) (W := 0) (a := a61) (argsL := []) (rest := []) (v0 := some (.int (0 : Int32))) (st2 := [(.int (0 : Int32))]) at_379 rfl (hw _ w37) (hw _ w38) (nf_sel (hw _ w40)) (hw _ w40) (hw _ w39) (hw _ w10) (hw _ w41) E_a61 (by decide) (c_has hw a61 arr pk ((2 : Int32) + ((3 : Int32) + ex)) (0 : Int32) E_a61 F_a61_bytes F_a61_position F_a61_end (if_neg (by omega))) (by decide) (by decide) rfl rfl rfl (by decide) (by decide) rfl pd__28_29Z rfl rfl (Nat.le_of_eq rfl) ?_
        refine Go.iload (pc' := 384) at_382 rfl rfl ?_
        refine Go.ifT (pc' := 391) (X := ex.toInt) at_384 (by decide) rfl (by omega : ¬ 0 < ex.toInt) ?_
        refine Go.iconst (pc' := 392) at_391 rfl (z := (0 : Int32)) (by decide) ?_
        refine Go.icmpF (pc' := 395) (X := (0 : Int)) (Y := (0 : Int)) at_392 rfl (by decide) (by decide) (by decide : (0 : Int) = (0 : Int)) ?_
        refine Go.iconst (pc' := 396) at_395 rfl (z := (1 : Int32)) (by decide) ?_
        refine Go.goto (pc' := 400) at_396 (by decide) ?_
        refine Go.retZ at_400 rfl (by decide) (by decide) (by decide) ?_
        exact ⟨rfl, N0⟩
    · subst hs64
      have kn : (4 : Int32).toInt = 4 := by decide
      obtain rfl : K = 4 := by omega
      refine Go.bipush (pc' := 331) at_329 rfl (z := (7 : Int32)) (by decide) ?_
      refine Go.iload (pc' := 333) at_331 rfl rfl ?_
      refine Go.imul (pc' := 334) at_333 rfl (z := (28 : Int32)) (by decide) ?_
      refine Go.bipush (pc' := 336) at_334 rfl (z := (64 : Int32)) (by decide) ?_
      refine Go.icmpT (pc' := 343) (X := (28 : Int)) (Y := (64 : Int)) at_336 (by decide) (by decide) (by decide) (by decide : (28 : Int) < (64 : Int)) ?_
      refine Go.lloadN (pc' := 344) at_343 rfl rfl ?_
      refine Go.lconst (pc' := 345) at_344 rfl (z := (1 : Int64)) (by decide) ?_
      refine Go.bipush (pc' := 347) at_345 rfl (z := (7 : Int32)) (by decide) ?_
      refine Go.iload (pc' := 349) at_347 rfl rfl ?_
      refine Go.imul (pc' := 350) at_349 rfl (z := (28 : Int32)) (by decide) ?_
      refine Go.lshl (pc' := 351) at_350 rfl (z := (268435456 : Int64)) (by decide) ?_
      refine Go.lconst (pc' := 352) at_351 rfl (z := (1 : Int64)) (by decide) ?_
      refine Go.lsub (pc' := 353) at_352 rfl (z := (268435455 : Int64)) (by decide) ?_
      refine Go.land (pc' := 354) at_353 rfl rfl ?_
      generalize hv_want : (v &&& (268435455 : Int64)) = want
      refine Go.lstore (pc' := 356) at_354 rfl (Ls' := #[.val (.long v), .second, .val (.int kq), .val (.int oo), .val (.int ee), .val (.int g), .val (.int (4 : Int32)), .val (.int (2 : Int32)), .val (.int ex), .val (.ref arr), .val (.ref a61), .val (.long res), .second, .val (.long want), .second]) rfl ?_
      
      by_cases hex : 0 < ex.toInt
      · have _ := hex
        refine Go.lload (pc' := 358) at_356 rfl rfl ?_
        refine Go.lload (pc' := 360) at_358 rfl rfl ?_
        refine Go.lcmpF (pc' := 364) (X := res.toInt) (Y := want.toInt) at_360 at_361 rfl rfl rfl rfl (by rw [← hv_want]; exact congrArg _ (own_want v res (268435455 : Int64) (7 * 4) (by decide) hres) : res.toInt = want.toInt) ?_
        refine Go.aload (pc' := 366) at_364 rfl rfl rfl ?_
        refine Go.callV0 (pc' := 369) (W := 0) (a := a61) (argsL := []) (rest := []) (v0 := some (.int pk)) (st2 := [(.int pk)]) at_366 rfl (hw _ w32) (hw _ w33) (nf_sel (hw _ w35)) (hw _ w35) (hw _ w34) (hw _ w10) (hw _ w36) E_a61 (by decide) (c_pos hw a61 arr pk ((2 : Int32) + ((4 : Int32) + ex)) E_a61 F_a61_bytes F_a61_position F_a61_end) (by decide) (by decide) rfl rfl rfl (by decide) (by decide) rfl pd__28_29I rfl rfl (Nat.le_of_eq rfl) ?_
        refine Go.iload (pc' := 371) at_369 rfl rfl ?_
        refine Go.iload (pc' := 373) at_371 rfl rfl ?_
        refine Go.iadd (pc' := 374) at_373 rfl (z := (6 : Int32)) (by decide) ?_
        refine Go.icmpF (pc' := 377) (X := pk.toInt) (Y := (6 : Int)) at_374 rfl rfl (by decide) (by omega : pk.toInt = (6 : Int)) ?_
        refine Go.aload (pc' := 379) at_377 rfl rfl rfl ?_
        refine Go.callV0 (pc' := 382) (W := 0) (a := a61) (argsL := []) (rest := []) (v0 := some (.int (1 : Int32))) (st2 := [(.int (1 : Int32))]) at_379 rfl (hw _ w37) (hw _ w38) (nf_sel (hw _ w40)) (hw _ w40) (hw _ w39) (hw _ w10) (hw _ w41) E_a61 (by decide) (c_has hw a61 arr pk ((2 : Int32) + ((4 : Int32) + ex)) (1 : Int32) E_a61 F_a61_bytes F_a61_position F_a61_end (if_pos (by omega))) (by decide) (by decide) rfl rfl rfl (by decide) (by decide) rfl pd__28_29Z rfl rfl (Nat.le_of_eq rfl) ?_
        refine Go.iload (pc' := 384) at_382 rfl rfl ?_
        refine Go.ifF (pc' := 387) (X := ex.toInt) at_384 rfl rfl (by omega : 0 < ex.toInt) ?_
        refine Go.iconst (pc' := 388) at_387 rfl (z := (1 : Int32)) (by decide) ?_
        refine Go.goto (pc' := 392) at_388 (by decide) ?_
        refine Go.icmpF (pc' := 395) (X := (1 : Int)) (Y := (1 : Int)) at_392 rfl (by decide) (by decide) (by decide : (1 : Int) = (1 : Int)) ?_
        refine Go.iconst (pc' := 396) at_395 rfl (z := (1 : Int32)) (by decide) ?_
        refine Go.goto (pc' := 400) at_396 (by decide) ?_
        refine Go.retZ at_400 rfl (by decide) (by decide) (by decide) ?_
        exact ⟨rfl, N0⟩
      · have _ := hex
        refine Go.lload (pc' := 358) at_356 rfl rfl ?_
        refine Go.lload (pc' := 360) at_358 rfl rfl ?_
        refine Go.lcmpF (pc' := 364) (X := res.toInt) (Y := want.toInt) at_360 at_361 rfl rfl rfl rfl (by rw [← hv_want]; exact congrArg _ (own_want v res (268435455 : Int64) (7 * 4) (by decide) hres) : res.toInt = want.toInt) ?_
        refine Go.aload (pc' := 366) at_364 rfl rfl rfl ?_
        refine Go.callV0 (pc' := 369) (W := 0) (a := a61) (argsL := []) (rest := []) (v0 := some (.int pk)) (st2 := [(.int pk)]) at_366 rfl (hw _ w32) (hw _ w33) (nf_sel (hw _ w35)) (hw _ w35) (hw _ w34) (hw _ w10) (hw _ w36) E_a61 (by decide) (c_pos hw a61 arr pk ((2 : Int32) + ((4 : Int32) + ex)) E_a61 F_a61_bytes F_a61_position F_a61_end) (by decide) (by decide) rfl rfl rfl (by decide) (by decide) rfl pd__28_29I rfl rfl (Nat.le_of_eq rfl) ?_
        refine Go.iload (pc' := 371) at_369 rfl rfl ?_
        refine Go.iload (pc' := 373) at_371 rfl rfl ?_
        refine Go.iadd (pc' := 374) at_373 rfl (z := (6 : Int32)) (by decide) ?_
        refine Go.icmpF (pc' := 377) (X := pk.toInt) (Y := (6 : Int)) at_374 rfl rfl (by decide) (by omega : pk.toInt = (6 : Int)) ?_
        refine Go.aload (pc' := 379) at_377 rfl rfl rfl ?_
        refine Go.callV0 (pc' := 382) (W := 0) (a := a61) (argsL := []) (rest := []) (v0 := some (.int (0 : Int32))) (st2 := [(.int (0 : Int32))]) at_379 rfl (hw _ w37) (hw _ w38) (nf_sel (hw _ w40)) (hw _ w40) (hw _ w39) (hw _ w10) (hw _ w41) E_a61 (by decide) (c_has hw a61 arr pk ((2 : Int32) + ((4 : Int32) + ex)) (0 : Int32) E_a61 F_a61_bytes F_a61_position F_a61_end (if_neg (by omega))) (by decide) (by decide) rfl rfl rfl (by decide) (by decide) rfl pd__28_29Z rfl rfl (Nat.le_of_eq rfl) ?_
        refine Go.iload (pc' := 384) at_382 rfl rfl ?_
        refine Go.ifT (pc' := 391) (X := ex.toInt) at_384 (by decide) rfl (by omega : ¬ 0 < ex.toInt) ?_
        refine Go.iconst (pc' := 392) at_391 rfl (z := (0 : Int32)) (by decide) ?_
        refine Go.icmpF (pc' := 395) (X := (0 : Int)) (Y := (0 : Int)) at_392 rfl (by decide) (by decide) (by decide : (0 : Int) = (0 : Int)) ?_
        refine Go.iconst (pc' := 396) at_395 rfl (z := (1 : Int32)) (by decide) ?_
        refine Go.goto (pc' := 400) at_396 (by decide) ?_
        refine Go.retZ at_400 rfl (by decide) (by decide) (by decide) ?_
        exact ⟨rfl, N0⟩
    · subst hs64
      have kn : (5 : Int32).toInt = 5 := by decide
      obtain rfl : K = 5 := by omega
      refine Go.bipush (pc' := 331) at_329 rfl (z := (7 : Int32)) (by decide) ?_
      refine Go.iload (pc' := 333) at_331 rfl rfl ?_
      refine Go.imul (pc' := 334) at_333 rfl (z := (35 : Int32)) (by decide) ?_
      refine Go.bipush (pc' := 336) at_334 rfl (z := (64 : Int32)) (by decide) ?_
      refine Go.icmpT (pc' := 343) (X := (35 : Int)) (Y := (64 : Int)) at_336 (by decide) (by decide) (by decide) (by decide : (35 : Int) < (64 : Int)) ?_
      refine Go.lloadN (pc' := 344) at_343 rfl rfl ?_
      refine Go.lconst (pc' := 345) at_344 rfl (z := (1 : Int64)) (by decide) ?_
      refine Go.bipush (pc' := 347) at_345 rfl (z := (7 : Int32)) (by decide) ?_
      refine Go.iload (pc' := 349) at_347 rfl rfl ?_
      refine Go.imul (pc' := 350) at_349 rfl (z := (35 : Int32)) (by decide) ?_
      refine Go.lshl (pc' := 351) at_350 rfl (z := (34359738368 : Int64)) (by decide) ?_
      refine Go.lconst (pc' := 352) at_351 rfl (z := (1 : Int64)) (by decide) ?_
      refine Go.lsub (pc' := 353) at_352 rfl (z := (34359738367 : Int64)) (by decide) ?_
      refine Go.land (pc' := 354) at_353 rfl rfl ?_
      generalize hv_want : (v &&& (34359738367 : Int64)) = want
      refine Go.lstore (pc' := 356) at_354 rfl (Ls' := #[.val (.long v), .second, .val (.int kq), .val (.int oo), .val (.int ee), .val (.int g), .val (.int (5 : Int32)), .val (.int (2 : Int32)), .val (.int ex), .val (.ref arr), .val (.ref a61), .val (.long res), .second, .val (.long want), .second]) rfl ?_
      
      by_cases hex : 0 < ex.toInt
      · have _ := hex
        refine Go.lload (pc' := 358) at_356 rfl rfl ?_
        refine Go.lload (pc' := 360) at_358 rfl rfl ?_
        refine Go.lcmpF (pc' := 364) (X := res.toInt) (Y := want.toInt) at_360 at_361 rfl rfl rfl rfl (by rw [← hv_want]; exact congrArg _ (own_want v res (34359738367 : Int64) (7 * 5) (by decide) hres) : res.toInt = want.toInt) ?_
        refine Go.aload (pc' := 366) at_364 rfl rfl rfl ?_
        refine Go.callV0 (pc' := 369) (W := 0) (a := a61) (argsL := []) (rest := []) (v0 := some (.int pk)) (st2 := [(.int pk)]) at_366 rfl (hw _ w32) (hw _ w33) (nf_sel (hw _ w35)) (hw _ w35) (hw _ w34) (hw _ w10) (hw _ w36) E_a61 (by decide) (c_pos hw a61 arr pk ((2 : Int32) + ((5 : Int32) + ex)) E_a61 F_a61_bytes F_a61_position F_a61_end) (by decide) (by decide) rfl rfl rfl (by decide) (by decide) rfl pd__28_29I rfl rfl (Nat.le_of_eq rfl) ?_
        refine Go.iload (pc' := 371) at_369 rfl rfl ?_
        refine Go.iload (pc' := 373) at_371 rfl rfl ?_
        refine Go.iadd (pc' := 374) at_373 rfl (z := (7 : Int32)) (by decide) ?_
        refine Go.icmpF (pc' := 377) (X := pk.toInt) (Y := (7 : Int)) at_374 rfl rfl (by decide) (by omega : pk.toInt = (7 : Int)) ?_
        refine Go.aload (pc' := 379) at_377 rfl rfl rfl ?_
        refine Go.callV0 (pc' := 382) (W := 0) (a := a61) (argsL := []) (rest := []) (v0 := some (.int (1 : Int32))) (st2 := [(.int (1 : Int32))]) at_379 rfl (hw _ w37) (hw _ w38) (nf_sel (hw _ w40)) (hw _ w40) (hw _ w39) (hw _ w10) (hw _ w41) E_a61 (by decide) (c_has hw a61 arr pk ((2 : Int32) + ((5 : Int32) + ex)) (1 : Int32) E_a61 F_a61_bytes F_a61_position F_a61_end (if_pos (by omega))) (by decide) (by decide) rfl rfl rfl (by decide) (by decide) rfl pd__28_29Z rfl rfl (Nat.le_of_eq rfl) ?_
        refine Go.iload (pc' := 384) at_382 rfl rfl ?_
        refine Go.ifF (pc' := 387) (X := ex.toInt) at_384 rfl rfl (by omega : 0 < ex.toInt) ?_
        refine Go.iconst (pc' := 388) at_387 rfl (z := (1 : Int32)) (by decide) ?_
        refine Go.goto (pc' := 392) at_388 (by decide) ?_
        refine Go.icmpF (pc' := 395) (X := (1 : Int)) (Y := (1 : Int)) at_392 rfl (by decide) (by decide) (by decide : (1 : Int) = (1 : Int)) ?_
        refine Go.iconst (pc' := 396) at_395 rfl (z := (1 : Int32)) (by decide) ?_
        refine Go.goto (pc' := 400) at_396 (by decide) ?_
        refine Go.retZ at_400 rfl (by decide) (by decide) (by decide) ?_
        exact ⟨rfl, N0⟩
      · have _ := hex
        refine Go.lload (pc' := 358) at_356 rfl rfl ?_
        refine Go.lload (pc' := 360) at_358 rfl rfl ?_
        refine Go.lcmpF (pc' := 364) (X := res.toInt) (Y := want.toInt) at_360 at_361 rfl rfl rfl rfl (by rw [← hv_want]; exact congrArg _ (own_want v res (34359738367 : Int64) (7 * 5) (by decide) hres) : res.toInt = want.toInt) ?_
        refine Go.aload (pc' := 366) at_364 rfl rfl rfl ?_
        refine Go.callV0 (pc' := 369) (W := 0) (a := a61) (argsL := []) (rest := []) (v0 := some (.int pk)) (st2 := [(.int pk)]) at_366 rfl (hw _ w32) (hw _ w33) (nf_sel (hw _ w35)) (hw _ w35) (hw _ w34) (hw _ w10) (hw _ w36) E_a61 (by decide) (c_pos hw a61 arr pk ((2 : Int32) + ((5 : Int32) + ex)) E_a61 F_a61_bytes F_a61_position F_a61_end) (by decide) (by decide) rfl rfl rfl (by decide) (by decide) rfl pd__28_29I rfl rfl (Nat.le_of_eq rfl) ?_
        refine Go.iload (pc' := 371) at_369 rfl rfl ?_
        refine Go.iload (pc' := 373) at_371 rfl rfl ?_
        refine Go.iadd (pc' := 374) at_373 rfl (z := (7 : Int32)) (by decide) ?_
        refine Go.icmpF (pc' := 377) (X := pk.toInt) (Y := (7 : Int)) at_374 rfl rfl (by decide) (by omega : pk.toInt = (7 : Int)) ?_
        refine Go.aload (pc' := 379) at_377 rfl rfl rfl ?_
        refine Go.callV0 (pc' := 382) (W := 0) (a := a61) (argsL := []) (rest := []) (v0 := some (.int (0 : Int32))) (st2 := [(.int (0 : Int32))]) at_379 rfl (hw _ w37) (hw _ w38) (nf_sel (hw _ w40)) (hw _ w40) (hw _ w39) (hw _ w10) (hw _ w41) E_a61 (by decide) (c_has hw a61 arr pk ((2 : Int32) + ((5 : Int32) + ex)) (0 : Int32) E_a61 F_a61_bytes F_a61_position F_a61_end (if_neg (by omega))) (by decide) (by decide) rfl rfl rfl (by decide) (by decide) rfl pd__28_29Z rfl rfl (Nat.le_of_eq rfl) ?_
        refine Go.iload (pc' := 384) at_382 rfl rfl ?_
        refine Go.ifT (pc' := 391) (X := ex.toInt) at_384 (by decide) rfl (by omega : ¬ 0 < ex.toInt) ?_
        refine Go.iconst (pc' := 392) at_391 rfl (z := (0 : Int32)) (by decide) ?_
        refine Go.icmpF (pc' := 395) (X := (0 : Int)) (Y := (0 : Int)) at_392 rfl (by decide) (by decide) (by decide : (0 : Int) = (0 : Int)) ?_
        refine Go.iconst (pc' := 396) at_395 rfl (z := (1 : Int32)) (by decide) ?_
        refine Go.goto (pc' := 400) at_396 (by decide) ?_
        refine Go.retZ at_400 rfl (by decide) (by decide) (by decide) ?_
        exact ⟨rfl, N0⟩
    · subst hs64
      have kn : (6 : Int32).toInt = 6 := by decide
      obtain rfl : K = 6 := by omega
      refine Go.bipush (pc' := 331) at_329 rfl (z := (7 : Int32)) (by decide) ?_
      refine Go.iload (pc' := 333) at_331 rfl rfl ?_
      refine Go.imul (pc' := 334) at_333 rfl (z := (42 : Int32)) (by decide) ?_
      refine Go.bipush (pc' := 336) at_334 rfl (z := (64 : Int32)) (by decide) ?_
      refine Go.icmpT (pc' := 343) (X := (42 : Int)) (Y := (64 : Int)) at_336 (by decide) (by decide) (by decide) (by decide : (42 : Int) < (64 : Int)) ?_
      refine Go.lloadN (pc' := 344) at_343 rfl rfl ?_
      refine Go.lconst (pc' := 345) at_344 rfl (z := (1 : Int64)) (by decide) ?_
      refine Go.bipush (pc' := 347) at_345 rfl (z := (7 : Int32)) (by decide) ?_
      refine Go.iload (pc' := 349) at_347 rfl rfl ?_
      refine Go.imul (pc' := 350) at_349 rfl (z := (42 : Int32)) (by decide) ?_
      refine Go.lshl (pc' := 351) at_350 rfl (z := (4398046511104 : Int64)) (by decide) ?_
      refine Go.lconst (pc' := 352) at_351 rfl (z := (1 : Int64)) (by decide) ?_
      refine Go.lsub (pc' := 353) at_352 rfl (z := (4398046511103 : Int64)) (by decide) ?_
      refine Go.land (pc' := 354) at_353 rfl rfl ?_
      generalize hv_want : (v &&& (4398046511103 : Int64)) = want
      refine Go.lstore (pc' := 356) at_354 rfl (Ls' := #[.val (.long v), .second, .val (.int kq), .val (.int oo), .val (.int ee), .val (.int g), .val (.int (6 : Int32)), .val (.int (2 : Int32)), .val (.int ex), .val (.ref arr), .val (.ref a61), .val (.long res), .second, .val (.long want), .second]) rfl ?_
      
      by_cases hex : 0 < ex.toInt
      · have _ := hex
        refine Go.lload (pc' := 358) at_356 rfl rfl ?_
        refine Go.lload (pc' := 360) at_358 rfl rfl ?_
        refine Go.lcmpF (pc' := 364) (X := res.toInt) (Y := want.toInt) at_360 at_361 rfl rfl rfl rfl (by rw [← hv_want]; exact congrArg _ (own_want v res (4398046511103 : Int64) (7 * 6) (by decide) hres) : res.toInt = want.toInt) ?_
        refine Go.aload (pc' := 366) at_364 rfl rfl rfl ?_
        refine Go.callV0 (pc' := 369) (W := 0) (a := a61) (argsL := []) (rest := []) (v0 := some (.int pk)) (st2 := [(.int pk)]) at_366 rfl (hw _ w32) (hw _ w33) (nf_sel (hw _ w35)) (hw _ w35) (hw _ w34) (hw _ w10) (hw _ w36) E_a61 (by decide) (c_pos hw a61 arr pk ((2 : Int32) + ((6 : Int32) + ex)) E_a61 F_a61_bytes F_a61_position F_a61_end) (by decide) (by decide) rfl rfl rfl (by decide) (by decide) rfl pd__28_29I rfl rfl (Nat.le_of_eq rfl) ?_
        refine Go.iload (pc' := 371) at_369 rfl rfl ?_
        refine Go.iload (pc' := 373) at_371 rfl rfl ?_
        refine Go.iadd (pc' := 374) at_373 rfl (z := (8 : Int32)) (by decide) ?_
        refine Go.icmpF (pc' := 377) (X := pk.toInt) (Y := (8 : Int)) at_374 rfl rfl (by decide) (by omega : pk.toInt = (8 : Int)) ?_
        refine Go.aload (pc' := 379) at_377 rfl rfl rfl ?_
        refine Go.callV0 (pc' := 382) (W := 0) (a := a61) (argsL := []) (rest := []) (v0 := some (.int (1 : Int32))) (st2 := [(.int (1 : Int32))]) at_379 rfl (hw _ w37) (hw _ w38) (nf_sel (hw _ w40)) (hw _ w40) (hw _ w39) (hw _ w10) (hw _ w41) E_a61 (by decide) (c_has hw a61 arr pk ((2 : Int32) + ((6 : Int32) + ex)) (1 : Int32) E_a61 F_a61_bytes F_a61_position F_a61_end (if_pos (by omega))) (by decide) (by decide) rfl rfl rfl (by decide) (by decide) rfl pd__28_29Z rfl rfl (Nat.le_of_eq rfl) ?_
        refine Go.iload (pc' := 384) at_382 rfl rfl ?_
        refine Go.ifF (pc' := 387) (X := ex.toInt) at_384 rfl rfl (by omega : 0 < ex.toInt) ?_
        refine Go.iconst (pc' := 388) at_387 rfl (z := (1 : Int32)) (by decide) ?_
        refine Go.goto (pc' := 392) at_388 (by decide) ?_
        refine Go.icmpF (pc' := 395) (X := (1 : Int)) (Y := (1 : Int)) at_392 rfl (by decide) (by decide) (by decide : (1 : Int) = (1 : Int)) ?_
        refine Go.iconst (pc' := 396) at_395 rfl (z := (1 : Int32)) (by decide) ?_
        refine Go.goto (pc' := 400) at_396 (by decide) ?_
        refine Go.retZ at_400 rfl (by decide) (by decide) (by decide) ?_
        exact ⟨rfl, N0⟩
      · have _ := hex
        refine Go.lload (pc' := 358) at_356 rfl rfl ?_
        refine Go.lload (pc' := 360) at_358 rfl rfl ?_
        refine Go.lcmpF (pc' := 364) (X := res.toInt) (Y := want.toInt) at_360 at_361 rfl rfl rfl rfl (by rw [← hv_want]; exact congrArg _ (own_want v res (4398046511103 : Int64) (7 * 6) (by decide) hres) : res.toInt = want.toInt) ?_
        refine Go.aload (pc' := 366) at_364 rfl rfl rfl ?_
        refine Go.callV0 (pc' := 369) (W := 0) (a := a61) (argsL := []) (rest := []) (v0 := some (.int pk)) (st2 := [(.int pk)]) at_366 rfl (hw _ w32) (hw _ w33) (nf_sel (hw _ w35)) (hw _ w35) (hw _ w34) (hw _ w10) (hw _ w36) E_a61 (by decide) (c_pos hw a61 arr pk ((2 : Int32) + ((6 : Int32) + ex)) E_a61 F_a61_bytes F_a61_position F_a61_end) (by decide) (by decide) rfl rfl rfl (by decide) (by decide) rfl pd__28_29I rfl rfl (Nat.le_of_eq rfl) ?_
        refine Go.iload (pc' := 371) at_369 rfl rfl ?_
        refine Go.iload (pc' := 373) at_371 rfl rfl ?_
        refine Go.iadd (pc' := 374) at_373 rfl (z := (8 : Int32)) (by decide) ?_
        refine Go.icmpF (pc' := 377) (X := pk.toInt) (Y := (8 : Int)) at_374 rfl rfl (by decide) (by omega : pk.toInt = (8 : Int)) ?_
        refine Go.aload (pc' := 379) at_377 rfl rfl rfl ?_
        refine Go.callV0 (pc' := 382) (W := 0) (a := a61) (argsL := []) (rest := []) (v0 := some (.int (0 : Int32))) (st2 := [(.int (0 : Int32))]) at_379 rfl (hw _ w37) (hw _ w38) (nf_sel (hw _ w40)) (hw _ w40) (hw _ w39) (hw _ w10) (hw _ w41) E_a61 (by decide) (c_has hw a61 arr pk ((2 : Int32) + ((6 : Int32) + ex)) (0 : Int32) E_a61 F_a61_bytes F_a61_position F_a61_end (if_neg (by omega))) (by decide) (by decide) rfl rfl rfl (by decide) (by decide) rfl pd__28_29Z rfl rfl (Nat.le_of_eq rfl) ?_
        refine Go.iload (pc' := 384) at_382 rfl rfl ?_
        refine Go.ifT (pc' := 391) (X := ex.toInt) at_384 (by decide) rfl (by omega : ¬ 0 < ex.toInt) ?_
        refine Go.iconst (pc' := 392) at_391 rfl (z := (0 : Int32)) (by decide) ?_
        refine Go.icmpF (pc' := 395) (X := (0 : Int)) (Y := (0 : Int)) at_392 rfl (by decide) (by decide) (by decide : (0 : Int) = (0 : Int)) ?_
        refine Go.iconst (pc' := 396) at_395 rfl (z := (1 : Int32)) (by decide) ?_
        refine Go.goto (pc' := 400) at_396 (by decide) ?_
        refine Go.retZ at_400 rfl (by decide) (by decide) (by decide) ?_
        exact ⟨rfl, N0⟩
    · subst hs64
      have kn : (7 : Int32).toInt = 7 := by decide
      obtain rfl : K = 7 := by omega
      refine Go.bipush (pc' := 331) at_329 rfl (z := (7 : Int32)) (by decide) ?_
      refine Go.iload (pc' := 333) at_331 rfl rfl ?_
      refine Go.imul (pc' := 334) at_333 rfl (z := (49 : Int32)) (by decide) ?_
      refine Go.bipush (pc' := 336) at_334 rfl (z := (64 : Int32)) (by decide) ?_
      refine Go.icmpT (pc' := 343) (X := (49 : Int)) (Y := (64 : Int)) at_336 (by decide) (by decide) (by decide) (by decide : (49 : Int) < (64 : Int)) ?_
      refine Go.lloadN (pc' := 344) at_343 rfl rfl ?_
      refine Go.lconst (pc' := 345) at_344 rfl (z := (1 : Int64)) (by decide) ?_
      refine Go.bipush (pc' := 347) at_345 rfl (z := (7 : Int32)) (by decide) ?_
      refine Go.iload (pc' := 349) at_347 rfl rfl ?_
      refine Go.imul (pc' := 350) at_349 rfl (z := (49 : Int32)) (by decide) ?_
      refine Go.lshl (pc' := 351) at_350 rfl (z := (562949953421312 : Int64)) (by decide) ?_
      refine Go.lconst (pc' := 352) at_351 rfl (z := (1 : Int64)) (by decide) ?_
      refine Go.lsub (pc' := 353) at_352 rfl (z := (562949953421311 : Int64)) (by decide) ?_
      refine Go.land (pc' := 354) at_353 rfl rfl ?_
      generalize hv_want : (v &&& (562949953421311 : Int64)) = want
      refine Go.lstore (pc' := 356) at_354 rfl (Ls' := #[.val (.long v), .second, .val (.int kq), .val (.int oo), .val (.int ee), .val (.int g), .val (.int (7 : Int32)), .val (.int (2 : Int32)), .val (.int ex), .val (.ref arr), .val (.ref a61), .val (.long res), .second, .val (.long want), .second]) rfl ?_
      
      by_cases hex : 0 < ex.toInt
      · have _ := hex
        refine Go.lload (pc' := 358) at_356 rfl rfl ?_
        refine Go.lload (pc' := 360) at_358 rfl rfl ?_
        refine Go.lcmpF (pc' := 364) (X := res.toInt) (Y := want.toInt) at_360 at_361 rfl rfl rfl rfl (by rw [← hv_want]; exact congrArg _ (own_want v res (562949953421311 : Int64) (7 * 7) (by decide) hres) : res.toInt = want.toInt) ?_
        refine Go.aload (pc' := 366) at_364 rfl rfl rfl ?_
        refine Go.callV0 (pc' := 369) (W := 0) (a := a61) (argsL := []) (rest := []) (v0 := some (.int pk)) (st2 := [(.int pk)]) at_366 rfl (hw _ w32) (hw _ w33) (nf_sel (hw _ w35)) (hw _ w35) (hw _ w34) (hw _ w10) (hw _ w36) E_a61 (by decide) (c_pos hw a61 arr pk ((2 : Int32) + ((7 : Int32) + ex)) E_a61 F_a61_bytes F_a61_position F_a61_end) (by decide) (by decide) rfl rfl rfl (by decide) (by decide) rfl pd__28_29I rfl rfl (Nat.le_of_eq rfl) ?_
        refine Go.iload (pc' := 371) at_369 rfl rfl ?_
        refine Go.iload (pc' := 373) at_371 rfl rfl ?_
        refine Go.iadd (pc' := 374) at_373 rfl (z := (9 : Int32)) (by decide) ?_
        refine Go.icmpF (pc' := 377) (X := pk.toInt) (Y := (9 : Int)) at_374 rfl rfl (by decide) (by omega : pk.toInt = (9 : Int)) ?_
        refine Go.aload (pc' := 379) at_377 rfl rfl rfl ?_
        refine Go.callV0 (pc' := 382) (W := 0) (a := a61) (argsL := []) (rest := []) (v0 := some (.int (1 : Int32))) (st2 := [(.int (1 : Int32))]) at_379 rfl (hw _ w37) (hw _ w38) (nf_sel (hw _ w40)) (hw _ w40) (hw _ w39) (hw _ w10) (hw _ w41) E_a61 (by decide) (c_has hw a61 arr pk ((2 : Int32) + ((7 : Int32) + ex)) (1 : Int32) E_a61 F_a61_bytes F_a61_position F_a61_end (if_pos (by omega))) (by decide) (by decide) rfl rfl rfl (by decide) (by decide) rfl pd__28_29Z rfl rfl (Nat.le_of_eq rfl) ?_
        refine Go.iload (pc' := 384) at_382 rfl rfl ?_
        refine Go.ifF (pc' := 387) (X := ex.toInt) at_384 rfl rfl (by omega : 0 < ex.toInt) ?_
        refine Go.iconst (pc' := 388) at_387 rfl (z := (1 : Int32)) (by decide) ?_
        refine Go.goto (pc' := 392) at_388 (by decide) ?_
        refine Go.icmpF (pc' := 395) (X := (1 : Int)) (Y := (1 : Int)) at_392 rfl (by decide) (by decide) (by decide : (1 : Int) = (1 : Int)) ?_
        refine Go.iconst (pc' := 396) at_395 rfl (z := (1 : Int32)) (by decide) ?_
        refine Go.goto (pc' := 400) at_396 (by decide) ?_
        refine Go.retZ at_400 rfl (by decide) (by decide) (by decide) ?_
        exact ⟨rfl, N0⟩
      · have _ := hex
        refine Go.lload (pc' := 358) at_356 rfl rfl ?_
        refine Go.lload (pc' := 360) at_358 rfl rfl ?_
        refine Go.lcmpF (pc' := 364) (X := res.toInt) (Y := want.toInt) at_360 at_361 rfl rfl rfl rfl (by rw [← hv_want]; exact congrArg _ (own_want v res (562949953421311 : Int64) (7 * 7) (by decide) hres) : res.toInt = want.toInt) ?_
        refine Go.aload (pc' := 366) at_364 rfl rfl rfl ?_
        refine Go.callV0 (pc' := 369) (W := 0) (a := a61) (argsL := []) (rest := []) (v0 := some (.int pk)) (st2 := [(.int pk)]) at_366 rfl (hw _ w32) (hw _ w33) (nf_sel (hw _ w35)) (hw _ w35) (hw _ w34) (hw _ w10) (hw _ w36) E_a61 (by decide) (c_pos hw a61 arr pk ((2 : Int32) + ((7 : Int32) + ex)) E_a61 F_a61_bytes F_a61_position F_a61_end) (by decide) (by decide) rfl rfl rfl (by decide) (by decide) rfl pd__28_29I rfl rfl (Nat.le_of_eq rfl) ?_
        refine Go.iload (pc' := 371) at_369 rfl rfl ?_
        refine Go.iload (pc' := 373) at_371 rfl rfl ?_
        refine Go.iadd (pc' := 374) at_373 rfl (z := (9 : Int32)) (by decide) ?_
        refine Go.icmpF (pc' := 377) (X := pk.toInt) (Y := (9 : Int)) at_374 rfl rfl (by decide) (by omega : pk.toInt = (9 : Int)) ?_
        refine Go.aload (pc' := 379) at_377 rfl rfl rfl ?_
        refine Go.callV0 (pc' := 382) (W := 0) (a := a61) (argsL := []) (rest := []) (v0 := some (.int (0 : Int32))) (st2 := [(.int (0 : Int32))]) at_379 rfl (hw _ w37) (hw _ w38) (nf_sel (hw _ w40)) (hw _ w40) (hw _ w39) (hw _ w10) (hw _ w41) E_a61 (by decide) (c_has hw a61 arr pk ((2 : Int32) + ((7 : Int32) + ex)) (0 : Int32) E_a61 F_a61_bytes F_a61_position F_a61_end (if_neg (by omega))) (by decide) (by decide) rfl rfl rfl (by decide) (by decide) rfl pd__28_29Z rfl rfl (Nat.le_of_eq rfl) ?_
        refine Go.iload (pc' := 384) at_382 rfl rfl ?_
        refine Go.ifT (pc' := 391) (X := ex.toInt) at_384 (by decide) rfl (by omega : ¬ 0 < ex.toInt) ?_
        refine Go.iconst (pc' := 392) at_391 rfl (z := (0 : Int32)) (by decide) ?_
        refine Go.icmpF (pc' := 395) (X := (0 : Int)) (Y := (0 : Int)) at_392 rfl (by decide) (by decide) (by decide : (0 : Int) = (0 : Int)) ?_
        refine Go.iconst (pc' := 396) at_395 rfl (z := (1 : Int32)) (by decide) ?_
        refine Go.goto (pc' := 400) at_396 (by decide) ?_
        refine Go.retZ at_400 rfl (by decide) (by decide) (by decide) ?_
        exact ⟨rfl, N0⟩
    · subst hs64
      have kn : (8 : Int32).toInt = 8 := by decide
      obtain rfl : K = 8 := by omega
      refine Go.bipush (pc' := 331) at_329 rfl (z := (7 : Int32)) (by decide) ?_
      refine Go.iload (pc' := 333) at_331 rfl rfl ?_
      refine Go.imul (pc' := 334) at_333 rfl (z := (56 : Int32)) (by decide) ?_
      refine Go.bipush (pc' := 336) at_334 rfl (z := (64 : Int32)) (by decide) ?_
      refine Go.icmpT (pc' := 343) (X := (56 : Int)) (Y := (64 : Int)) at_336 (by decide) (by decide) (by decide) (by decide : (56 : Int) < (64 : Int)) ?_
      refine Go.lloadN (pc' := 344) at_343 rfl rfl ?_
      refine Go.lconst (pc' := 345) at_344 rfl (z := (1 : Int64)) (by decide) ?_
      refine Go.bipush (pc' := 347) at_345 rfl (z := (7 : Int32)) (by decide) ?_
      refine Go.iload (pc' := 349) at_347 rfl rfl ?_
      refine Go.imul (pc' := 350) at_349 rfl (z := (56 : Int32)) (by decide) ?_
      refine Go.lshl (pc' := 351) at_350 rfl (z := (72057594037927936 : Int64)) (by decide) ?_
      refine Go.lconst (pc' := 352) at_351 rfl (z := (1 : Int64)) (by decide) ?_
      refine Go.lsub (pc' := 353) at_352 rfl (z := (72057594037927935 : Int64)) (by decide) ?_
      refine Go.land (pc' := 354) at_353 rfl rfl ?_
      generalize hv_want : (v &&& (72057594037927935 : Int64)) = want
      refine Go.lstore (pc' := 356) at_354 rfl (Ls' := #[.val (.long v), .second, .val (.int kq), .val (.int oo), .val (.int ee), .val (.int g), .val (.int (8 : Int32)), .val (.int (2 : Int32)), .val (.int ex), .val (.ref arr), .val (.ref a61), .val (.long res), .second, .val (.long want), .second]) rfl ?_
      
      by_cases hex : 0 < ex.toInt
      · have _ := hex
        refine Go.lload (pc' := 358) at_356 rfl rfl ?_
        refine Go.lload (pc' := 360) at_358 rfl rfl ?_
        refine Go.lcmpF (pc' := 364) (X := res.toInt) (Y := want.toInt) at_360 at_361 rfl rfl rfl rfl (by rw [← hv_want]; exact congrArg _ (own_want v res (72057594037927935 : Int64) (7 * 8) (by decide) hres) : res.toInt = want.toInt) ?_
        refine Go.aload (pc' := 366) at_364 rfl rfl rfl ?_
        refine Go.callV0 (pc' := 369) (W := 0) (a := a61) (argsL := []) (rest := []) (v0 := some (.int pk)) (st2 := [(.int pk)]) at_366 rfl (hw _ w32) (hw _ w33) (nf_sel (hw _ w35)) (hw _ w35) (hw _ w34) (hw _ w10) (hw _ w36) E_a61 (by decide) (c_pos hw a61 arr pk ((2 : Int32) + ((8 : Int32) + ex)) E_a61 F_a61_bytes F_a61_position F_a61_end) (by decide) (by decide) rfl rfl rfl (by decide) (by decide) rfl pd__28_29I rfl rfl (Nat.le_of_eq rfl) ?_
        refine Go.iload (pc' := 371) at_369 rfl rfl ?_
        refine Go.iload (pc' := 373) at_371 rfl rfl ?_
        refine Go.iadd (pc' := 374) at_373 rfl (z := (10 : Int32)) (by decide) ?_
        refine Go.icmpF (pc' := 377) (X := pk.toInt) (Y := (10 : Int)) at_374 rfl rfl (by decide) (by omega : pk.toInt = (10 : Int)) ?_
        refine Go.aload (pc' := 379) at_377 rfl rfl rfl ?_
        refine Go.callV0 (pc' := 382) (W := 0) (a := a61) (argsL := []) (rest := []) (v0 := some (.int (1 : Int32))) (st2 := [(.int (1 : Int32))]) at_379 rfl (hw _ w37) (hw _ w38) (nf_sel (hw _ w40)) (hw _ w40) (hw _ w39) (hw _ w10) (hw _ w41) E_a61 (by decide) (c_has hw a61 arr pk ((2 : Int32) + ((8 : Int32) + ex)) (1 : Int32) E_a61 F_a61_bytes F_a61_position F_a61_end (if_pos (by omega))) (by decide) (by decide) rfl rfl rfl (by decide) (by decide) rfl pd__28_29Z rfl rfl (Nat.le_of_eq rfl) ?_
        refine Go.iload (pc' := 384) at_382 rfl rfl ?_
        refine Go.ifF (pc' := 387) (X := ex.toInt) at_384 rfl rfl (by omega : 0 < ex.toInt) ?_
        refine Go.iconst (pc' := 388) at_387 rfl (z := (1 : Int32)) (by decide) ?_
        refine Go.goto (pc' := 392) at_388 (by decide) ?_
        refine Go.icmpF (pc' := 395) (X := (1 : Int)) (Y := (1 : Int)) at_392 rfl (by decide) (by decide) (by decide : (1 : Int) = (1 : Int)) ?_
        refine Go.iconst (pc' := 396) at_395 rfl (z := (1 : Int32)) (by decide) ?_
        refine Go.goto (pc' := 400) at_396 (by decide) ?_
        refine Go.retZ at_400 rfl (by decide) (by decide) (by decide) ?_
        exact ⟨rfl, N0⟩
      · have _ := hex
        refine Go.lload (pc' := 358) at_356 rfl rfl ?_
        refine Go.lload (pc' := 360) at_358 rfl rfl ?_
        refine Go.lcmpF (pc' := 364) (X := res.toInt) (Y := want.toInt) at_360 at_361 rfl rfl rfl rfl (by rw [← hv_want]; exact congrArg _ (own_want v res (72057594037927935 : Int64) (7 * 8) (by decide) hres) : res.toInt = want.toInt) ?_
        refine Go.aload (pc' := 366) at_364 rfl rfl rfl ?_
        refine Go.callV0 (pc' := 369) (W := 0) (a := a61) (argsL := []) (rest := []) (v0 := some (.int pk)) (st2 := [(.int pk)]) at_366 rfl (hw _ w32) (hw _ w33) (nf_sel (hw _ w35)) (hw _ w35) (hw _ w34) (hw _ w10) (hw _ w36) E_a61 (by decide) (c_pos hw a61 arr pk ((2 : Int32) + ((8 : Int32) + ex)) E_a61 F_a61_bytes F_a61_position F_a61_end) (by decide) (by decide) rfl rfl rfl (by decide) (by decide) rfl pd__28_29I rfl rfl (Nat.le_of_eq rfl) ?_
        refine Go.iload (pc' := 371) at_369 rfl rfl ?_
        refine Go.iload (pc' := 373) at_371 rfl rfl ?_
        refine Go.iadd (pc' := 374) at_373 rfl (z := (10 : Int32)) (by decide) ?_
        refine Go.icmpF (pc' := 377) (X := pk.toInt) (Y := (10 : Int)) at_374 rfl rfl (by decide) (by omega : pk.toInt = (10 : Int)) ?_
        refine Go.aload (pc' := 379) at_377 rfl rfl rfl ?_
        refine Go.callV0 (pc' := 382) (W := 0) (a := a61) (argsL := []) (rest := []) (v0 := some (.int (0 : Int32))) (st2 := [(.int (0 : Int32))]) at_379 rfl (hw _ w37) (hw _ w38) (nf_sel (hw _ w40)) (hw _ w40) (hw _ w39) (hw _ w10) (hw _ w41) E_a61 (by decide) (c_has hw a61 arr pk ((2 : Int32) + ((8 : Int32) + ex)) (0 : Int32) E_a61 F_a61_bytes F_a61_position F_a61_end (if_neg (by omega))) (by decide) (by decide) rfl rfl rfl (by decide) (by decide) rfl pd__28_29Z rfl rfl (Nat.le_of_eq rfl) ?_
        refine Go.iload (pc' := 384) at_382 rfl rfl ?_
        refine Go.ifT (pc' := 391) (X := ex.toInt) at_384 (by decide) rfl (by omega : ¬ 0 < ex.toInt) ?_
        refine Go.iconst (pc' := 392) at_391 rfl (z := (0 : Int32)) (by decide) ?_
        refine Go.icmpF (pc' := 395) (X := (0 : Int)) (Y := (0 : Int)) at_392 rfl (by decide) (by decide) (by decide : (0 : Int) = (0 : Int)) ?_
        refine Go.iconst (pc' := 396) at_395 rfl (z := (1 : Int32)) (by decide) ?_
        refine Go.goto (pc' := 400) at_396 (by decide) ?_
        refine Go.retZ at_400 rfl (by decide) (by decide) (by decide) ?_
        exact ⟨rfl, N0⟩
    · subst hs64
      have kn : (9 : Int32).toInt = 9 := by decide
      obtain rfl : K = 9 := by omega
      refine Go.bipush (pc' := 331) at_329 rfl (z := (7 : Int32)) (by decide) ?_
      refine Go.iload (pc' := 333) at_331 rfl rfl ?_
      refine Go.imul (pc' := 334) at_333 rfl (z := (63 : Int32)) (by decide) ?_
      refine Go.bipush (pc' := 336) at_334 rfl (z := (64 : Int32)) (by decide) ?_
      refine Go.icmpT (pc' := 343) (X := (63 : Int)) (Y := (64 : Int)) at_336 (by decide) (by decide) (by decide) (by decide : (63 : Int) < (64 : Int)) ?_
      refine Go.lloadN (pc' := 344) at_343 rfl rfl ?_
      refine Go.lconst (pc' := 345) at_344 rfl (z := (1 : Int64)) (by decide) ?_
      refine Go.bipush (pc' := 347) at_345 rfl (z := (7 : Int32)) (by decide) ?_
      refine Go.iload (pc' := 349) at_347 rfl rfl ?_
      refine Go.imul (pc' := 350) at_349 rfl (z := (63 : Int32)) (by decide) ?_
      refine Go.lshl (pc' := 351) at_350 rfl (z := (-9223372036854775808 : Int64)) (by decide) ?_
      refine Go.lconst (pc' := 352) at_351 rfl (z := (1 : Int64)) (by decide) ?_
      refine Go.lsub (pc' := 353) at_352 rfl (z := (9223372036854775807 : Int64)) (by decide) ?_
      refine Go.land (pc' := 354) at_353 rfl rfl ?_
      generalize hv_want : (v &&& (9223372036854775807 : Int64)) = want
      refine Go.lstore (pc' := 356) at_354 rfl (Ls' := #[.val (.long v), .second, .val (.int kq), .val (.int oo), .val (.int ee), .val (.int g), .val (.int (9 : Int32)), .val (.int (2 : Int32)), .val (.int ex), .val (.ref arr), .val (.ref a61), .val (.long res), .second, .val (.long want), .second]) rfl ?_
      
      by_cases hex : 0 < ex.toInt
      · have _ := hex
        refine Go.lload (pc' := 358) at_356 rfl rfl ?_
        refine Go.lload (pc' := 360) at_358 rfl rfl ?_
        refine Go.lcmpF (pc' := 364) (X := res.toInt) (Y := want.toInt) at_360 at_361 rfl rfl rfl rfl (by rw [← hv_want]; exact congrArg _ (own_want v res (9223372036854775807 : Int64) (7 * 9) (by decide) hres) : res.toInt = want.toInt) ?_
        refine Go.aload (pc' := 366) at_364 rfl rfl rfl ?_
        refine Go.callV0 (pc' := 369) (W := 0) (a := a61) (argsL := []) (rest := []) (v0 := some (.int pk)) (st2 := [(.int pk)]) at_366 rfl (hw _ w32) (hw _ w33) (nf_sel (hw _ w35)) (hw _ w35) (hw _ w34) (hw _ w10) (hw _ w36) E_a61 (by decide) (c_pos hw a61 arr pk ((2 : Int32) + ((9 : Int32) + ex)) E_a61 F_a61_bytes F_a61_position F_a61_end) (by decide) (by decide) rfl rfl rfl (by decide) (by decide) rfl pd__28_29I rfl rfl (Nat.le_of_eq rfl) ?_
        refine Go.iload (pc' := 371) at_369 rfl rfl ?_
        refine Go.iload (pc' := 373) at_371 rfl rfl ?_
        refine Go.iadd (pc' := 374) at_373 rfl (z := (11 : Int32)) (by decide) ?_
        refine Go.icmpF (pc' := 377) (X := pk.toInt) (Y := (11 : Int)) at_374 rfl rfl (by decide) (by omega : pk.toInt = (11 : Int)) ?_
        refine Go.aload (pc' := 379) at_377 rfl rfl rfl ?_
        refine Go.callV0 (pc' := 382) (W := 0) (a := a61) (argsL := []) (rest := []) (v0 := some (.int (1 : Int32))) (st2 := [(.int (1 : Int32))]) at_379 rfl (hw _ w37) (hw _ w38) (nf_sel (hw _ w40)) (hw _ w40) (hw _ w39) (hw _ w10) (hw _ w41) E_a61 (by decide) (c_has hw a61 arr pk ((2 : Int32) + ((9 : Int32) + ex)) (1 : Int32) E_a61 F_a61_bytes F_a61_position F_a61_end (if_pos (by omega))) (by decide) (by decide) rfl rfl rfl (by decide) (by decide) rfl pd__28_29Z rfl rfl (Nat.le_of_eq rfl) ?_
        refine Go.iload (pc' := 384) at_382 rfl rfl ?_
        refine Go.ifF (pc' := 387) (X := ex.toInt) at_384 rfl rfl (by omega : 0 < ex.toInt) ?_
        refine Go.iconst (pc' := 388) at_387 rfl (z := (1 : Int32)) (by decide) ?_
        refine Go.goto (pc' := 392) at_388 (by decide) ?_
        refine Go.icmpF (pc' := 395) (X := (1 : Int)) (Y := (1 : Int)) at_392 rfl (by decide) (by decide) (by decide : (1 : Int) = (1 : Int)) ?_
        refine Go.iconst (pc' := 396) at_395 rfl (z := (1 : Int32)) (by decide) ?_
        refine Go.goto (pc' := 400) at_396 (by decide) ?_
        refine Go.retZ at_400 rfl (by decide) (by decide) (by decide) ?_
        exact ⟨rfl, N0⟩
      · have _ := hex
        refine Go.lload (pc' := 358) at_356 rfl rfl ?_
        refine Go.lload (pc' := 360) at_358 rfl rfl ?_
        refine Go.lcmpF (pc' := 364) (X := res.toInt) (Y := want.toInt) at_360 at_361 rfl rfl rfl rfl (by rw [← hv_want]; exact congrArg _ (own_want v res (9223372036854775807 : Int64) (7 * 9) (by decide) hres) : res.toInt = want.toInt) ?_
        refine Go.aload (pc' := 366) at_364 rfl rfl rfl ?_
        refine Go.callV0 (pc' := 369) (W := 0) (a := a61) (argsL := []) (rest := []) (v0 := some (.int pk)) (st2 := [(.int pk)]) at_366 rfl (hw _ w32) (hw _ w33) (nf_sel (hw _ w35)) (hw _ w35) (hw _ w34) (hw _ w10) (hw _ w36) E_a61 (by decide) (c_pos hw a61 arr pk ((2 : Int32) + ((9 : Int32) + ex)) E_a61 F_a61_bytes F_a61_position F_a61_end) (by decide) (by decide) rfl rfl rfl (by decide) (by decide) rfl pd__28_29I rfl rfl (Nat.le_of_eq rfl) ?_
        refine Go.iload (pc' := 371) at_369 rfl rfl ?_
        refine Go.iload (pc' := 373) at_371 rfl rfl ?_
        refine Go.iadd (pc' := 374) at_373 rfl (z := (11 : Int32)) (by decide) ?_
        refine Go.icmpF (pc' := 377) (X := pk.toInt) (Y := (11 : Int)) at_374 rfl rfl (by decide) (by omega : pk.toInt = (11 : Int)) ?_
        refine Go.aload (pc' := 379) at_377 rfl rfl rfl ?_
        refine Go.callV0 (pc' := 382) (W := 0) (a := a61) (argsL := []) (rest := []) (v0 := some (.int (0 : Int32))) (st2 := [(.int (0 : Int32))]) at_379 rfl (hw _ w37) (hw _ w38) (nf_sel (hw _ w40)) (hw _ w40) (hw _ w39) (hw _ w10) (hw _ w41) E_a61 (by decide) (c_has hw a61 arr pk ((2 : Int32) + ((9 : Int32) + ex)) (0 : Int32) E_a61 F_a61_bytes F_a61_position F_a61_end (if_neg (by omega))) (by decide) (by decide) rfl rfl rfl (by decide) (by decide) rfl pd__28_29Z rfl rfl (Nat.le_of_eq rfl) ?_
        refine Go.iload (pc' := 384) at_382 rfl rfl ?_
        refine Go.ifT (pc' := 391) (X := ex.toInt) at_384 (by decide) rfl (by omega : ¬ 0 < ex.toInt) ?_
        refine Go.iconst (pc' := 392) at_391 rfl (z := (0 : Int32)) (by decide) ?_
        refine Go.icmpF (pc' := 395) (X := (0 : Int)) (Y := (0 : Int)) at_392 rfl (by decide) (by decide) (by decide : (0 : Int) = (0 : Int)) ?_
        refine Go.iconst (pc' := 396) at_395 rfl (z := (1 : Int32)) (by decide) ?_
        refine Go.goto (pc' := 400) at_396 (by decide) ?_
        refine Go.retZ at_400 rfl (by decide) (by decide) (by decide) ?_
        exact ⟨rfl, N0⟩
    · subst hs64
      have kn : (10 : Int32).toInt = 10 := by decide
      obtain rfl : K = 10 := by omega
      refine Go.bipush (pc' := 331) at_329 rfl (z := (7 : Int32)) (by decide) ?_
      refine Go.iload (pc' := 333) at_331 rfl rfl ?_
      refine Go.imul (pc' := 334) at_333 rfl (z := (70 : Int32)) (by decide) ?_
      refine Go.bipush (pc' := 336) at_334 rfl (z := (64 : Int32)) (by decide) ?_
      refine Go.icmpF (pc' := 339) (X := (70 : Int)) (Y := (64 : Int)) at_336 rfl (by decide) (by decide) (by decide : ¬ (70 : Int) < (64 : Int)) ?_
      refine Go.lloadN (pc' := 340) at_339 rfl rfl ?_
      refine Go.goto (pc' := 354) at_340 (by decide) ?_
      refine Go.lstore (pc' := 356) at_354 rfl (Ls' := #[.val (.long v), .second, .val (.int kq), .val (.int oo), .val (.int ee), .val (.int g), .val (.int (10 : Int32)), .val (.int (2 : Int32)), .val (.int ex), .val (.ref arr), .val (.ref a61), .val (.long res), .second, .val (.long v), .second]) rfl ?_
      
      by_cases hex : 0 < ex.toInt
      · have _ := hex
        refine Go.lload (pc' := 358) at_356 rfl rfl ?_
        refine Go.lload (pc' := 360) at_358 rfl rfl ?_
        refine Go.lcmpF (pc' := 364) (X := res.toInt) (Y := v.toInt) at_360 at_361 rfl rfl rfl rfl (congrArg _ (own_full v res hres) : res.toInt = v.toInt) ?_
        refine Go.aload (pc' := 366) at_364 rfl rfl rfl ?_
        refine Go.callV0 (pc' := 369) (W := 0) (a := a61) (argsL := []) (rest := []) (v0 := some (.int pk)) (st2 := [(.int pk)]) at_366 rfl (hw _ w32) (hw _ w33) (nf_sel (hw _ w35)) (hw _ w35) (hw _ w34) (hw _ w10) (hw _ w36) E_a61 (by decide) (c_pos hw a61 arr pk ((2 : Int32) + ((10 : Int32) + ex)) E_a61 F_a61_bytes F_a61_position F_a61_end) (by decide) (by decide) rfl rfl rfl (by decide) (by decide) rfl pd__28_29I rfl rfl (Nat.le_of_eq rfl) ?_
        refine Go.iload (pc' := 371) at_369 rfl rfl ?_
        refine Go.iload (pc' := 373) at_371 rfl rfl ?_
        refine Go.iadd (pc' := 374) at_373 rfl (z := (12 : Int32)) (by decide) ?_
        refine Go.icmpF (pc' := 377) (X := pk.toInt) (Y := (12 : Int)) at_374 rfl rfl (by decide) (by omega : pk.toInt = (12 : Int)) ?_
        refine Go.aload (pc' := 379) at_377 rfl rfl rfl ?_
        refine Go.callV0 (pc' := 382) (W := 0) (a := a61) (argsL := []) (rest := []) (v0 := some (.int (1 : Int32))) (st2 := [(.int (1 : Int32))]) at_379 rfl (hw _ w37) (hw _ w38) (nf_sel (hw _ w40)) (hw _ w40) (hw _ w39) (hw _ w10) (hw _ w41) E_a61 (by decide) (c_has hw a61 arr pk ((2 : Int32) + ((10 : Int32) + ex)) (1 : Int32) E_a61 F_a61_bytes F_a61_position F_a61_end (if_pos (by omega))) (by decide) (by decide) rfl rfl rfl (by decide) (by decide) rfl pd__28_29Z rfl rfl (Nat.le_of_eq rfl) ?_
        refine Go.iload (pc' := 384) at_382 rfl rfl ?_
        refine Go.ifF (pc' := 387) (X := ex.toInt) at_384 rfl rfl (by omega : 0 < ex.toInt) ?_
        refine Go.iconst (pc' := 388) at_387 rfl (z := (1 : Int32)) (by decide) ?_
        refine Go.goto (pc' := 392) at_388 (by decide) ?_
        refine Go.icmpF (pc' := 395) (X := (1 : Int)) (Y := (1 : Int)) at_392 rfl (by decide) (by decide) (by decide : (1 : Int) = (1 : Int)) ?_
        refine Go.iconst (pc' := 396) at_395 rfl (z := (1 : Int32)) (by decide) ?_
        refine Go.goto (pc' := 400) at_396 (by decide) ?_
        refine Go.retZ at_400 rfl (by decide) (by decide) (by decide) ?_
        exact ⟨rfl, N0⟩
      · have _ := hex
        refine Go.lload (pc' := 358) at_356 rfl rfl ?_
        refine Go.lload (pc' := 360) at_358 rfl rfl ?_
        refine Go.lcmpF (pc' := 364) (X := res.toInt) (Y := v.toInt) at_360 at_361 rfl rfl rfl rfl (congrArg _ (own_full v res hres) : res.toInt = v.toInt) ?_
        refine Go.aload (pc' := 366) at_364 rfl rfl rfl ?_
        refine Go.callV0 (pc' := 369) (W := 0) (a := a61) (argsL := []) (rest := []) (v0 := some (.int pk)) (st2 := [(.int pk)]) at_366 rfl (hw _ w32) (hw _ w33) (nf_sel (hw _ w35)) (hw _ w35) (hw _ w34) (hw _ w10) (hw _ w36) E_a61 (by decide) (c_pos hw a61 arr pk ((2 : Int32) + ((10 : Int32) + ex)) E_a61 F_a61_bytes F_a61_position F_a61_end) (by decide) (by decide) rfl rfl rfl (by decide) (by decide) rfl pd__28_29I rfl rfl (Nat.le_of_eq rfl) ?_
        refine Go.iload (pc' := 371) at_369 rfl rfl ?_
        refine Go.iload (pc' := 373) at_371 rfl rfl ?_
        refine Go.iadd (pc' := 374) at_373 rfl (z := (12 : Int32)) (by decide) ?_
        refine Go.icmpF (pc' := 377) (X := pk.toInt) (Y := (12 : Int)) at_374 rfl rfl (by decide) (by omega : pk.toInt = (12 : Int)) ?_
        refine Go.aload (pc' := 379) at_377 rfl rfl rfl ?_
        refine Go.callV0 (pc' := 382) (W := 0) (a := a61) (argsL := []) (rest := []) (v0 := some (.int (0 : Int32))) (st2 := [(.int (0 : Int32))]) at_379 rfl (hw _ w37) (hw _ w38) (nf_sel (hw _ w40)) (hw _ w40) (hw _ w39) (hw _ w10) (hw _ w41) E_a61 (by decide) (c_has hw a61 arr pk ((2 : Int32) + ((10 : Int32) + ex)) (0 : Int32) E_a61 F_a61_bytes F_a61_position F_a61_end (if_neg (by omega))) (by decide) (by decide) rfl rfl rfl (by decide) (by decide) rfl pd__28_29Z rfl rfl (Nat.le_of_eq rfl) ?_
        refine Go.iload (pc' := 384) at_382 rfl rfl ?_
        refine Go.ifT (pc' := 391) (X := ex.toInt) at_384 (by decide) rfl (by omega : ¬ 0 < ex.toInt) ?_
        refine Go.iconst (pc' := 392) at_391 rfl (z := (0 : Int32)) (by decide) ?_
        refine Go.icmpF (pc' := 395) (X := (0 : Int)) (Y := (0 : Int)) at_392 rfl (by decide) (by decide) (by decide : (0 : Int) = (0 : Int)) ?_
        refine Go.iconst (pc' := 396) at_395 rfl (z := (1 : Int32)) (by decide) ?_
        refine Go.goto (pc' := 400) at_396 (by decide) ?_
        refine Go.retZ at_400 rfl (by decide) (by decide) (by decide) ?_
        exact ⟨rfl, N0⟩
  · subst hs1
    refine Go.iload (pc' := 18) at_16 rfl rfl ?_
    refine Go.iconst (pc' := 19) at_18 rfl (z := (3 : Int32)) (by decide) ?_
    refine Go.iand (pc' := 20) at_19 rfl rfl ?_
    generalize hv_ex : (ee &&& (3 : Int32)) = ex
    refine Go.istore (pc' := 22) at_20 rfl (Ls' := #[.val (.long v), .second, .val (.int kq), .val (.int oo), .val (.int ee), .val (.int g), .val (.int kk), .val (.int (3 : Int32)), .val (.int ex), .unset, .unset, .unset, .unset, .unset, .unset]) rfl ?_
    have hex3 := own_ex ee ex hv_ex
    refine Go.bipush (pc' := 24) at_22 rfl (z := (16 : Int32)) (by decide) ?_
    refine Go.new_byte (pc' := 26) (k' := 1) (n' := 16) (N := 16) (vs := [(.int (0 : Int32)), (.int (0 : Int32)), (.int (0 : Int32)), (.int (0 : Int32)), (.int (0 : Int32)), (.int (0 : Int32)), (.int (0 : Int32)), (.int (0 : Int32)), (.int (0 : Int32)), (.int (0 : Int32)), (.int (0 : Int32)), (.int (0 : Int32)), (.int (0 : Int32)), (.int (0 : Int32)), (.int (0 : Int32)), (.int (0 : Int32))]) at_24 rfl (hw _ w1) (by decide) rfl 16 (Nat.le_refl _) (by decide) (by decide) (by decide) rfl rfl ?_
    intro h65 arr ha_arr X65 A_arr
    have gn_arr : n0 ≤ arr := by rw [ha_arr]; exact sz0
    replace sz0 : n0 ≤ h65.size := Nat.le_trans sz0 X65.1
    refine Go.astore (pc' := 28) at_26 rfl rfl (Ls' := #[.val (.long v), .second, .val (.int kq), .val (.int oo), .val (.int ee), .val (.int g), .val (.int kk), .val (.int (3 : Int32)), .val (.int ex), .val (.ref arr), .unset, .unset, .unset, .unset, .unset]) rfl ?_
    refine Go.aload (pc' := 30) at_28 rfl rfl rfl ?_
    refine Go.iconst (pc' := 31) at_30 rfl (z := (0 : Int32)) (by decide) ?_
    refine Go.iconst (pc' := 32) at_31 rfl (z := (0 : Int32)) (by decide) ?_
    refine Go.iload (pc' := 34) at_32 rfl rfl ?_
    refine Go.isub (pc' := 35) at_34 rfl (z := (-3 : Int32)) (by decide) ?_
    refine Go.lloadN (pc' := 36) at_35 rfl rfl ?_
    refine Go.iload (pc' := 38) at_36 rfl rfl ?_
    refine Go.iload (pc' := 40) at_38 rfl rfl ?_
    refine Go.callS0 (pc' := 43) (W := 2) (argsL := [(.int (-3 : Int32)), (.long v), (.int kk), (.int g)]) (rest := [(.int (0 : Int32)), (.ref arr)]) (v0 := some (.int (f_c_at (-3 : Int32) v kk g))) (st2 := [(.int (f_c_at (-3 : Int32) v kk g)), (.int (0 : Int32)), (.ref arr)]) at_40 rfl (hw _ w2) (hw _ w3) (hw _ w4) (hw _ w5) (by decide) (c_at hw (-3 : Int32) v kk g rfl) (by decide) (by decide) rfl rfl rfl (by decide) (by decide) rfl pd__28IJII_29B rfl rfl (Nat.le_of_eq rfl) ?_
    refine Go.bastoreB (pc' := 44) (i := 0) (v := (.int (f_c_at (-3 : Int32) v kk g))) (vs' := [(.int (f_c_at (-3 : Int32) v kk g)), (.int (0 : Int32)), (.int (0 : Int32)), (.int (0 : Int32)), (.int (0 : Int32)), (.int (0 : Int32)), (.int (0 : Int32)), (.int (0 : Int32)), (.int (0 : Int32)), (.int (0 : Int32)), (.int (0 : Int32)), (.int (0 : Int32)), (.int (0 : Int32)), (.int (0 : Int32)), (.int (0 : Int32)), (.int (0 : Int32))]) at_43 rfl A_arr (by decide) (Nat.le_of_ble_eq_true rfl) (congrArg Value.int (own_nar _ _ _ _)) rfl ?_
    intro h66 L66 NL66 W66 B66
    replace N0 := NL66 _ N0 gn_arr
    replace sz0 : n0 ≤ h66.size := by rw [W66.size]; exact sz0
    clear A_arr; have A_arr := B66
    refine Go.aload (pc' := 46) at_44 rfl rfl rfl ?_
    refine Go.iconst (pc' := 47) at_46 rfl (z := (1 : Int32)) (by decide) ?_
    refine Go.iconst (pc' := 48) at_47 rfl (z := (1 : Int32)) (by decide) ?_
    refine Go.iload (pc' := 50) at_48 rfl rfl ?_
    refine Go.isub (pc' := 51) at_50 rfl (z := (-2 : Int32)) (by decide) ?_
    refine Go.lloadN (pc' := 52) at_51 rfl rfl ?_
    refine Go.iload (pc' := 54) at_52 rfl rfl ?_
    refine Go.iload (pc' := 56) at_54 rfl rfl ?_
    refine Go.callS0 (pc' := 59) (W := 2) (argsL := [(.int (-2 : Int32)), (.long v), (.int kk), (.int g)]) (rest := [(.int (1 : Int32)), (.ref arr)]) (v0 := some (.int (f_c_at (-2 : Int32) v kk g))) (st2 := [(.int (f_c_at (-2 : Int32) v kk g)), (.int (1 : Int32)), (.ref arr)]) at_56 rfl (hw _ w2) (hw _ w3) (hw _ w4) (hw _ w5) (by decide) (c_at hw (-2 : Int32) v kk g rfl) (by decide) (by decide) rfl rfl rfl (by decide) (by decide) rfl pd__28IJII_29B rfl rfl (Nat.le_of_eq rfl) ?_
    refine Go.bastoreB (pc' := 60) (i := 1) (v := (.int (f_c_at (-2 : Int32) v kk g))) (vs' := [(.int (f_c_at (-3 : Int32) v kk g)), (.int (f_c_at (-2 : Int32) v kk g)), (.int (0 : Int32)), (.int (0 : Int32)), (.int (0 : Int32)), (.int (0 : Int32)), (.int (0 : Int32)), (.int (0 : Int32)), (.int (0 : Int32)), (.int (0 : Int32)), (.int (0 : Int32)), (.int (0 : Int32)), (.int (0 : Int32)), (.int (0 : Int32)), (.int (0 : Int32)), (.int (0 : Int32))]) at_59 rfl A_arr (by decide) (Nat.le_of_ble_eq_true rfl) (congrArg Value.int (own_nar _ _ _ _)) rfl ?_
    intro h67 L67 NL67 W67 B67
    replace N0 := NL67 _ N0 gn_arr
    replace sz0 : n0 ≤ h67.size := by rw [W67.size]; exact sz0
    clear A_arr; have A_arr := B67
    refine Go.aload (pc' := 62) at_60 rfl rfl rfl ?_
    refine Go.iconst (pc' := 63) at_62 rfl (z := (2 : Int32)) (by decide) ?_
    refine Go.iconst (pc' := 64) at_63 rfl (z := (2 : Int32)) (by decide) ?_
    refine Go.iload (pc' := 66) at_64 rfl rfl ?_
    refine Go.isub (pc' := 67) at_66 rfl (z := (-1 : Int32)) (by decide) ?_
    refine Go.lloadN (pc' := 68) at_67 rfl rfl ?_
    refine Go.iload (pc' := 70) at_68 rfl rfl ?_
    refine Go.iload (pc' := 72) at_70 rfl rfl ?_
    refine Go.callS0 (pc' := 75) (W := 2) (argsL := [(.int (-1 : Int32)), (.long v), (.int kk), (.int g)]) (rest := [(.int (2 : Int32)), (.ref arr)]) (v0 := some (.int (f_c_at (-1 : Int32) v kk g))) (st2 := [(.int (f_c_at (-1 : Int32) v kk g)), (.int (2 : Int32)), (.ref arr)]) at_72 rfl (hw _ w2) (hw _ w3) (hw _ w4) (hw _ w5) (by decide) (c_at hw (-1 : Int32) v kk g rfl) (by decide) (by decide) rfl rfl rfl (by decide) (by decide) rfl pd__28IJII_29B rfl rfl (Nat.le_of_eq rfl) ?_
    refine Go.bastoreB (pc' := 76) (i := 2) (v := (.int (f_c_at (-1 : Int32) v kk g))) (vs' := [(.int (f_c_at (-3 : Int32) v kk g)), (.int (f_c_at (-2 : Int32) v kk g)), (.int (f_c_at (-1 : Int32) v kk g)), (.int (0 : Int32)), (.int (0 : Int32)), (.int (0 : Int32)), (.int (0 : Int32)), (.int (0 : Int32)), (.int (0 : Int32)), (.int (0 : Int32)), (.int (0 : Int32)), (.int (0 : Int32)), (.int (0 : Int32)), (.int (0 : Int32)), (.int (0 : Int32)), (.int (0 : Int32))]) at_75 rfl A_arr (by decide) (Nat.le_of_ble_eq_true rfl) (congrArg Value.int (own_nar _ _ _ _)) rfl ?_
    intro h68 L68 NL68 W68 B68
    replace N0 := NL68 _ N0 gn_arr
    replace sz0 : n0 ≤ h68.size := by rw [W68.size]; exact sz0
    clear A_arr; have A_arr := B68
    refine Go.aload (pc' := 78) at_76 rfl rfl rfl ?_
    refine Go.iconst (pc' := 79) at_78 rfl (z := (3 : Int32)) (by decide) ?_
    refine Go.iconst (pc' := 80) at_79 rfl (z := (3 : Int32)) (by decide) ?_
    refine Go.iload (pc' := 82) at_80 rfl rfl ?_
    refine Go.isub (pc' := 83) at_82 rfl (z := (0 : Int32)) (by decide) ?_
    refine Go.lloadN (pc' := 84) at_83 rfl rfl ?_
    refine Go.iload (pc' := 86) at_84 rfl rfl ?_
    refine Go.iload (pc' := 88) at_86 rfl rfl ?_
    refine Go.callS0 (pc' := 91) (W := 2) (argsL := [(.int (0 : Int32)), (.long v), (.int kk), (.int g)]) (rest := [(.int (3 : Int32)), (.ref arr)]) (v0 := some (.int (f_c_at (0 : Int32) v kk g))) (st2 := [(.int (f_c_at (0 : Int32) v kk g)), (.int (3 : Int32)), (.ref arr)]) at_88 rfl (hw _ w2) (hw _ w3) (hw _ w4) (hw _ w5) (by decide) (c_at hw (0 : Int32) v kk g rfl) (by decide) (by decide) rfl rfl rfl (by decide) (by decide) rfl pd__28IJII_29B rfl rfl (Nat.le_of_eq rfl) ?_
    refine Go.bastoreB (pc' := 92) (i := 3) (v := (.int (f_c_at (0 : Int32) v kk g))) (vs' := [(.int (f_c_at (-3 : Int32) v kk g)), (.int (f_c_at (-2 : Int32) v kk g)), (.int (f_c_at (-1 : Int32) v kk g)), (.int (f_c_at (0 : Int32) v kk g)), (.int (0 : Int32)), (.int (0 : Int32)), (.int (0 : Int32)), (.int (0 : Int32)), (.int (0 : Int32)), (.int (0 : Int32)), (.int (0 : Int32)), (.int (0 : Int32)), (.int (0 : Int32)), (.int (0 : Int32)), (.int (0 : Int32)), (.int (0 : Int32))]) at_91 rfl A_arr (by decide) (Nat.le_of_ble_eq_true rfl) (congrArg Value.int (own_nar _ _ _ _)) rfl ?_
    intro h69 L69 NL69 W69 B69
    replace N0 := NL69 _ N0 gn_arr
    replace sz0 : n0 ≤ h69.size := by rw [W69.size]; exact sz0
    clear A_arr; have A_arr := B69
    refine Go.aload (pc' := 94) at_92 rfl rfl rfl ?_
    refine Go.iconst (pc' := 95) at_94 rfl (z := (4 : Int32)) (by decide) ?_
    refine Go.iconst (pc' := 96) at_95 rfl (z := (4 : Int32)) (by decide) ?_
    refine Go.iload (pc' := 98) at_96 rfl rfl ?_
    refine Go.isub (pc' := 99) at_98 rfl (z := (1 : Int32)) (by decide) ?_
    refine Go.lloadN (pc' := 100) at_99 rfl rfl ?_
    refine Go.iload (pc' := 102) at_100 rfl rfl ?_
    refine Go.iload (pc' := 104) at_102 rfl rfl ?_
    refine Go.callS0 (pc' := 107) (W := 2) (argsL := [(.int (1 : Int32)), (.long v), (.int kk), (.int g)]) (rest := [(.int (4 : Int32)), (.ref arr)]) (v0 := some (.int (f_c_at (1 : Int32) v kk g))) (st2 := [(.int (f_c_at (1 : Int32) v kk g)), (.int (4 : Int32)), (.ref arr)]) at_104 rfl (hw _ w2) (hw _ w3) (hw _ w4) (hw _ w5) (by decide) (c_at hw (1 : Int32) v kk g rfl) (by decide) (by decide) rfl rfl rfl (by decide) (by decide) rfl pd__28IJII_29B rfl rfl (Nat.le_of_eq rfl) ?_
    refine Go.bastoreB (pc' := 108) (i := 4) (v := (.int (f_c_at (1 : Int32) v kk g))) (vs' := [(.int (f_c_at (-3 : Int32) v kk g)), (.int (f_c_at (-2 : Int32) v kk g)), (.int (f_c_at (-1 : Int32) v kk g)), (.int (f_c_at (0 : Int32) v kk g)), (.int (f_c_at (1 : Int32) v kk g)), (.int (0 : Int32)), (.int (0 : Int32)), (.int (0 : Int32)), (.int (0 : Int32)), (.int (0 : Int32)), (.int (0 : Int32)), (.int (0 : Int32)), (.int (0 : Int32)), (.int (0 : Int32)), (.int (0 : Int32)), (.int (0 : Int32))]) at_107 rfl A_arr (by decide) (Nat.le_of_ble_eq_true rfl) (congrArg Value.int (own_nar _ _ _ _)) rfl ?_
    intro h70 L70 NL70 W70 B70
    replace N0 := NL70 _ N0 gn_arr
    replace sz0 : n0 ≤ h70.size := by rw [W70.size]; exact sz0
    clear A_arr; have A_arr := B70
    refine Go.aload (pc' := 110) at_108 rfl rfl rfl ?_
    refine Go.iconst (pc' := 111) at_110 rfl (z := (5 : Int32)) (by decide) ?_
    refine Go.iconst (pc' := 112) at_111 rfl (z := (5 : Int32)) (by decide) ?_
    refine Go.iload (pc' := 114) at_112 rfl rfl ?_
    refine Go.isub (pc' := 115) at_114 rfl (z := (2 : Int32)) (by decide) ?_
    refine Go.lloadN (pc' := 116) at_115 rfl rfl ?_
    refine Go.iload (pc' := 118) at_116 rfl rfl ?_
    refine Go.iload (pc' := 120) at_118 rfl rfl ?_
    refine Go.callS0 (pc' := 123) (W := 2) (argsL := [(.int (2 : Int32)), (.long v), (.int kk), (.int g)]) (rest := [(.int (5 : Int32)), (.ref arr)]) (v0 := some (.int (f_c_at (2 : Int32) v kk g))) (st2 := [(.int (f_c_at (2 : Int32) v kk g)), (.int (5 : Int32)), (.ref arr)]) at_120 rfl (hw _ w2) (hw _ w3) (hw _ w4) (hw _ w5) (by decide) (c_at hw (2 : Int32) v kk g rfl) (by decide) (by decide) rfl rfl rfl (by decide) (by decide) rfl pd__28IJII_29B rfl rfl (Nat.le_of_eq rfl) ?_
    refine Go.bastoreB (pc' := 124) (i := 5) (v := (.int (f_c_at (2 : Int32) v kk g))) (vs' := [(.int (f_c_at (-3 : Int32) v kk g)), (.int (f_c_at (-2 : Int32) v kk g)), (.int (f_c_at (-1 : Int32) v kk g)), (.int (f_c_at (0 : Int32) v kk g)), (.int (f_c_at (1 : Int32) v kk g)), (.int (f_c_at (2 : Int32) v kk g)), (.int (0 : Int32)), (.int (0 : Int32)), (.int (0 : Int32)), (.int (0 : Int32)), (.int (0 : Int32)), (.int (0 : Int32)), (.int (0 : Int32)), (.int (0 : Int32)), (.int (0 : Int32)), (.int (0 : Int32))]) at_123 rfl A_arr (by decide) (Nat.le_of_ble_eq_true rfl) (congrArg Value.int (own_nar _ _ _ _)) rfl ?_
    intro h71 L71 NL71 W71 B71
    replace N0 := NL71 _ N0 gn_arr
    replace sz0 : n0 ≤ h71.size := by rw [W71.size]; exact sz0
    clear A_arr; have A_arr := B71
    refine Go.aload (pc' := 126) at_124 rfl rfl rfl ?_
    refine Go.bipush (pc' := 128) at_126 rfl (z := (6 : Int32)) (by decide) ?_
    refine Go.bipush (pc' := 130) at_128 rfl (z := (6 : Int32)) (by decide) ?_
    refine Go.iload (pc' := 132) at_130 rfl rfl ?_
    refine Go.isub (pc' := 133) at_132 rfl (z := (3 : Int32)) (by decide) ?_
    refine Go.lloadN (pc' := 134) at_133 rfl rfl ?_
    refine Go.iload (pc' := 136) at_134 rfl rfl ?_
    refine Go.iload (pc' := 138) at_136 rfl rfl ?_
    refine Go.callS0 (pc' := 141) (W := 2) (argsL := [(.int (3 : Int32)), (.long v), (.int kk), (.int g)]) (rest := [(.int (6 : Int32)), (.ref arr)]) (v0 := some (.int (f_c_at (3 : Int32) v kk g))) (st2 := [(.int (f_c_at (3 : Int32) v kk g)), (.int (6 : Int32)), (.ref arr)]) at_138 rfl (hw _ w2) (hw _ w3) (hw _ w4) (hw _ w5) (by decide) (c_at hw (3 : Int32) v kk g rfl) (by decide) (by decide) rfl rfl rfl (by decide) (by decide) rfl pd__28IJII_29B rfl rfl (Nat.le_of_eq rfl) ?_
    refine Go.bastoreB (pc' := 142) (i := 6) (v := (.int (f_c_at (3 : Int32) v kk g))) (vs' := [(.int (f_c_at (-3 : Int32) v kk g)), (.int (f_c_at (-2 : Int32) v kk g)), (.int (f_c_at (-1 : Int32) v kk g)), (.int (f_c_at (0 : Int32) v kk g)), (.int (f_c_at (1 : Int32) v kk g)), (.int (f_c_at (2 : Int32) v kk g)), (.int (f_c_at (3 : Int32) v kk g)), (.int (0 : Int32)), (.int (0 : Int32)), (.int (0 : Int32)), (.int (0 : Int32)), (.int (0 : Int32)), (.int (0 : Int32)), (.int (0 : Int32)), (.int (0 : Int32)), (.int (0 : Int32))]) at_141 rfl A_arr (by decide) (Nat.le_of_ble_eq_true rfl) (congrArg Value.int (own_nar _ _ _ _)) rfl ?_
    intro h72 L72 NL72 W72 B72
    replace N0 := NL72 _ N0 gn_arr
    replace sz0 : n0 ≤ h72.size := by rw [W72.size]; exact sz0
    clear A_arr; have A_arr := B72
    refine Go.aload (pc' := 144) at_142 rfl rfl rfl ?_
    refine Go.bipush (pc' := 146) at_144 rfl (z := (7 : Int32)) (by decide) ?_
    refine Go.bipush (pc' := 148) at_146 rfl (z := (7 : Int32)) (by decide) ?_
    refine Go.iload (pc' := 150) at_148 rfl rfl ?_
    refine Go.isub (pc' := 151) at_150 rfl (z := (4 : Int32)) (by decide) ?_
    refine Go.lloadN (pc' := 152) at_151 rfl rfl ?_
    refine Go.iload (pc' := 154) at_152 rfl rfl ?_
    refine Go.iload (pc' := 156) at_154 rfl rfl ?_
    refine Go.callS0 (pc' := 159) (W := 2) (argsL := [(.int (4 : Int32)), (.long v), (.int kk), (.int g)]) (rest := [(.int (7 : Int32)), (.ref arr)]) (v0 := some (.int (f_c_at (4 : Int32) v kk g))) (st2 := [(.int (f_c_at (4 : Int32) v kk g)), (.int (7 : Int32)), (.ref arr)]) at_156 rfl (hw _ w2) (hw _ w3) (hw _ w4) (hw _ w5) (by decide) (c_at hw (4 : Int32) v kk g rfl) (by decide) (by decide) rfl rfl rfl (by decide) (by decide) rfl pd__28IJII_29B rfl rfl (Nat.le_of_eq rfl) ?_
    refine Go.bastoreB (pc' := 160) (i := 7) (v := (.int (f_c_at (4 : Int32) v kk g))) (vs' := [(.int (f_c_at (-3 : Int32) v kk g)), (.int (f_c_at (-2 : Int32) v kk g)), (.int (f_c_at (-1 : Int32) v kk g)), (.int (f_c_at (0 : Int32) v kk g)), (.int (f_c_at (1 : Int32) v kk g)), (.int (f_c_at (2 : Int32) v kk g)), (.int (f_c_at (3 : Int32) v kk g)), (.int (f_c_at (4 : Int32) v kk g)), (.int (0 : Int32)), (.int (0 : Int32)), (.int (0 : Int32)), (.int (0 : Int32)), (.int (0 : Int32)), (.int (0 : Int32)), (.int (0 : Int32)), (.int (0 : Int32))]) at_159 rfl A_arr (by decide) (Nat.le_of_ble_eq_true rfl) (congrArg Value.int (own_nar _ _ _ _)) rfl ?_
    intro h73 L73 NL73 W73 B73
    replace N0 := NL73 _ N0 gn_arr
    replace sz0 : n0 ≤ h73.size := by rw [W73.size]; exact sz0
    clear A_arr; have A_arr := B73
    refine Go.aload (pc' := 162) at_160 rfl rfl rfl ?_
    refine Go.bipush (pc' := 164) at_162 rfl (z := (8 : Int32)) (by decide) ?_
    refine Go.bipush (pc' := 166) at_164 rfl (z := (8 : Int32)) (by decide) ?_
    refine Go.iload (pc' := 168) at_166 rfl rfl ?_
    refine Go.isub (pc' := 169) at_168 rfl (z := (5 : Int32)) (by decide) ?_
    refine Go.lloadN (pc' := 170) at_169 rfl rfl ?_
    refine Go.iload (pc' := 172) at_170 rfl rfl ?_
    refine Go.iload (pc' := 174) at_172 rfl rfl ?_
    refine Go.callS0 (pc' := 177) (W := 2) (argsL := [(.int (5 : Int32)), (.long v), (.int kk), (.int g)]) (rest := [(.int (8 : Int32)), (.ref arr)]) (v0 := some (.int (f_c_at (5 : Int32) v kk g))) (st2 := [(.int (f_c_at (5 : Int32) v kk g)), (.int (8 : Int32)), (.ref arr)]) at_174 rfl (hw _ w2) (hw _ w3) (hw _ w4) (hw _ w5) (by decide) (c_at hw (5 : Int32) v kk g rfl) (by decide) (by decide) rfl rfl rfl (by decide) (by decide) rfl pd__28IJII_29B rfl rfl (Nat.le_of_eq rfl) ?_
    refine Go.bastoreB (pc' := 178) (i := 8) (v := (.int (f_c_at (5 : Int32) v kk g))) (vs' := [(.int (f_c_at (-3 : Int32) v kk g)), (.int (f_c_at (-2 : Int32) v kk g)), (.int (f_c_at (-1 : Int32) v kk g)), (.int (f_c_at (0 : Int32) v kk g)), (.int (f_c_at (1 : Int32) v kk g)), (.int (f_c_at (2 : Int32) v kk g)), (.int (f_c_at (3 : Int32) v kk g)), (.int (f_c_at (4 : Int32) v kk g)), (.int (f_c_at (5 : Int32) v kk g)), (.int (0 : Int32)), (.int (0 : Int32)), (.int (0 : Int32)), (.int (0 : Int32)), (.int (0 : Int32)), (.int (0 : Int32)), (.int (0 : Int32))]) at_177 rfl A_arr (by decide) (Nat.le_of_ble_eq_true rfl) (congrArg Value.int (own_nar _ _ _ _)) rfl ?_
    intro h74 L74 NL74 W74 B74
    replace N0 := NL74 _ N0 gn_arr
    replace sz0 : n0 ≤ h74.size := by rw [W74.size]; exact sz0
    clear A_arr; have A_arr := B74
    refine Go.aload (pc' := 180) at_178 rfl rfl rfl ?_
    refine Go.bipush (pc' := 182) at_180 rfl (z := (9 : Int32)) (by decide) ?_
    refine Go.bipush (pc' := 184) at_182 rfl (z := (9 : Int32)) (by decide) ?_
    refine Go.iload (pc' := 186) at_184 rfl rfl ?_
    refine Go.isub (pc' := 187) at_186 rfl (z := (6 : Int32)) (by decide) ?_
    refine Go.lloadN (pc' := 188) at_187 rfl rfl ?_
    refine Go.iload (pc' := 190) at_188 rfl rfl ?_
    refine Go.iload (pc' := 192) at_190 rfl rfl ?_
    refine Go.callS0 (pc' := 195) (W := 2) (argsL := [(.int (6 : Int32)), (.long v), (.int kk), (.int g)]) (rest := [(.int (9 : Int32)), (.ref arr)]) (v0 := some (.int (f_c_at (6 : Int32) v kk g))) (st2 := [(.int (f_c_at (6 : Int32) v kk g)), (.int (9 : Int32)), (.ref arr)]) at_192 rfl (hw _ w2) (hw _ w3) (hw _ w4) (hw _ w5) (by decide) (c_at hw (6 : Int32) v kk g rfl) (by decide) (by decide) rfl rfl rfl (by decide) (by decide) rfl pd__28IJII_29B rfl rfl (Nat.le_of_eq rfl) ?_
    refine Go.bastoreB (pc' := 196) (i := 9) (v := (.int (f_c_at (6 : Int32) v kk g))) (vs' := [(.int (f_c_at (-3 : Int32) v kk g)), (.int (f_c_at (-2 : Int32) v kk g)), (.int (f_c_at (-1 : Int32) v kk g)), (.int (f_c_at (0 : Int32) v kk g)), (.int (f_c_at (1 : Int32) v kk g)), (.int (f_c_at (2 : Int32) v kk g)), (.int (f_c_at (3 : Int32) v kk g)), (.int (f_c_at (4 : Int32) v kk g)), (.int (f_c_at (5 : Int32) v kk g)), (.int (f_c_at (6 : Int32) v kk g)), (.int (0 : Int32)), (.int (0 : Int32)), (.int (0 : Int32)), (.int (0 : Int32)), (.int (0 : Int32)), (.int (0 : Int32))]) at_195 rfl A_arr (by decide) (Nat.le_of_ble_eq_true rfl) (congrArg Value.int (own_nar _ _ _ _)) rfl ?_
    intro h75 L75 NL75 W75 B75
    replace N0 := NL75 _ N0 gn_arr
    replace sz0 : n0 ≤ h75.size := by rw [W75.size]; exact sz0
    clear A_arr; have A_arr := B75
    refine Go.aload (pc' := 198) at_196 rfl rfl rfl ?_
    refine Go.bipush (pc' := 200) at_198 rfl (z := (10 : Int32)) (by decide) ?_
    refine Go.bipush (pc' := 202) at_200 rfl (z := (10 : Int32)) (by decide) ?_
    refine Go.iload (pc' := 204) at_202 rfl rfl ?_
    refine Go.isub (pc' := 205) at_204 rfl (z := (7 : Int32)) (by decide) ?_
    refine Go.lloadN (pc' := 206) at_205 rfl rfl ?_
    refine Go.iload (pc' := 208) at_206 rfl rfl ?_
    refine Go.iload (pc' := 210) at_208 rfl rfl ?_
    refine Go.callS0 (pc' := 213) (W := 2) (argsL := [(.int (7 : Int32)), (.long v), (.int kk), (.int g)]) (rest := [(.int (10 : Int32)), (.ref arr)]) (v0 := some (.int (f_c_at (7 : Int32) v kk g))) (st2 := [(.int (f_c_at (7 : Int32) v kk g)), (.int (10 : Int32)), (.ref arr)]) at_210 rfl (hw _ w2) (hw _ w3) (hw _ w4) (hw _ w5) (by decide) (c_at hw (7 : Int32) v kk g rfl) (by decide) (by decide) rfl rfl rfl (by decide) (by decide) rfl pd__28IJII_29B rfl rfl (Nat.le_of_eq rfl) ?_
    refine Go.bastoreB (pc' := 214) (i := 10) (v := (.int (f_c_at (7 : Int32) v kk g))) (vs' := [(.int (f_c_at (-3 : Int32) v kk g)), (.int (f_c_at (-2 : Int32) v kk g)), (.int (f_c_at (-1 : Int32) v kk g)), (.int (f_c_at (0 : Int32) v kk g)), (.int (f_c_at (1 : Int32) v kk g)), (.int (f_c_at (2 : Int32) v kk g)), (.int (f_c_at (3 : Int32) v kk g)), (.int (f_c_at (4 : Int32) v kk g)), (.int (f_c_at (5 : Int32) v kk g)), (.int (f_c_at (6 : Int32) v kk g)), (.int (f_c_at (7 : Int32) v kk g)), (.int (0 : Int32)), (.int (0 : Int32)), (.int (0 : Int32)), (.int (0 : Int32)), (.int (0 : Int32))]) at_213 rfl A_arr (by decide) (Nat.le_of_ble_eq_true rfl) (congrArg Value.int (own_nar _ _ _ _)) rfl ?_
    intro h76 L76 NL76 W76 B76
    replace N0 := NL76 _ N0 gn_arr
    replace sz0 : n0 ≤ h76.size := by rw [W76.size]; exact sz0
    clear A_arr; have A_arr := B76
    refine Go.aload (pc' := 216) at_214 rfl rfl rfl ?_
    refine Go.bipush (pc' := 218) at_216 rfl (z := (11 : Int32)) (by decide) ?_
    refine Go.bipush (pc' := 220) at_218 rfl (z := (11 : Int32)) (by decide) ?_
    refine Go.iload (pc' := 222) at_220 rfl rfl ?_
    refine Go.isub (pc' := 223) at_222 rfl (z := (8 : Int32)) (by decide) ?_
    refine Go.lloadN (pc' := 224) at_223 rfl rfl ?_
    refine Go.iload (pc' := 226) at_224 rfl rfl ?_
    refine Go.iload (pc' := 228) at_226 rfl rfl ?_
    refine Go.callS0 (pc' := 231) (W := 2) (argsL := [(.int (8 : Int32)), (.long v), (.int kk), (.int g)]) (rest := [(.int (11 : Int32)), (.ref arr)]) (v0 := some (.int (f_c_at (8 : Int32) v kk g))) (st2 := [(.int (f_c_at (8 : Int32) v kk g)), (.int (11 : Int32)), (.ref arr)]) at_228 rfl (hw _ w2) (hw _ w3) (hw _ w4) (hw _ w5) (by decide) (c_at hw (8 : Int32) v kk g rfl) (by decide) (by decide) rfl rfl rfl (by decide) (by decide) rfl pd__28IJII_29B rfl rfl (Nat.le_of_eq rfl) ?_
    refine Go.bastoreB (pc' := 232) (i := 11) (v := (.int (f_c_at (8 : Int32) v kk g))) (vs' := [(.int (f_c_at (-3 : Int32) v kk g)), (.int (f_c_at (-2 : Int32) v kk g)), (.int (f_c_at (-1 : Int32) v kk g)), (.int (f_c_at (0 : Int32) v kk g)), (.int (f_c_at (1 : Int32) v kk g)), (.int (f_c_at (2 : Int32) v kk g)), (.int (f_c_at (3 : Int32) v kk g)), (.int (f_c_at (4 : Int32) v kk g)), (.int (f_c_at (5 : Int32) v kk g)), (.int (f_c_at (6 : Int32) v kk g)), (.int (f_c_at (7 : Int32) v kk g)), (.int (f_c_at (8 : Int32) v kk g)), (.int (0 : Int32)), (.int (0 : Int32)), (.int (0 : Int32)), (.int (0 : Int32))]) at_231 rfl A_arr (by decide) (Nat.le_of_ble_eq_true rfl) (congrArg Value.int (own_nar _ _ _ _)) rfl ?_
    intro h77 L77 NL77 W77 B77
    replace N0 := NL77 _ N0 gn_arr
    replace sz0 : n0 ≤ h77.size := by rw [W77.size]; exact sz0
    clear A_arr; have A_arr := B77
    refine Go.aload (pc' := 234) at_232 rfl rfl rfl ?_
    refine Go.bipush (pc' := 236) at_234 rfl (z := (12 : Int32)) (by decide) ?_
    refine Go.bipush (pc' := 238) at_236 rfl (z := (12 : Int32)) (by decide) ?_
    refine Go.iload (pc' := 240) at_238 rfl rfl ?_
    refine Go.isub (pc' := 241) at_240 rfl (z := (9 : Int32)) (by decide) ?_
    refine Go.lloadN (pc' := 242) at_241 rfl rfl ?_
    refine Go.iload (pc' := 244) at_242 rfl rfl ?_
    refine Go.iload (pc' := 246) at_244 rfl rfl ?_
    refine Go.callS0 (pc' := 249) (W := 2) (argsL := [(.int (9 : Int32)), (.long v), (.int kk), (.int g)]) (rest := [(.int (12 : Int32)), (.ref arr)]) (v0 := some (.int (f_c_at (9 : Int32) v kk g))) (st2 := [(.int (f_c_at (9 : Int32) v kk g)), (.int (12 : Int32)), (.ref arr)]) at_246 rfl (hw _ w2) (hw _ w3) (hw _ w4) (hw _ w5) (by decide) (c_at hw (9 : Int32) v kk g rfl) (by decide) (by decide) rfl rfl rfl (by decide) (by decide) rfl pd__28IJII_29B rfl rfl (Nat.le_of_eq rfl) ?_
    refine Go.bastoreB (pc' := 250) (i := 12) (v := (.int (f_c_at (9 : Int32) v kk g))) (vs' := [(.int (f_c_at (-3 : Int32) v kk g)), (.int (f_c_at (-2 : Int32) v kk g)), (.int (f_c_at (-1 : Int32) v kk g)), (.int (f_c_at (0 : Int32) v kk g)), (.int (f_c_at (1 : Int32) v kk g)), (.int (f_c_at (2 : Int32) v kk g)), (.int (f_c_at (3 : Int32) v kk g)), (.int (f_c_at (4 : Int32) v kk g)), (.int (f_c_at (5 : Int32) v kk g)), (.int (f_c_at (6 : Int32) v kk g)), (.int (f_c_at (7 : Int32) v kk g)), (.int (f_c_at (8 : Int32) v kk g)), (.int (f_c_at (9 : Int32) v kk g)), (.int (0 : Int32)), (.int (0 : Int32)), (.int (0 : Int32))]) at_249 rfl A_arr (by decide) (Nat.le_of_ble_eq_true rfl) (congrArg Value.int (own_nar _ _ _ _)) rfl ?_
    intro h78 L78 NL78 W78 B78
    replace N0 := NL78 _ N0 gn_arr
    replace sz0 : n0 ≤ h78.size := by rw [W78.size]; exact sz0
    clear A_arr; have A_arr := B78
    refine Go.aload (pc' := 252) at_250 rfl rfl rfl ?_
    refine Go.bipush (pc' := 254) at_252 rfl (z := (13 : Int32)) (by decide) ?_
    refine Go.bipush (pc' := 256) at_254 rfl (z := (13 : Int32)) (by decide) ?_
    refine Go.iload (pc' := 258) at_256 rfl rfl ?_
    refine Go.isub (pc' := 259) at_258 rfl (z := (10 : Int32)) (by decide) ?_
    refine Go.lloadN (pc' := 260) at_259 rfl rfl ?_
    refine Go.iload (pc' := 262) at_260 rfl rfl ?_
    refine Go.iload (pc' := 264) at_262 rfl rfl ?_
    refine Go.callS0 (pc' := 267) (W := 2) (argsL := [(.int (10 : Int32)), (.long v), (.int kk), (.int g)]) (rest := [(.int (13 : Int32)), (.ref arr)]) (v0 := some (.int (f_c_at (10 : Int32) v kk g))) (st2 := [(.int (f_c_at (10 : Int32) v kk g)), (.int (13 : Int32)), (.ref arr)]) at_264 rfl (hw _ w2) (hw _ w3) (hw _ w4) (hw _ w5) (by decide) (c_at hw (10 : Int32) v kk g rfl) (by decide) (by decide) rfl rfl rfl (by decide) (by decide) rfl pd__28IJII_29B rfl rfl (Nat.le_of_eq rfl) ?_
    refine Go.bastoreB (pc' := 268) (i := 13) (v := (.int (f_c_at (10 : Int32) v kk g))) (vs' := [(.int (f_c_at (-3 : Int32) v kk g)), (.int (f_c_at (-2 : Int32) v kk g)), (.int (f_c_at (-1 : Int32) v kk g)), (.int (f_c_at (0 : Int32) v kk g)), (.int (f_c_at (1 : Int32) v kk g)), (.int (f_c_at (2 : Int32) v kk g)), (.int (f_c_at (3 : Int32) v kk g)), (.int (f_c_at (4 : Int32) v kk g)), (.int (f_c_at (5 : Int32) v kk g)), (.int (f_c_at (6 : Int32) v kk g)), (.int (f_c_at (7 : Int32) v kk g)), (.int (f_c_at (8 : Int32) v kk g)), (.int (f_c_at (9 : Int32) v kk g)), (.int (f_c_at (10 : Int32) v kk g)), (.int (0 : Int32)), (.int (0 : Int32))]) at_267 rfl A_arr (by decide) (Nat.le_of_ble_eq_true rfl) (congrArg Value.int (own_nar _ _ _ _)) rfl ?_
    intro h79 L79 NL79 W79 B79
    replace N0 := NL79 _ N0 gn_arr
    replace sz0 : n0 ≤ h79.size := by rw [W79.size]; exact sz0
    clear A_arr; have A_arr := B79
    refine Go.aload (pc' := 270) at_268 rfl rfl rfl ?_
    refine Go.bipush (pc' := 272) at_270 rfl (z := (14 : Int32)) (by decide) ?_
    refine Go.bipush (pc' := 274) at_272 rfl (z := (14 : Int32)) (by decide) ?_
    refine Go.iload (pc' := 276) at_274 rfl rfl ?_
    refine Go.isub (pc' := 277) at_276 rfl (z := (11 : Int32)) (by decide) ?_
    refine Go.lloadN (pc' := 278) at_277 rfl rfl ?_
    refine Go.iload (pc' := 280) at_278 rfl rfl ?_
    refine Go.iload (pc' := 282) at_280 rfl rfl ?_
    refine Go.callS0 (pc' := 285) (W := 2) (argsL := [(.int (11 : Int32)), (.long v), (.int kk), (.int g)]) (rest := [(.int (14 : Int32)), (.ref arr)]) (v0 := some (.int (f_c_at (11 : Int32) v kk g))) (st2 := [(.int (f_c_at (11 : Int32) v kk g)), (.int (14 : Int32)), (.ref arr)]) at_282 rfl (hw _ w2) (hw _ w3) (hw _ w4) (hw _ w5) (by decide) (c_at hw (11 : Int32) v kk g rfl) (by decide) (by decide) rfl rfl rfl (by decide) (by decide) rfl pd__28IJII_29B rfl rfl (Nat.le_of_eq rfl) ?_
    refine Go.bastoreB (pc' := 286) (i := 14) (v := (.int (f_c_at (11 : Int32) v kk g))) (vs' := [(.int (f_c_at (-3 : Int32) v kk g)), (.int (f_c_at (-2 : Int32) v kk g)), (.int (f_c_at (-1 : Int32) v kk g)), (.int (f_c_at (0 : Int32) v kk g)), (.int (f_c_at (1 : Int32) v kk g)), (.int (f_c_at (2 : Int32) v kk g)), (.int (f_c_at (3 : Int32) v kk g)), (.int (f_c_at (4 : Int32) v kk g)), (.int (f_c_at (5 : Int32) v kk g)), (.int (f_c_at (6 : Int32) v kk g)), (.int (f_c_at (7 : Int32) v kk g)), (.int (f_c_at (8 : Int32) v kk g)), (.int (f_c_at (9 : Int32) v kk g)), (.int (f_c_at (10 : Int32) v kk g)), (.int (f_c_at (11 : Int32) v kk g)), (.int (0 : Int32))]) at_285 rfl A_arr (by decide) (Nat.le_of_ble_eq_true rfl) (congrArg Value.int (own_nar _ _ _ _)) rfl ?_
    intro h80 L80 NL80 W80 B80
    replace N0 := NL80 _ N0 gn_arr
    replace sz0 : n0 ≤ h80.size := by rw [W80.size]; exact sz0
    clear A_arr; have A_arr := B80
    refine Go.aload (pc' := 288) at_286 rfl rfl rfl ?_
    refine Go.bipush (pc' := 290) at_288 rfl (z := (15 : Int32)) (by decide) ?_
    refine Go.bipush (pc' := 292) at_290 rfl (z := (15 : Int32)) (by decide) ?_
    refine Go.iload (pc' := 294) at_292 rfl rfl ?_
    refine Go.isub (pc' := 295) at_294 rfl (z := (12 : Int32)) (by decide) ?_
    refine Go.lloadN (pc' := 296) at_295 rfl rfl ?_
    refine Go.iload (pc' := 298) at_296 rfl rfl ?_
    refine Go.iload (pc' := 300) at_298 rfl rfl ?_
    refine Go.callS0 (pc' := 303) (W := 2) (argsL := [(.int (12 : Int32)), (.long v), (.int kk), (.int g)]) (rest := [(.int (15 : Int32)), (.ref arr)]) (v0 := some (.int (f_c_at (12 : Int32) v kk g))) (st2 := [(.int (f_c_at (12 : Int32) v kk g)), (.int (15 : Int32)), (.ref arr)]) at_300 rfl (hw _ w2) (hw _ w3) (hw _ w4) (hw _ w5) (by decide) (c_at hw (12 : Int32) v kk g rfl) (by decide) (by decide) rfl rfl rfl (by decide) (by decide) rfl pd__28IJII_29B rfl rfl (Nat.le_of_eq rfl) ?_
    refine Go.bastoreB (pc' := 304) (i := 15) (v := (.int (f_c_at (12 : Int32) v kk g))) (vs' := [(.int (f_c_at (-3 : Int32) v kk g)), (.int (f_c_at (-2 : Int32) v kk g)), (.int (f_c_at (-1 : Int32) v kk g)), (.int (f_c_at (0 : Int32) v kk g)), (.int (f_c_at (1 : Int32) v kk g)), (.int (f_c_at (2 : Int32) v kk g)), (.int (f_c_at (3 : Int32) v kk g)), (.int (f_c_at (4 : Int32) v kk g)), (.int (f_c_at (5 : Int32) v kk g)), (.int (f_c_at (6 : Int32) v kk g)), (.int (f_c_at (7 : Int32) v kk g)), (.int (f_c_at (8 : Int32) v kk g)), (.int (f_c_at (9 : Int32) v kk g)), (.int (f_c_at (10 : Int32) v kk g)), (.int (f_c_at (11 : Int32) v kk g)), (.int (f_c_at (12 : Int32) v kk g))]) at_303 rfl A_arr (by decide) (Nat.le_of_ble_eq_true rfl) (congrArg Value.int (own_nar _ _ _ _)) rfl ?_
    intro h81 L81 NL81 W81 B81
    replace N0 := NL81 _ N0 gn_arr
    replace sz0 : n0 ≤ h81.size := by rw [W81.size]; exact sz0
    clear A_arr; have A_arr := B81
    refine Go.newO (pc' := 307) (k' := 2) (n' := 19) at_304 rfl (hw _ w8) (hw _ w9) (hw _ w10) (by decide) (by decide) rfl rfl ?_
    intro h82 a82 ha_a82 X82 E_a82 D82
    have ne_arr_a82 : arr ≠ a82 := Nat.ne_of_lt (by rw [ha_a82]; exact A_arr.lt)
    have gn_a82 : n0 ≤ a82 := by rw [ha_a82]; exact sz0
    replace sz0 : n0 ≤ h82.size := Nat.le_trans sz0 X82.1
    replace A_arr := A_arr.ext X82
    have F_a82_bytes : Fld Z h82 a82 "com/example/mixed_urn/mixedurn/index/ByteReader" "bytes" "[B" .null := D82 (Or.inr (hw _ w18)) (ty := (.array .byte)) (by decide)
    have F_a82_position : Fld Z h82 a82 "com/example/mixed_urn/mixedurn/index/ByteReader" "position" "I" (.int (0 : Int32)) := D82 (Or.inl (hw _ w20)) (ty := .int) (by decide)
    have F_a82_end : Fld Z h82 a82 "com/example/mixed_urn/mixedurn/index/ByteReader" "end" "I" (.int (0 : Int32)) := D82 (Or.inr (hw _ w22)) (ty := .int) (by decide)
    refine Go.dup (pc' := 308) at_307 rfl rfl ?_
    refine Go.aload (pc' := 310) at_308 rfl rfl rfl ?_
    refine Go.iload (pc' := 312) at_310 rfl rfl ?_
    refine Go.iload (pc' := 314) at_312 rfl rfl ?_
    refine Go.iload (pc' := 316) at_314 rfl rfl ?_
    refine Go.iadd (pc' := 317) at_316 rfl rfl ?_
    refine Go.callI (pc' := 320) (W := 1) (a := a82) (argsL := [(.ref arr), (.int (3 : Int32)), (.int (kk + ex))]) (rest := [(.ref a82)]) (k' := 2) (n' := 19) at_317 rfl rfl (hw _ w11) (hw _ w12) (hw _ w10) (hw _ w13) (by decide) (c_init hw sz0 a82 arr (3 : Int32) (kk + ex) gn_a82 E_a82 F_a82_bytes F_a82_position F_a82_end) (by decide) (by decide) (by decide) (by decide) rfl rfl rfl pd__28_5bBII_29V rfl rfl (Nat.le_of_eq rfl) ?_
    intro v83 h83 P83 L83 NL83 hq83
    obtain ⟨rfl, N83, K83, E_a82_83, F_a82_bytes_83, F_a82_position_83, F_a82_end_83⟩ := hq83
    dsimp only [Option.toList, List.cons_append, List.nil_append]
    replace N0 := NL83 _ N0 N83
    replace sz0 : n0 ≤ h83.size := Nat.le_trans sz0 K83.1
    clear E_a82
    clear F_a82_bytes
    clear F_a82_position
    clear F_a82_end
    replace A_arr := A_arr.keep K83 (ninS ne_arr_a82 nin0)
    have E_a82 := E_a82_83; clear E_a82_83
    have F_a82_bytes := F_a82_bytes_83; clear F_a82_bytes_83
    have F_a82_position := F_a82_position_83; clear F_a82_position_83
    have F_a82_end := F_a82_end_83; clear F_a82_end_83
    refine Go.astore (pc' := 322) at_320 rfl rfl (Ls' := #[.val (.long v), .second, .val (.int kq), .val (.int oo), .val (.int ee), .val (.int g), .val (.int kk), .val (.int (3 : Int32)), .val (.int ex), .val (.ref arr), .val (.ref a82), .unset, .unset, .unset, .unset]) rfl ?_
    refine Go.aload (pc' := 324) at_322 rfl rfl rfl ?_
    have hvs : ∀ i, i < K → ([(.int (f_c_at (-3 : Int32) v kk g)), (.int (f_c_at (-2 : Int32) v kk g)), (.int (f_c_at (-1 : Int32) v kk g)), (.int (f_c_at (0 : Int32) v kk g)), (.int (f_c_at (1 : Int32) v kk g)), (.int (f_c_at (2 : Int32) v kk g)), (.int (f_c_at (3 : Int32) v kk g)), (.int (f_c_at (4 : Int32) v kk g)), (.int (f_c_at (5 : Int32) v kk g)), (.int (f_c_at (6 : Int32) v kk g)), (.int (f_c_at (7 : Int32) v kk g)), (.int (f_c_at (8 : Int32) v kk g)), (.int (f_c_at (9 : Int32) v kk g)), (.int (f_c_at (10 : Int32) v kk g)), (.int (f_c_at (11 : Int32) v kk g)), (.int (f_c_at (12 : Int32) v kk g))] : List Value)[3 + i]? = some (.int (f_c_at (Int32.ofNat i) v kk g)) := by
      intro i hi
      match i, (show i < 10 by omega) with
      | 0, _ => rfl
      | 1, _ => rfl
      | 2, _ => rfl
      | 3, _ => rfl
      | 4, _ => rfl
      | 5, _ => rfl
      | 6, _ => rfl
      | 7, _ => rfl
      | 8, _ => rfl
      | 9, _ => rfl
    have ko : (3 : Int32).toInt = 3 := by decide
    have ea : (kk + ex).toInt = kk.toInt + ex.toInt := iadd_eq (by omega) (by omega)
    have eb : ((3 : Int32) + (kk + ex)).toInt = 3 + kk.toInt + ex.toInt := by rw [iadd_eq (by omega) (by omega), ko, ea]; omega
    refine Go.callV (pc' := 327) (W := 0) (a := a82) (argsL := []) (rest := []) (k' := 2) (n' := 19) at_324 rfl (hw _ w23) (hw _ w24) (nf_sel (hw _ w26)) (hw _ w26) (hw _ w25) (hw _ w10) (hw _ w27) E_a82 (by decide) (c_rn hw sz0 a82 arr gn_a82 ((3 : Int32) + (kk + ex)) v _ (fun i => f_c_at (Int32.ofNat i) v kk g) 3 K hK10 (by omega) hvs (fun i hi => own_at v kk g K i hK hi hK10) (3 : Int32) E_a82 F_a82_bytes F_a82_position F_a82_end A_arr (by decide) hK1) (by decide) (by decide) (by decide) (by decide) rfl rfl rfl pd__28_29J rfl rfl (Nat.le_of_eq rfl) ?_
    intro v84 h84 P84 L84 NL84 hq84
    obtain ⟨res, pk, rfl, N84, K84, E_a82_84, F_a82_bytes_84, F_a82_position_84, F_a82_end_84, hpk, hres⟩ := hq84
    dsimp only [Option.toList, List.cons_append, List.nil_append]
    replace N0 := NL84 _ N0 N84
    replace sz0 : n0 ≤ h84.size := Nat.le_trans sz0 K84.1
    clear E_a82
    clear F_a82_bytes
    clear F_a82_position
    clear F_a82_end
    replace A_arr := A_arr.keep K84 (ninS ne_arr_a82 nin0)
    have E_a82 := E_a82_84; clear E_a82_84
    have F_a82_bytes := F_a82_bytes_84; clear F_a82_bytes_84
    have F_a82_position := F_a82_position_84; clear F_a82_position_84
    have F_a82_end := F_a82_end_84; clear F_a82_end_84
    refine Go.lstore (pc' := 329) at_327 rfl (Ls' := #[.val (.long v), .second, .val (.int kq), .val (.int oo), .val (.int ee), .val (.int g), .val (.int kk), .val (.int (3 : Int32)), .val (.int ex), .val (.ref arr), .val (.ref a82), .val (.long res), .second, .unset, .unset]) rfl ?_
    rcases own_ten kk K hK hK1 hK10 with hs85 | hs85 | hs85 | hs85 | hs85 | hs85 | hs85 | hs85 | hs85 | hs85
    · subst hs85
      have kn : (1 : Int32).toInt = 1 := by decide
      obtain rfl : K = 1 := by omega
      refine Go.bipush (pc' := 331) at_329 rfl (z := (7 : Int32)) (by decide) ?_
      refine Go.iload (pc' := 333) at_331 rfl rfl ?_
      refine Go.imul (pc' := 334) at_333 rfl (z := (7 : Int32)) (by decide) ?_
      refine Go.bipush (pc' := 336) at_334 rfl (z := (64 : Int32)) (by decide) ?_
      refine Go.icmpT (pc' := 343) (X := (7 : Int)) (Y := (64 : Int)) at_336 (by decide) (by decide) (by decide) (by decide : (7 : Int) < (64 : Int)) ?_
      refine Go.lloadN (pc' := 344) at_343 rfl rfl ?_
      refine Go.lconst (pc' := 345) at_344 rfl (z := (1 : Int64)) (by decide) ?_
      refine Go.bipush (pc' := 347) at_345 rfl (z := (7 : Int32)) (by decide) ?_
      refine Go.iload (pc' := 349) at_347 rfl rfl ?_
      refine Go.imul (pc' := 350) at_349 rfl (z := (7 : Int32)) (by decide) ?_
      refine Go.lshl (pc' := 351) at_350 rfl (z := (128 : Int64)) (by decide) ?_
      refine Go.lconst (pc' := 352) at_351 rfl (z := (1 : Int64)) (by decide) ?_
      refine Go.lsub (pc' := 353) at_352 rfl (z := (127 : Int64)) (by decide) ?_
      refine Go.land (pc' := 354) at_353 rfl rfl ?_
      generalize hv_want : (v &&& (127 : Int64)) = want
      refine Go.lstore (pc' := 356) at_354 rfl (Ls' := #[.val (.long v), .second, .val (.int kq), .val (.int oo), .val (.int ee), .val (.int g), .val (.int (1 : Int32)), .val (.int (3 : Int32)), .val (.int ex), .val (.ref arr), .val (.ref a82), .val (.long res), .second, .val (.long want), .second]) rfl ?_
      
      by_cases hex : 0 < ex.toInt
      · have _ := hex
        refine Go.lload (pc' := 358) at_356 rfl rfl ?_
        refine Go.lload (pc' := 360) at_358 rfl rfl ?_
        refine Go.lcmpF (pc' := 364) (X := res.toInt) (Y := want.toInt) at_360 at_361 rfl rfl rfl rfl (by rw [← hv_want]; exact congrArg _ (own_want v res (127 : Int64) (7 * 1) (by decide) hres) : res.toInt = want.toInt) ?_
        refine Go.aload (pc' := 366) at_364 rfl rfl rfl ?_
        refine Go.callV0 (pc' := 369) (W := 0) (a := a82) (argsL := []) (rest := []) (v0 := some (.int pk)) (st2 := [(.int pk)]) at_366 rfl (hw _ w32) (hw _ w33) (nf_sel (hw _ w35)) (hw _ w35) (hw _ w34) (hw _ w10) (hw _ w36) E_a82 (by decide) (c_pos hw a82 arr pk ((3 : Int32) + ((1 : Int32) + ex)) E_a82 F_a82_bytes F_a82_position F_a82_end) (by decide) (by decide) rfl rfl rfl (by decide) (by decide) rfl pd__28_29I rfl rfl (Nat.le_of_eq rfl) ?_
        refine Go.iload (pc' := 371) at_369 rfl rfl ?_
        refine Go.iload (pc' := 373) at_371 rfl rfl ?_
        refine Go.iadd (pc' := 374) at_373 rfl (z := (4 : Int32)) (by decide) ?_
        refine Go.icmpF (pc' := 377) (X := pk.toInt) (Y := (4 : Int)) at_374 rfl rfl (by decide) (by omega : pk.toInt = (4 : Int)) ?_
        refine Go.aload (pc' := 379) at_377 rfl rfl rfl ?_
        refine Go.callV0 (pc' := 382) (W := 0) (a := a82) (argsL := []) (rest := []) (v0 := some (.int (1 : Int32))) (st2 := [(.int (1 : Int32))]) at_379 rfl (hw _ w37) (hw _ w38) (nf_sel (hw _ w40)) (hw _ w40) (hw _ w39) (hw _ w10) (hw _ w41) E_a82 (by decide) (c_has hw a82 arr pk ((3 : Int32) + ((1 : Int32) + ex)) (1 : Int32) E_a82 F_a82_bytes F_a82_position F_a82_end (if_pos (by omega))) (by decide) (by decide) rfl rfl rfl (by decide) (by decide) rfl pd__28_29Z rfl rfl (Nat.le_of_eq rfl) ?_
        refine Go.iload (pc' := 384) at_382 rfl rfl ?_
        refine Go.ifF (pc' := 387) (X := ex.toInt) at_384 rfl rfl (by omega : 0 < ex.toInt) ?_
        refine Go.iconst (pc' := 388) at_387 rfl (z := (1 : Int32)) (by decide) ?_
        refine Go.goto (pc' := 392) at_388 (by decide) ?_
        refine Go.icmpF (pc' := 395) (X := (1 : Int)) (Y := (1 : Int)) at_392 rfl (by decide) (by decide) (by decide : (1 : Int) = (1 : Int)) ?_
        refine Go.iconst (pc' := 396) at_395 rfl (z := (1 : Int32)) (by decide) ?_
        refine Go.goto (pc' := 400) at_396 (by decide) ?_
        refine Go.retZ at_400 rfl (by decide) (by decide) (by decide) ?_
        exact ⟨rfl, N0⟩
      · have _ := hex
        refine Go.lload (pc' := 358) at_356 rfl rfl ?_
        refine Go.lload (pc' := 360) at_358 rfl rfl ?_
        refine Go.lcmpF (pc' := 364) (X := res.toInt) (Y := want.toInt) at_360 at_361 rfl rfl rfl rfl (by rw [← hv_want]; exact congrArg _ (own_want v res (127 : Int64) (7 * 1) (by decide) hres) : res.toInt = want.toInt) ?_
        refine Go.aload (pc' := 366) at_364 rfl rfl rfl ?_
        refine Go.callV0 (pc' := 369) (W := 0) (a := a82) (argsL := []) (rest := []) (v0 := some (.int pk)) (st2 := [(.int pk)]) at_366 rfl (hw _ w32) (hw _ w33) (nf_sel (hw _ w35)) (hw _ w35) (hw _ w34) (hw _ w10) (hw _ w36) E_a82 (by decide) (c_pos hw a82 arr pk ((3 : Int32) + ((1 : Int32) + ex)) E_a82 F_a82_bytes F_a82_position F_a82_end) (by decide) (by decide) rfl rfl rfl (by decide) (by decide) rfl pd__28_29I rfl rfl (Nat.le_of_eq rfl) ?_
        refine Go.iload (pc' := 371) at_369 rfl rfl ?_
        refine Go.iload (pc' := 373) at_371 rfl rfl ?_
        refine Go.iadd (pc' := 374) at_373 rfl (z := (4 : Int32)) (by decide) ?_
        refine Go.icmpF (pc' := 377) (X := pk.toInt) (Y := (4 : Int)) at_374 rfl rfl (by decide) (by omega : pk.toInt = (4 : Int)) ?_
        refine Go.aload (pc' := 379) at_377 rfl rfl rfl ?_
        refine Go.callV0 (pc' := 382) (W := 0) (a := a82) (argsL := []) (rest := []) (v0 := some (.int (0 : Int32))) (st2 := [(.int (0 : Int32))]) at_379 rfl (hw _ w37) (hw _ w38) (nf_sel (hw _ w40)) (hw _ w40) (hw _ w39) (hw _ w10) (hw _ w41) E_a82 (by decide) (c_has hw a82 arr pk ((3 : Int32) + ((1 : Int32) + ex)) (0 : Int32) E_a82 F_a82_bytes F_a82_position F_a82_end (if_neg (by omega))) (by decide) (by decide) rfl rfl rfl (by decide) (by decide) rfl pd__28_29Z rfl rfl (Nat.le_of_eq rfl) ?_
        refine Go.iload (pc' := 384) at_382 rfl rfl ?_
        refine Go.ifT (pc' := 391) (X := ex.toInt) at_384 (by decide) rfl (by omega : ¬ 0 < ex.toInt) ?_
        refine Go.iconst (pc' := 392) at_391 rfl (z := (0 : Int32)) (by decide) ?_
        refine Go.icmpF (pc' := 395) (X := (0 : Int)) (Y := (0 : Int)) at_392 rfl (by decide) (by decide) (by decide : (0 : Int) = (0 : Int)) ?_
        refine Go.iconst (pc' := 396) at_395 rfl (z := (1 : Int32)) (by decide) ?_
        refine Go.goto (pc' := 400) at_396 (by decide) ?_
        refine Go.retZ at_400 rfl (by decide) (by decide) (by decide) ?_
        exact ⟨rfl, N0⟩
    · subst hs85
      have kn : (2 : Int32).toInt = 2 := by decide
      obtain rfl : K = 2 := by omega
      refine Go.bipush (pc' := 331) at_329 rfl (z := (7 : Int32)) (by decide) ?_
      refine Go.iload (pc' := 333) at_331 rfl rfl ?_
      refine Go.imul (pc' := 334) at_333 rfl (z := (14 : Int32)) (by decide) ?_
      refine Go.bipush (pc' := 336) at_334 rfl (z := (64 : Int32)) (by decide) ?_
      refine Go.icmpT (pc' := 343) (X := (14 : Int)) (Y := (64 : Int)) at_336 (by decide) (by decide) (by decide) (by decide : (14 : Int) < (64 : Int)) ?_
      refine Go.lloadN (pc' := 344) at_343 rfl rfl ?_
      refine Go.lconst (pc' := 345) at_344 rfl (z := (1 : Int64)) (by decide) ?_
      refine Go.bipush (pc' := 347) at_345 rfl (z := (7 : Int32)) (by decide) ?_
      refine Go.iload (pc' := 349) at_347 rfl rfl ?_
      refine Go.imul (pc' := 350) at_349 rfl (z := (14 : Int32)) (by decide) ?_
      refine Go.lshl (pc' := 351) at_350 rfl (z := (16384 : Int64)) (by decide) ?_
      refine Go.lconst (pc' := 352) at_351 rfl (z := (1 : Int64)) (by decide) ?_
      refine Go.lsub (pc' := 353) at_352 rfl (z := (16383 : Int64)) (by decide) ?_
      refine Go.land (pc' := 354) at_353 rfl rfl ?_
      generalize hv_want : (v &&& (16383 : Int64)) = want
      refine Go.lstore (pc' := 356) at_354 rfl (Ls' := #[.val (.long v), .second, .val (.int kq), .val (.int oo), .val (.int ee), .val (.int g), .val (.int (2 : Int32)), .val (.int (3 : Int32)), .val (.int ex), .val (.ref arr), .val (.ref a82), .val (.long res), .second, .val (.long want), .second]) rfl ?_
      
      by_cases hex : 0 < ex.toInt
      · have _ := hex
        refine Go.lload (pc' := 358) at_356 rfl rfl ?_
        refine Go.lload (pc' := 360) at_358 rfl rfl ?_
        refine Go.lcmpF (pc' := 364) (X := res.toInt) (Y := want.toInt) at_360 at_361 rfl rfl rfl rfl (by rw [← hv_want]; exact congrArg _ (own_want v res (16383 : Int64) (7 * 2) (by decide) hres) : res.toInt = want.toInt) ?_
        refine Go.aload (pc' := 366) at_364 rfl rfl rfl ?_
        refine Go.callV0 (pc' := 369) (W := 0) (a := a82) (argsL := []) (rest := []) (v0 := some (.int pk)) (st2 := [(.int pk)]) at_366 rfl (hw _ w32) (hw _ w33) (nf_sel (hw _ w35)) (hw _ w35) (hw _ w34) (hw _ w10) (hw _ w36) E_a82 (by decide) (c_pos hw a82 arr pk ((3 : Int32) + ((2 : Int32) + ex)) E_a82 F_a82_bytes F_a82_position F_a82_end) (by decide) (by decide) rfl rfl rfl (by decide) (by decide) rfl pd__28_29I rfl rfl (Nat.le_of_eq rfl) ?_
        refine Go.iload (pc' := 371) at_369 rfl rfl ?_
        refine Go.iload (pc' := 373) at_371 rfl rfl ?_
        refine Go.iadd (pc' := 374) at_373 rfl (z := (5 : Int32)) (by decide) ?_
        refine Go.icmpF (pc' := 377) (X := pk.toInt) (Y := (5 : Int)) at_374 rfl rfl (by decide) (by omega : pk.toInt = (5 : Int)) ?_
        refine Go.aload (pc' := 379) at_377 rfl rfl rfl ?_
        refine Go.callV0 (pc' := 382) (W := 0) (a := a82) (argsL := []) (rest := []) (v0 := some (.int (1 : Int32))) (st2 := [(.int (1 : Int32))]) at_379 rfl (hw _ w37) (hw _ w38) (nf_sel (hw _ w40)) (hw _ w40) (hw _ w39) (hw _ w10) (hw _ w41) E_a82 (by decide) (c_has hw a82 arr pk ((3 : Int32) + ((2 : Int32) + ex)) (1 : Int32) E_a82 F_a82_bytes F_a82_position F_a82_end (if_pos (by omega))) (by decide) (by decide) rfl rfl rfl (by decide) (by decide) rfl pd__28_29Z rfl rfl (Nat.le_of_eq rfl) ?_
        refine Go.iload (pc' := 384) at_382 rfl rfl ?_
        refine Go.ifF (pc' := 387) (X := ex.toInt) at_384 rfl rfl (by omega : 0 < ex.toInt) ?_
        refine Go.iconst (pc' := 388) at_387 rfl (z := (1 : Int32)) (by decide) ?_
        refine Go.goto (pc' := 392) at_388 (by decide) ?_
        refine Go.icmpF (pc' := 395) (X := (1 : Int)) (Y := (1 : Int)) at_392 rfl (by decide) (by decide) (by decide : (1 : Int) = (1 : Int)) ?_
        refine Go.iconst (pc' := 396) at_395 rfl (z := (1 : Int32)) (by decide) ?_
        refine Go.goto (pc' := 400) at_396 (by decide) ?_
        refine Go.retZ at_400 rfl (by decide) (by decide) (by decide) ?_
        exact ⟨rfl, N0⟩
      · have _ := hex
        refine Go.lload (pc' := 358) at_356 rfl rfl ?_
        refine Go.lload (pc' := 360) at_358 rfl rfl ?_
        refine Go.lcmpF (pc' := 364) (X := res.toInt) (Y := want.toInt) at_360 at_361 rfl rfl rfl rfl (by rw [← hv_want]; exact congrArg _ (own_want v res (16383 : Int64) (7 * 2) (by decide) hres) : res.toInt = want.toInt) ?_
        refine Go.aload (pc' := 366) at_364 rfl rfl rfl ?_
        refine Go.callV0 (pc' := 369) (W := 0) (a := a82) (argsL := []) (rest := []) (v0 := some (.int pk)) (st2 := [(.int pk)]) at_366 rfl (hw _ w32) (hw _ w33) (nf_sel (hw _ w35)) (hw _ w35) (hw _ w34) (hw _ w10) (hw _ w36) E_a82 (by decide) (c_pos hw a82 arr pk ((3 : Int32) + ((2 : Int32) + ex)) E_a82 F_a82_bytes F_a82_position F_a82_end) (by decide) (by decide) rfl rfl rfl (by decide) (by decide) rfl pd__28_29I rfl rfl (Nat.le_of_eq rfl) ?_
        refine Go.iload (pc' := 371) at_369 rfl rfl ?_
        refine Go.iload (pc' := 373) at_371 rfl rfl ?_
        refine Go.iadd (pc' := 374) at_373 rfl (z := (5 : Int32)) (by decide) ?_
        refine Go.icmpF (pc' := 377) (X := pk.toInt) (Y := (5 : Int)) at_374 rfl rfl (by decide) (by omega : pk.toInt = (5 : Int)) ?_
        refine Go.aload (pc' := 379) at_377 rfl rfl rfl ?_
        refine Go.callV0 (pc' := 382) (W := 0) (a := a82) (argsL := []) (rest := []) (v0 := some (.int (0 : Int32))) (st2 := [(.int (0 : Int32))]) at_379 rfl (hw _ w37) (hw _ w38) (nf_sel (hw _ w40)) (hw _ w40) (hw _ w39) (hw _ w10) (hw _ w41) E_a82 (by decide) (c_has hw a82 arr pk ((3 : Int32) + ((2 : Int32) + ex)) (0 : Int32) E_a82 F_a82_bytes F_a82_position F_a82_end (if_neg (by omega))) (by decide) (by decide) rfl rfl rfl (by decide) (by decide) rfl pd__28_29Z rfl rfl (Nat.le_of_eq rfl) ?_
        refine Go.iload (pc' := 384) at_382 rfl rfl ?_
        refine Go.ifT (pc' := 391) (X := ex.toInt) at_384 (by decide) rfl (by omega : ¬ 0 < ex.toInt) ?_
        refine Go.iconst (pc' := 392) at_391 rfl (z := (0 : Int32)) (by decide) ?_
        refine Go.icmpF (pc' := 395) (X := (0 : Int)) (Y := (0 : Int)) at_392 rfl (by decide) (by decide) (by decide : (0 : Int) = (0 : Int)) ?_
        refine Go.iconst (pc' := 396) at_395 rfl (z := (1 : Int32)) (by decide) ?_
        refine Go.goto (pc' := 400) at_396 (by decide) ?_
        refine Go.retZ at_400 rfl (by decide) (by decide) (by decide) ?_
        exact ⟨rfl, N0⟩
    · subst hs85
      have kn : (3 : Int32).toInt = 3 := by decide
      obtain rfl : K = 3 := by omega
      refine Go.bipush (pc' := 331) at_329 rfl (z := (7 : Int32)) (by decide) ?_
      refine Go.iload (pc' := 333) at_331 rfl rfl ?_
      refine Go.imul (pc' := 334) at_333 rfl (z := (21 : Int32)) (by decide) ?_
      refine Go.bipush (pc' := 336) at_334 rfl (z := (64 : Int32)) (by decide) ?_
      refine Go.icmpT (pc' := 343) (X := (21 : Int)) (Y := (64 : Int)) at_336 (by decide) (by decide) (by decide) (by decide : (21 : Int) < (64 : Int)) ?_
      refine Go.lloadN (pc' := 344) at_343 rfl rfl ?_
      refine Go.lconst (pc' := 345) at_344 rfl (z := (1 : Int64)) (by decide) ?_
      refine Go.bipush (pc' := 347) at_345 rfl (z := (7 : Int32)) (by decide) ?_
      refine Go.iload (pc' := 349) at_347 rfl rfl ?_
      refine Go.imul (pc' := 350) at_349 rfl (z := (21 : Int32)) (by decide) ?_
      refine Go.lshl (pc' := 351) at_350 rfl (z := (2097152 : Int64)) (by decide) ?_
      refine Go.lconst (pc' := 352) at_351 rfl (z := (1 : Int64)) (by decide) ?_
      refine Go.lsub (pc' := 353) at_352 rfl (z := (2097151 : Int64)) (by decide) ?_
      refine Go.land (pc' := 354) at_353 rfl rfl ?_
      generalize hv_want : (v &&& (2097151 : Int64)) = want
      refine Go.lstore (pc' := 356) at_354 rfl (Ls' := #[.val (.long v), .second, .val (.int kq), .val (.int oo), .val (.int ee), .val (.int g), .val (.int (3 : Int32)), .val (.int (3 : Int32)), .val (.int ex), .val (.ref arr), .val (.ref a82), .val (.long res), .second, .val (.long want), .second]) rfl ?_
      
      by_cases hex : 0 < ex.toInt
      · have _ := hex
        refine Go.lload (pc' := 358) at_356 rfl rfl ?_
        refine Go.lload (pc' := 360) at_358 rfl rfl ?_
        refine Go.lcmpF (pc' := 364) (X := res.toInt) (Y := want.toInt) at_360 at_361 rfl rfl rfl rfl (by rw [← hv_want]; exact congrArg _ (own_want v res (2097151 : Int64) (7 * 3) (by decide) hres) : res.toInt = want.toInt) ?_
        refine Go.aload (pc' := 366) at_364 rfl rfl rfl ?_
        refine Go.callV0 (pc' := 369) (W := 0) (a := a82) (argsL := []) (rest := []) (v0 := some (.int pk)) (st2 := [(.int pk)]) at_366 rfl (hw _ w32) (hw _ w33) (nf_sel (hw _ w35)) (hw _ w35) (hw _ w34) (hw _ w10) (hw _ w36) E_a82 (by decide) (c_pos hw a82 arr pk ((3 : Int32) + ((3 : Int32) + ex)) E_a82 F_a82_bytes F_a82_position F_a82_end) (by decide) (by decide) rfl rfl rfl (by decide) (by decide) rfl pd__28_29I rfl rfl (Nat.le_of_eq rfl) ?_
        refine Go.iload (pc' := 371) at_369 rfl rfl ?_
        refine Go.iload (pc' := 373) at_371 rfl rfl ?_
        refine Go.iadd (pc' := 374) at_373 rfl (z := (6 : Int32)) (by decide) ?_
        refine Go.icmpF (pc' := 377) (X := pk.toInt) (Y := (6 : Int)) at_374 rfl rfl (by decide) (by omega : pk.toInt = (6 : Int)) ?_
        refine Go.aload (pc' := 379) at_377 rfl rfl rfl ?_
        refine Go.callV0 (pc' := 382) (W := 0) (a := a82) (argsL := []) (rest := []) (v0 := some (.int (1 : Int32))) (st2 := [(.int (1 : Int32))]) at_379 rfl (hw _ w37) (hw _ w38) (nf_sel (hw _ w40)) (hw _ w40) (hw _ w39) (hw _ w10) (hw _ w41) E_a82 (by decide) (c_has hw a82 arr pk ((3 : Int32) + ((3 : Int32) + ex)) (1 : Int32) E_a82 F_a82_bytes F_a82_position F_a82_end (if_pos (by omega))) (by decide) (by decide) rfl rfl rfl (by decide) (by decide) rfl pd__28_29Z rfl rfl (Nat.le_of_eq rfl) ?_
        refine Go.iload (pc' := 384) at_382 rfl rfl ?_
        refine Go.ifF (pc' := 387) (X := ex.toInt) at_384 rfl rfl (by omega : 0 < ex.toInt) ?_
        refine Go.iconst (pc' := 388) at_387 rfl (z := (1 : Int32)) (by decide) ?_
        refine Go.goto (pc' := 392) at_388 (by decide) ?_
        refine Go.icmpF (pc' := 395) (X := (1 : Int)) (Y := (1 : Int)) at_392 rfl (by decide) (by decide) (by decide : (1 : Int) = (1 : Int)) ?_
        refine Go.iconst (pc' := 396) at_395 rfl (z := (1 : Int32)) (by decide) ?_
        refine Go.goto (pc' := 400) at_396 (by decide) ?_
        refine Go.retZ at_400 rfl (by decide) (by decide) (by decide) ?_
        exact ⟨rfl, N0⟩
      · have _ := hex
        refine Go.lload (pc' := 358) at_356 rfl rfl ?_
        refine Go.lload (pc' := 360) at_358 rfl rfl ?_
        refine Go.lcmpF (pc' := 364) (X := res.toInt) (Y := want.toInt) at_360 at_361 rfl rfl rfl rfl (by rw [← hv_want]; exact congrArg _ (own_want v res (2097151 : Int64) (7 * 3) (by decide) hres) : res.toInt = want.toInt) ?_
        refine Go.aload (pc' := 366) at_364 rfl rfl rfl ?_
        refine Go.callV0 (pc' := 369) (W := 0) (a := a82) (argsL := []) (rest := []) (v0 := some (.int pk)) (st2 := [(.int pk)]) at_366 rfl (hw _ w32) (hw _ w33) (nf_sel (hw _ w35)) (hw _ w35) (hw _ w34) (hw _ w10) (hw _ w36) E_a82 (by decide) (c_pos hw a82 arr pk ((3 : Int32) + ((3 : Int32) + ex)) E_a82 F_a82_bytes F_a82_position F_a82_end) (by decide) (by decide) rfl rfl rfl (by decide) (by decide) rfl pd__28_29I rfl rfl (Nat.le_of_eq rfl) ?_
        refine Go.iload (pc' := 371) at_369 rfl rfl ?_
        refine Go.iload (pc' := 373) at_371 rfl rfl ?_
        refine Go.iadd (pc' := 374) at_373 rfl (z := (6 : Int32)) (by decide) ?_
        refine Go.icmpF (pc' := 377) (X := pk.toInt) (Y := (6 : Int)) at_374 rfl rfl (by decide) (by omega : pk.toInt = (6 : Int)) ?_
        refine Go.aload (pc' := 379) at_377 rfl rfl rfl ?_
        refine Go.callV0 (pc' := 382) (W := 0) (a := a82) (argsL := []) (rest := []) (v0 := some (.int (0 : Int32))) (st2 := [(.int (0 : Int32))]) at_379 rfl (hw _ w37) (hw _ w38) (nf_sel (hw _ w40)) (hw _ w40) (hw _ w39) (hw _ w10) (hw _ w41) E_a82 (by decide) (c_has hw a82 arr pk ((3 : Int32) + ((3 : Int32) + ex)) (0 : Int32) E_a82 F_a82_bytes F_a82_position F_a82_end (if_neg (by omega))) (by decide) (by decide) rfl rfl rfl (by decide) (by decide) rfl pd__28_29Z rfl rfl (Nat.le_of_eq rfl) ?_
        refine Go.iload (pc' := 384) at_382 rfl rfl ?_
        refine Go.ifT (pc' := 391) (X := ex.toInt) at_384 (by decide) rfl (by omega : ¬ 0 < ex.toInt) ?_
        refine Go.iconst (pc' := 392) at_391 rfl (z := (0 : Int32)) (by decide) ?_
        refine Go.icmpF (pc' := 395) (X := (0 : Int)) (Y := (0 : Int)) at_392 rfl (by decide) (by decide) (by decide : (0 : Int) = (0 : Int)) ?_
        refine Go.iconst (pc' := 396) at_395 rfl (z := (1 : Int32)) (by decide) ?_
        refine Go.goto (pc' := 400) at_396 (by decide) ?_
        refine Go.retZ at_400 rfl (by decide) (by decide) (by decide) ?_
        exact ⟨rfl, N0⟩
    · subst hs85
      have kn : (4 : Int32).toInt = 4 := by decide
      obtain rfl : K = 4 := by omega
      refine Go.bipush (pc' := 331) at_329 rfl (z := (7 : Int32)) (by decide) ?_
      refine Go.iload (pc' := 333) at_331 rfl rfl ?_
      refine Go.imul (pc' := 334) at_333 rfl (z := (28 : Int32)) (by decide) ?_
      refine Go.bipush (pc' := 336) at_334 rfl (z := (64 : Int32)) (by decide) ?_
      refine Go.icmpT (pc' := 343) (X := (28 : Int)) (Y := (64 : Int)) at_336 (by decide) (by decide) (by decide) (by decide : (28 : Int) < (64 : Int)) ?_
      refine Go.lloadN (pc' := 344) at_343 rfl rfl ?_
      refine Go.lconst (pc' := 345) at_344 rfl (z := (1 : Int64)) (by decide) ?_
      refine Go.bipush (pc' := 347) at_345 rfl (z := (7 : Int32)) (by decide) ?_
      refine Go.iload (pc' := 349) at_347 rfl rfl ?_
      refine Go.imul (pc' := 350) at_349 rfl (z := (28 : Int32)) (by decide) ?_
      refine Go.lshl (pc' := 351) at_350 rfl (z := (268435456 : Int64)) (by decide) ?_
      refine Go.lconst (pc' := 352) at_351 rfl (z := (1 : Int64)) (by decide) ?_
      refine Go.lsub (pc' := 353) at_352 rfl (z := (268435455 : Int64)) (by decide) ?_
      refine Go.land (pc' := 354) at_353 rfl rfl ?_
      generalize hv_want : (v &&& (268435455 : Int64)) = want
      refine Go.lstore (pc' := 356) at_354 rfl (Ls' := #[.val (.long v), .second, .val (.int kq), .val (.int oo), .val (.int ee), .val (.int g), .val (.int (4 : Int32)), .val (.int (3 : Int32)), .val (.int ex), .val (.ref arr), .val (.ref a82), .val (.long res), .second, .val (.long want), .second]) rfl ?_
      
      by_cases hex : 0 < ex.toInt
      · have _ := hex
        refine Go.lload (pc' := 358) at_356 rfl rfl ?_
        refine Go.lload (pc' := 360) at_358 rfl rfl ?_
        refine Go.lcmpF (pc' := 364) (X := res.toInt) (Y := want.toInt) at_360 at_361 rfl rfl rfl rfl (by rw [← hv_want]; exact congrArg _ (own_want v res (268435455 : Int64) (7 * 4) (by decide) hres) : res.toInt = want.toInt) ?_
        refine Go.aload (pc' := 366) at_364 rfl rfl rfl ?_
        refine Go.callV0 (pc' := 369) (W := 0) (a := a82) (argsL := []) (rest := []) (v0 := some (.int pk)) (st2 := [(.int pk)]) at_366 rfl (hw _ w32) (hw _ w33) (nf_sel (hw _ w35)) (hw _ w35) (hw _ w34) (hw _ w10) (hw _ w36) E_a82 (by decide) (c_pos hw a82 arr pk ((3 : Int32) + ((4 : Int32) + ex)) E_a82 F_a82_bytes F_a82_position F_a82_end) (by decide) (by decide) rfl rfl rfl (by decide) (by decide) rfl pd__28_29I rfl rfl (Nat.le_of_eq rfl) ?_
        refine Go.iload (pc' := 371) at_369 rfl rfl ?_
        refine Go.iload (pc' := 373) at_371 rfl rfl ?_
        refine Go.iadd (pc' := 374) at_373 rfl (z := (7 : Int32)) (by decide) ?_
        refine Go.icmpF (pc' := 377) (X := pk.toInt) (Y := (7 : Int)) at_374 rfl rfl (by decide) (by omega : pk.toInt = (7 : Int)) ?_
        refine Go.aload (pc' := 379) at_377 rfl rfl rfl ?_
        refine Go.callV0 (pc' := 382) (W := 0) (a := a82) (argsL := []) (rest := []) (v0 := some (.int (1 : Int32))) (st2 := [(.int (1 : Int32))]) at_379 rfl (hw _ w37) (hw _ w38) (nf_sel (hw _ w40)) (hw _ w40) (hw _ w39) (hw _ w10) (hw _ w41) E_a82 (by decide) (c_has hw a82 arr pk ((3 : Int32) + ((4 : Int32) + ex)) (1 : Int32) E_a82 F_a82_bytes F_a82_position F_a82_end (if_pos (by omega))) (by decide) (by decide) rfl rfl rfl (by decide) (by decide) rfl pd__28_29Z rfl rfl (Nat.le_of_eq rfl) ?_
        refine Go.iload (pc' := 384) at_382 rfl rfl ?_
        refine Go.ifF (pc' := 387) (X := ex.toInt) at_384 rfl rfl (by omega : 0 < ex.toInt) ?_
        refine Go.iconst (pc' := 388) at_387 rfl (z := (1 : Int32)) (by decide) ?_
        refine Go.goto (pc' := 392) at_388 (by decide) ?_
        refine Go.icmpF (pc' := 395) (X := (1 : Int)) (Y := (1 : Int)) at_392 rfl (by decide) (by decide) (by decide : (1 : Int) = (1 : Int)) ?_
        refine Go.iconst (pc' := 396) at_395 rfl (z := (1 : Int32)) (by decide) ?_
        refine Go.goto (pc' := 400) at_396 (by decide) ?_
        refine Go.retZ at_400 rfl (by decide) (by decide) (by decide) ?_
        exact ⟨rfl, N0⟩
      · have _ := hex
        refine Go.lload (pc' := 358) at_356 rfl rfl ?_
        refine Go.lload (pc' := 360) at_358 rfl rfl ?_
        refine Go.lcmpF (pc' := 364) (X := res.toInt) (Y := want.toInt) at_360 at_361 rfl rfl rfl rfl (by rw [← hv_want]; exact congrArg _ (own_want v res (268435455 : Int64) (7 * 4) (by decide) hres) : res.toInt = want.toInt) ?_
        refine Go.aload (pc' := 366) at_364 rfl rfl rfl ?_
        refine Go.callV0 (pc' := 369) (W := 0) (a := a82) (argsL := []) (rest := []) (v0 := some (.int pk)) (st2 := [(.int pk)]) at_366 rfl (hw _ w32) (hw _ w33) (nf_sel (hw _ w35)) (hw _ w35) (hw _ w34) (hw _ w10) (hw _ w36) E_a82 (by decide) (c_pos hw a82 arr pk ((3 : Int32) + ((4 : Int32) + ex)) E_a82 F_a82_bytes F_a82_position F_a82_end) (by decide) (by decide) rfl rfl rfl (by decide) (by decide) rfl pd__28_29I rfl rfl (Nat.le_of_eq rfl) ?_
        refine Go.iload (pc' := 371) at_369 rfl rfl ?_
        refine Go.iload (pc' := 373) at_371 rfl rfl ?_
        refine Go.iadd (pc' := 374) at_373 rfl (z := (7 : Int32)) (by decide) ?_
        refine Go.icmpF (pc' := 377) (X := pk.toInt) (Y := (7 : Int)) at_374 rfl rfl (by decide) (by omega : pk.toInt = (7 : Int)) ?_
        refine Go.aload (pc' := 379) at_377 rfl rfl rfl ?_
        refine Go.callV0 (pc' := 382) (W := 0) (a := a82) (argsL := []) (rest := []) (v0 := some (.int (0 : Int32))) (st2 := [(.int (0 : Int32))]) at_379 rfl (hw _ w37) (hw _ w38) (nf_sel (hw _ w40)) (hw _ w40) (hw _ w39) (hw _ w10) (hw _ w41) E_a82 (by decide) (c_has hw a82 arr pk ((3 : Int32) + ((4 : Int32) + ex)) (0 : Int32) E_a82 F_a82_bytes F_a82_position F_a82_end (if_neg (by omega))) (by decide) (by decide) rfl rfl rfl (by decide) (by decide) rfl pd__28_29Z rfl rfl (Nat.le_of_eq rfl) ?_
        refine Go.iload (pc' := 384) at_382 rfl rfl ?_
        refine Go.ifT (pc' := 391) (X := ex.toInt) at_384 (by decide) rfl (by omega : ¬ 0 < ex.toInt) ?_
        refine Go.iconst (pc' := 392) at_391 rfl (z := (0 : Int32)) (by decide) ?_
        refine Go.icmpF (pc' := 395) (X := (0 : Int)) (Y := (0 : Int)) at_392 rfl (by decide) (by decide) (by decide : (0 : Int) = (0 : Int)) ?_
        refine Go.iconst (pc' := 396) at_395 rfl (z := (1 : Int32)) (by decide) ?_
        refine Go.goto (pc' := 400) at_396 (by decide) ?_
        refine Go.retZ at_400 rfl (by decide) (by decide) (by decide) ?_
        exact ⟨rfl, N0⟩
    · subst hs85
      have kn : (5 : Int32).toInt = 5 := by decide
      obtain rfl : K = 5 := by omega
      refine Go.bipush (pc' := 331) at_329 rfl (z := (7 : Int32)) (by decide) ?_
      refine Go.iload (pc' := 333) at_331 rfl rfl ?_
      refine Go.imul (pc' := 334) at_333 rfl (z := (35 : Int32)) (by decide) ?_
      refine Go.bipush (pc' := 336) at_334 rfl (z := (64 : Int32)) (by decide) ?_
      refine Go.icmpT (pc' := 343) (X := (35 : Int)) (Y := (64 : Int)) at_336 (by decide) (by decide) (by decide) (by decide : (35 : Int) < (64 : Int)) ?_
      refine Go.lloadN (pc' := 344) at_343 rfl rfl ?_
      refine Go.lconst (pc' := 345) at_344 rfl (z := (1 : Int64)) (by decide) ?_
      refine Go.bipush (pc' := 347) at_345 rfl (z := (7 : Int32)) (by decide) ?_
      refine Go.iload (pc' := 349) at_347 rfl rfl ?_
      refine Go.imul (pc' := 350) at_349 rfl (z := (35 : Int32)) (by decide) ?_
      refine Go.lshl (pc' := 351) at_350 rfl (z := (34359738368 : Int64)) (by decide) ?_
      refine Go.lconst (pc' := 352) at_351 rfl (z := (1 : Int64)) (by decide) ?_
      refine Go.lsub (pc' := 353) at_352 rfl (z := (34359738367 : Int64)) (by decide) ?_
      refine Go.land (pc' := 354) at_353 rfl rfl ?_
      generalize hv_want : (v &&& (34359738367 : Int64)) = want
      refine Go.lstore (pc' := 356) at_354 rfl (Ls' := #[.val (.long v), .second, .val (.int kq), .val (.int oo), .val (.int ee), .val (.int g), .val (.int (5 : Int32)), .val (.int (3 : Int32)), .val (.int ex), .val (.ref arr), .val (.ref a82), .val (.long res), .second, .val (.long want), .second]) rfl ?_
      
      by_cases hex : 0 < ex.toInt
      · have _ := hex
        refine Go.lload (pc' := 358) at_356 rfl rfl ?_
        refine Go.lload (pc' := 360) at_358 rfl rfl ?_
        refine Go.lcmpF (pc' := 364) (X := res.toInt) (Y := want.toInt) at_360 at_361 rfl rfl rfl rfl (by rw [← hv_want]; exact congrArg _ (own_want v res (34359738367 : Int64) (7 * 5) (by decide) hres) : res.toInt = want.toInt) ?_
        refine Go.aload (pc' := 366) at_364 rfl rfl rfl ?_
        refine Go.callV0 (pc' := 369) (W := 0) (a := a82) (argsL := []) (rest := []) (v0 := some (.int pk)) (st2 := [(.int pk)]) at_366 rfl (hw _ w32) (hw _ w33) (nf_sel (hw _ w35)) (hw _ w35) (hw _ w34) (hw _ w10) (hw _ w36) E_a82 (by decide) (c_pos hw a82 arr pk ((3 : Int32) + ((5 : Int32) + ex)) E_a82 F_a82_bytes F_a82_position F_a82_end) (by decide) (by decide) rfl rfl rfl (by decide) (by decide) rfl pd__28_29I rfl rfl (Nat.le_of_eq rfl) ?_
        refine Go.iload (pc' := 371) at_369 rfl rfl ?_
        refine Go.iload (pc' := 373) at_371 rfl rfl ?_
        refine Go.iadd (pc' := 374) at_373 rfl (z := (8 : Int32)) (by decide) ?_
        refine Go.icmpF (pc' := 377) (X := pk.toInt) (Y := (8 : Int)) at_374 rfl rfl (by decide) (by omega : pk.toInt = (8 : Int)) ?_
        refine Go.aload (pc' := 379) at_377 rfl rfl rfl ?_
        refine Go.callV0 (pc' := 382) (W := 0) (a := a82) (argsL := []) (rest := []) (v0 := some (.int (1 : Int32))) (st2 := [(.int (1 : Int32))]) at_379 rfl (hw _ w37) (hw _ w38) (nf_sel (hw _ w40)) (hw _ w40) (hw _ w39) (hw _ w10) (hw _ w41) E_a82 (by decide) (c_has hw a82 arr pk ((3 : Int32) + ((5 : Int32) + ex)) (1 : Int32) E_a82 F_a82_bytes F_a82_position F_a82_end (if_pos (by omega))) (by decide) (by decide) rfl rfl rfl (by decide) (by decide) rfl pd__28_29Z rfl rfl (Nat.le_of_eq rfl) ?_
        refine Go.iload (pc' := 384) at_382 rfl rfl ?_
        refine Go.ifF (pc' := 387) (X := ex.toInt) at_384 rfl rfl (by omega : 0 < ex.toInt) ?_
        refine Go.iconst (pc' := 388) at_387 rfl (z := (1 : Int32)) (by decide) ?_
        refine Go.goto (pc' := 392) at_388 (by decide) ?_
        refine Go.icmpF (pc' := 395) (X := (1 : Int)) (Y := (1 : Int)) at_392 rfl (by decide) (by decide) (by decide : (1 : Int) = (1 : Int)) ?_
        refine Go.iconst (pc' := 396) at_395 rfl (z := (1 : Int32)) (by decide) ?_
        refine Go.goto (pc' := 400) at_396 (by decide) ?_
        refine Go.retZ at_400 rfl (by decide) (by decide) (by decide) ?_
        exact ⟨rfl, N0⟩
      · have _ := hex
        refine Go.lload (pc' := 358) at_356 rfl rfl ?_
        refine Go.lload (pc' := 360) at_358 rfl rfl ?_
        refine Go.lcmpF (pc' := 364) (X := res.toInt) (Y := want.toInt) at_360 at_361 rfl rfl rfl rfl (by rw [← hv_want]; exact congrArg _ (own_want v res (34359738367 : Int64) (7 * 5) (by decide) hres) : res.toInt = want.toInt) ?_
        refine Go.aload (pc' := 366) at_364 rfl rfl rfl ?_
        refine Go.callV0 (pc' := 369) (W := 0) (a := a82) (argsL := []) (rest := []) (v0 := some (.int pk)) (st2 := [(.int pk)]) at_366 rfl (hw _ w32) (hw _ w33) (nf_sel (hw _ w35)) (hw _ w35) (hw _ w34) (hw _ w10) (hw _ w36) E_a82 (by decide) (c_pos hw a82 arr pk ((3 : Int32) + ((5 : Int32) + ex)) E_a82 F_a82_bytes F_a82_position F_a82_end) (by decide) (by decide) rfl rfl rfl (by decide) (by decide) rfl pd__28_29I rfl rfl (Nat.le_of_eq rfl) ?_
        refine Go.iload (pc' := 371) at_369 rfl rfl ?_
        refine Go.iload (pc' := 373) at_371 rfl rfl ?_
        refine Go.iadd (pc' := 374) at_373 rfl (z := (8 : Int32)) (by decide) ?_
        refine Go.icmpF (pc' := 377) (X := pk.toInt) (Y := (8 : Int)) at_374 rfl rfl (by decide) (by omega : pk.toInt = (8 : Int)) ?_
        refine Go.aload (pc' := 379) at_377 rfl rfl rfl ?_
        refine Go.callV0 (pc' := 382) (W := 0) (a := a82) (argsL := []) (rest := []) (v0 := some (.int (0 : Int32))) (st2 := [(.int (0 : Int32))]) at_379 rfl (hw _ w37) (hw _ w38) (nf_sel (hw _ w40)) (hw _ w40) (hw _ w39) (hw _ w10) (hw _ w41) E_a82 (by decide) (c_has hw a82 arr pk ((3 : Int32) + ((5 : Int32) + ex)) (0 : Int32) E_a82 F_a82_bytes F_a82_position F_a82_end (if_neg (by omega))) (by decide) (by decide) rfl rfl rfl (by decide) (by decide) rfl pd__28_29Z rfl rfl (Nat.le_of_eq rfl) ?_
        refine Go.iload (pc' := 384) at_382 rfl rfl ?_
        refine Go.ifT (pc' := 391) (X := ex.toInt) at_384 (by decide) rfl (by omega : ¬ 0 < ex.toInt) ?_
        refine Go.iconst (pc' := 392) at_391 rfl (z := (0 : Int32)) (by decide) ?_
        refine Go.icmpF (pc' := 395) (X := (0 : Int)) (Y := (0 : Int)) at_392 rfl (by decide) (by decide) (by decide : (0 : Int) = (0 : Int)) ?_
        refine Go.iconst (pc' := 396) at_395 rfl (z := (1 : Int32)) (by decide) ?_
        refine Go.goto (pc' := 400) at_396 (by decide) ?_
        refine Go.retZ at_400 rfl (by decide) (by decide) (by decide) ?_
        exact ⟨rfl, N0⟩
    · subst hs85
      have kn : (6 : Int32).toInt = 6 := by decide
      obtain rfl : K = 6 := by omega
      refine Go.bipush (pc' := 331) at_329 rfl (z := (7 : Int32)) (by decide) ?_
      refine Go.iload (pc' := 333) at_331 rfl rfl ?_
      refine Go.imul (pc' := 334) at_333 rfl (z := (42 : Int32)) (by decide) ?_
      refine Go.bipush (pc' := 336) at_334 rfl (z := (64 : Int32)) (by decide) ?_
      refine Go.icmpT (pc' := 343) (X := (42 : Int)) (Y := (64 : Int)) at_336 (by decide) (by decide) (by decide) (by decide : (42 : Int) < (64 : Int)) ?_
      refine Go.lloadN (pc' := 344) at_343 rfl rfl ?_
      refine Go.lconst (pc' := 345) at_344 rfl (z := (1 : Int64)) (by decide) ?_
      refine Go.bipush (pc' := 347) at_345 rfl (z := (7 : Int32)) (by decide) ?_
      refine Go.iload (pc' := 349) at_347 rfl rfl ?_
      refine Go.imul (pc' := 350) at_349 rfl (z := (42 : Int32)) (by decide) ?_
      refine Go.lshl (pc' := 351) at_350 rfl (z := (4398046511104 : Int64)) (by decide) ?_
      refine Go.lconst (pc' := 352) at_351 rfl (z := (1 : Int64)) (by decide) ?_
      refine Go.lsub (pc' := 353) at_352 rfl (z := (4398046511103 : Int64)) (by decide) ?_
      refine Go.land (pc' := 354) at_353 rfl rfl ?_
      generalize hv_want : (v &&& (4398046511103 : Int64)) = want
      refine Go.lstore (pc' := 356) at_354 rfl (Ls' := #[.val (.long v), .second, .val (.int kq), .val (.int oo), .val (.int ee), .val (.int g), .val (.int (6 : Int32)), .val (.int (3 : Int32)), .val (.int ex), .val (.ref arr), .val (.ref a82), .val (.long res), .second, .val (.long want), .second]) rfl ?_
      
      by_cases hex : 0 < ex.toInt
      · have _ := hex
        refine Go.lload (pc' := 358) at_356 rfl rfl ?_
        refine Go.lload (pc' := 360) at_358 rfl rfl ?_
        refine Go.lcmpF (pc' := 364) (X := res.toInt) (Y := want.toInt) at_360 at_361 rfl rfl rfl rfl (by rw [← hv_want]; exact congrArg _ (own_want v res (4398046511103 : Int64) (7 * 6) (by decide) hres) : res.toInt = want.toInt) ?_
        refine Go.aload (pc' := 366) at_364 rfl rfl rfl ?_
        refine Go.callV0 (pc' := 369) (W := 0) (a := a82) (argsL := []) (rest := []) (v0 := some (.int pk)) (st2 := [(.int pk)]) at_366 rfl (hw _ w32) (hw _ w33) (nf_sel (hw _ w35)) (hw _ w35) (hw _ w34) (hw _ w10) (hw _ w36) E_a82 (by decide) (c_pos hw a82 arr pk ((3 : Int32) + ((6 : Int32) + ex)) E_a82 F_a82_bytes F_a82_position F_a82_end) (by decide) (by decide) rfl rfl rfl (by decide) (by decide) rfl pd__28_29I rfl rfl (Nat.le_of_eq rfl) ?_
        refine Go.iload (pc' := 371) at_369 rfl rfl ?_
        refine Go.iload (pc' := 373) at_371 rfl rfl ?_
        refine Go.iadd (pc' := 374) at_373 rfl (z := (9 : Int32)) (by decide) ?_
        refine Go.icmpF (pc' := 377) (X := pk.toInt) (Y := (9 : Int)) at_374 rfl rfl (by decide) (by omega : pk.toInt = (9 : Int)) ?_
        refine Go.aload (pc' := 379) at_377 rfl rfl rfl ?_
        refine Go.callV0 (pc' := 382) (W := 0) (a := a82) (argsL := []) (rest := []) (v0 := some (.int (1 : Int32))) (st2 := [(.int (1 : Int32))]) at_379 rfl (hw _ w37) (hw _ w38) (nf_sel (hw _ w40)) (hw _ w40) (hw _ w39) (hw _ w10) (hw _ w41) E_a82 (by decide) (c_has hw a82 arr pk ((3 : Int32) + ((6 : Int32) + ex)) (1 : Int32) E_a82 F_a82_bytes F_a82_position F_a82_end (if_pos (by omega))) (by decide) (by decide) rfl rfl rfl (by decide) (by decide) rfl pd__28_29Z rfl rfl (Nat.le_of_eq rfl) ?_
        refine Go.iload (pc' := 384) at_382 rfl rfl ?_
        refine Go.ifF (pc' := 387) (X := ex.toInt) at_384 rfl rfl (by omega : 0 < ex.toInt) ?_
        refine Go.iconst (pc' := 388) at_387 rfl (z := (1 : Int32)) (by decide) ?_
        refine Go.goto (pc' := 392) at_388 (by decide) ?_
        refine Go.icmpF (pc' := 395) (X := (1 : Int)) (Y := (1 : Int)) at_392 rfl (by decide) (by decide) (by decide : (1 : Int) = (1 : Int)) ?_
        refine Go.iconst (pc' := 396) at_395 rfl (z := (1 : Int32)) (by decide) ?_
        refine Go.goto (pc' := 400) at_396 (by decide) ?_
        refine Go.retZ at_400 rfl (by decide) (by decide) (by decide) ?_
        exact ⟨rfl, N0⟩
      · have _ := hex
        refine Go.lload (pc' := 358) at_356 rfl rfl ?_
        refine Go.lload (pc' := 360) at_358 rfl rfl ?_
        refine Go.lcmpF (pc' := 364) (X := res.toInt) (Y := want.toInt) at_360 at_361 rfl rfl rfl rfl (by rw [← hv_want]; exact congrArg _ (own_want v res (4398046511103 : Int64) (7 * 6) (by decide) hres) : res.toInt = want.toInt) ?_
        refine Go.aload (pc' := 366) at_364 rfl rfl rfl ?_
        refine Go.callV0 (pc' := 369) (W := 0) (a := a82) (argsL := []) (rest := []) (v0 := some (.int pk)) (st2 := [(.int pk)]) at_366 rfl (hw _ w32) (hw _ w33) (nf_sel (hw _ w35)) (hw _ w35) (hw _ w34) (hw _ w10) (hw _ w36) E_a82 (by decide) (c_pos hw a82 arr pk ((3 : Int32) + ((6 : Int32) + ex)) E_a82 F_a82_bytes F_a82_position F_a82_end) (by decide) (by decide) rfl rfl rfl (by decide) (by decide) rfl pd__28_29I rfl rfl (Nat.le_of_eq rfl) ?_
        refine Go.iload (pc' := 371) at_369 rfl rfl ?_
        refine Go.iload (pc' := 373) at_371 rfl rfl ?_
        refine Go.iadd (pc' := 374) at_373 rfl (z := (9 : Int32)) (by decide) ?_
        refine Go.icmpF (pc' := 377) (X := pk.toInt) (Y := (9 : Int)) at_374 rfl rfl (by decide) (by omega : pk.toInt = (9 : Int)) ?_
        refine Go.aload (pc' := 379) at_377 rfl rfl rfl ?_
        refine Go.callV0 (pc' := 382) (W := 0) (a := a82) (argsL := []) (rest := []) (v0 := some (.int (0 : Int32))) (st2 := [(.int (0 : Int32))]) at_379 rfl (hw _ w37) (hw _ w38) (nf_sel (hw _ w40)) (hw _ w40) (hw _ w39) (hw _ w10) (hw _ w41) E_a82 (by decide) (c_has hw a82 arr pk ((3 : Int32) + ((6 : Int32) + ex)) (0 : Int32) E_a82 F_a82_bytes F_a82_position F_a82_end (if_neg (by omega))) (by decide) (by decide) rfl rfl rfl (by decide) (by decide) rfl pd__28_29Z rfl rfl (Nat.le_of_eq rfl) ?_
        refine Go.iload (pc' := 384) at_382 rfl rfl ?_
        refine Go.ifT (pc' := 391) (X := ex.toInt) at_384 (by decide) rfl (by omega : ¬ 0 < ex.toInt) ?_
        refine Go.iconst (pc' := 392) at_391 rfl (z := (0 : Int32)) (by decide) ?_
        refine Go.icmpF (pc' := 395) (X := (0 : Int)) (Y := (0 : Int)) at_392 rfl (by decide) (by decide) (by decide : (0 : Int) = (0 : Int)) ?_
        refine Go.iconst (pc' := 396) at_395 rfl (z := (1 : Int32)) (by decide) ?_
        refine Go.goto (pc' := 400) at_396 (by decide) ?_
        refine Go.retZ at_400 rfl (by decide) (by decide) (by decide) ?_
        exact ⟨rfl, N0⟩
    · subst hs85
      have kn : (7 : Int32).toInt = 7 := by decide
      obtain rfl : K = 7 := by omega
      refine Go.bipush (pc' := 331) at_329 rfl (z := (7 : Int32)) (by decide) ?_
      refine Go.iload (pc' := 333) at_331 rfl rfl ?_
      refine Go.imul (pc' := 334) at_333 rfl (z := (49 : Int32)) (by decide) ?_
      refine Go.bipush (pc' := 336) at_334 rfl (z := (64 : Int32)) (by decide) ?_
      refine Go.icmpT (pc' := 343) (X := (49 : Int)) (Y := (64 : Int)) at_336 (by decide) (by decide) (by decide) (by decide : (49 : Int) < (64 : Int)) ?_
      refine Go.lloadN (pc' := 344) at_343 rfl rfl ?_
      refine Go.lconst (pc' := 345) at_344 rfl (z := (1 : Int64)) (by decide) ?_
      refine Go.bipush (pc' := 347) at_345 rfl (z := (7 : Int32)) (by decide) ?_
      refine Go.iload (pc' := 349) at_347 rfl rfl ?_
      refine Go.imul (pc' := 350) at_349 rfl (z := (49 : Int32)) (by decide) ?_
      refine Go.lshl (pc' := 351) at_350 rfl (z := (562949953421312 : Int64)) (by decide) ?_
      refine Go.lconst (pc' := 352) at_351 rfl (z := (1 : Int64)) (by decide) ?_
      refine Go.lsub (pc' := 353) at_352 rfl (z := (562949953421311 : Int64)) (by decide) ?_
      refine Go.land (pc' := 354) at_353 rfl rfl ?_
      generalize hv_want : (v &&& (562949953421311 : Int64)) = want
      refine Go.lstore (pc' := 356) at_354 rfl (Ls' := #[.val (.long v), .second, .val (.int kq), .val (.int oo), .val (.int ee), .val (.int g), .val (.int (7 : Int32)), .val (.int (3 : Int32)), .val (.int ex), .val (.ref arr), .val (.ref a82), .val (.long res), .second, .val (.long want), .second]) rfl ?_
      
      by_cases hex : 0 < ex.toInt
      · have _ := hex
        refine Go.lload (pc' := 358) at_356 rfl rfl ?_
        refine Go.lload (pc' := 360) at_358 rfl rfl ?_
        refine Go.lcmpF (pc' := 364) (X := res.toInt) (Y := want.toInt) at_360 at_361 rfl rfl rfl rfl (by rw [← hv_want]; exact congrArg _ (own_want v res (562949953421311 : Int64) (7 * 7) (by decide) hres) : res.toInt = want.toInt) ?_
        refine Go.aload (pc' := 366) at_364 rfl rfl rfl ?_
        refine Go.callV0 (pc' := 369) (W := 0) (a := a82) (argsL := []) (rest := []) (v0 := some (.int pk)) (st2 := [(.int pk)]) at_366 rfl (hw _ w32) (hw _ w33) (nf_sel (hw _ w35)) (hw _ w35) (hw _ w34) (hw _ w10) (hw _ w36) E_a82 (by decide) (c_pos hw a82 arr pk ((3 : Int32) + ((7 : Int32) + ex)) E_a82 F_a82_bytes F_a82_position F_a82_end) (by decide) (by decide) rfl rfl rfl (by decide) (by decide) rfl pd__28_29I rfl rfl (Nat.le_of_eq rfl) ?_
        refine Go.iload (pc' := 371) at_369 rfl rfl ?_
        refine Go.iload (pc' := 373) at_371 rfl rfl ?_
        refine Go.iadd (pc' := 374) at_373 rfl (z := (10 : Int32)) (by decide) ?_
        refine Go.icmpF (pc' := 377) (X := pk.toInt) (Y := (10 : Int)) at_374 rfl rfl (by decide) (by omega : pk.toInt = (10 : Int)) ?_
        refine Go.aload (pc' := 379) at_377 rfl rfl rfl ?_
        refine Go.callV0 (pc' := 382) (W := 0) (a := a82) (argsL := []) (rest := []) (v0 := some (.int (1 : Int32))) (st2 := [(.int (1 : Int32))]) at_379 rfl (hw _ w37) (hw _ w38) (nf_sel (hw _ w40)) (hw _ w40) (hw _ w39) (hw _ w10) (hw _ w41) E_a82 (by decide) (c_has hw a82 arr pk ((3 : Int32) + ((7 : Int32) + ex)) (1 : Int32) E_a82 F_a82_bytes F_a82_position F_a82_end (if_pos (by omega))) (by decide) (by decide) rfl rfl rfl (by decide) (by decide) rfl pd__28_29Z rfl rfl (Nat.le_of_eq rfl) ?_
        refine Go.iload (pc' := 384) at_382 rfl rfl ?_
        refine Go.ifF (pc' := 387) (X := ex.toInt) at_384 rfl rfl (by omega : 0 < ex.toInt) ?_
        refine Go.iconst (pc' := 388) at_387 rfl (z := (1 : Int32)) (by decide) ?_
        refine Go.goto (pc' := 392) at_388 (by decide) ?_
        refine Go.icmpF (pc' := 395) (X := (1 : Int)) (Y := (1 : Int)) at_392 rfl (by decide) (by decide) (by decide : (1 : Int) = (1 : Int)) ?_
        refine Go.iconst (pc' := 396) at_395 rfl (z := (1 : Int32)) (by decide) ?_
        refine Go.goto (pc' := 400) at_396 (by decide) ?_
        refine Go.retZ at_400 rfl (by decide) (by decide) (by decide) ?_
        exact ⟨rfl, N0⟩
      · have _ := hex
        refine Go.lload (pc' := 358) at_356 rfl rfl ?_
        refine Go.lload (pc' := 360) at_358 rfl rfl ?_
        refine Go.lcmpF (pc' := 364) (X := res.toInt) (Y := want.toInt) at_360 at_361 rfl rfl rfl rfl (by rw [← hv_want]; exact congrArg _ (own_want v res (562949953421311 : Int64) (7 * 7) (by decide) hres) : res.toInt = want.toInt) ?_
        refine Go.aload (pc' := 366) at_364 rfl rfl rfl ?_
        refine Go.callV0 (pc' := 369) (W := 0) (a := a82) (argsL := []) (rest := []) (v0 := some (.int pk)) (st2 := [(.int pk)]) at_366 rfl (hw _ w32) (hw _ w33) (nf_sel (hw _ w35)) (hw _ w35) (hw _ w34) (hw _ w10) (hw _ w36) E_a82 (by decide) (c_pos hw a82 arr pk ((3 : Int32) + ((7 : Int32) + ex)) E_a82 F_a82_bytes F_a82_position F_a82_end) (by decide) (by decide) rfl rfl rfl (by decide) (by decide) rfl pd__28_29I rfl rfl (Nat.le_of_eq rfl) ?_
        refine Go.iload (pc' := 371) at_369 rfl rfl ?_
        refine Go.iload (pc' := 373) at_371 rfl rfl ?_
        refine Go.iadd (pc' := 374) at_373 rfl (z := (10 : Int32)) (by decide) ?_
        refine Go.icmpF (pc' := 377) (X := pk.toInt) (Y := (10 : Int)) at_374 rfl rfl (by decide) (by omega : pk.toInt = (10 : Int)) ?_
        refine Go.aload (pc' := 379) at_377 rfl rfl rfl ?_
        refine Go.callV0 (pc' := 382) (W := 0) (a := a82) (argsL := []) (rest := []) (v0 := some (.int (0 : Int32))) (st2 := [(.int (0 : Int32))]) at_379 rfl (hw _ w37) (hw _ w38) (nf_sel (hw _ w40)) (hw _ w40) (hw _ w39) (hw _ w10) (hw _ w41) E_a82 (by decide) (c_has hw a82 arr pk ((3 : Int32) + ((7 : Int32) + ex)) (0 : Int32) E_a82 F_a82_bytes F_a82_position F_a82_end (if_neg (by omega))) (by decide) (by decide) rfl rfl rfl (by decide) (by decide) rfl pd__28_29Z rfl rfl (Nat.le_of_eq rfl) ?_
        refine Go.iload (pc' := 384) at_382 rfl rfl ?_
        refine Go.ifT (pc' := 391) (X := ex.toInt) at_384 (by decide) rfl (by omega : ¬ 0 < ex.toInt) ?_
        refine Go.iconst (pc' := 392) at_391 rfl (z := (0 : Int32)) (by decide) ?_
        refine Go.icmpF (pc' := 395) (X := (0 : Int)) (Y := (0 : Int)) at_392 rfl (by decide) (by decide) (by decide : (0 : Int) = (0 : Int)) ?_
        refine Go.iconst (pc' := 396) at_395 rfl (z := (1 : Int32)) (by decide) ?_
        refine Go.goto (pc' := 400) at_396 (by decide) ?_
        refine Go.retZ at_400 rfl (by decide) (by decide) (by decide) ?_
        exact ⟨rfl, N0⟩
    · subst hs85
      have kn : (8 : Int32).toInt = 8 := by decide
      obtain rfl : K = 8 := by omega
      refine Go.bipush (pc' := 331) at_329 rfl (z := (7 : Int32)) (by decide) ?_
      refine Go.iload (pc' := 333) at_331 rfl rfl ?_
      refine Go.imul (pc' := 334) at_333 rfl (z := (56 : Int32)) (by decide) ?_
      refine Go.bipush (pc' := 336) at_334 rfl (z := (64 : Int32)) (by decide) ?_
      refine Go.icmpT (pc' := 343) (X := (56 : Int)) (Y := (64 : Int)) at_336 (by decide) (by decide) (by decide) (by decide : (56 : Int) < (64 : Int)) ?_
      refine Go.lloadN (pc' := 344) at_343 rfl rfl ?_
      refine Go.lconst (pc' := 345) at_344 rfl (z := (1 : Int64)) (by decide) ?_
      refine Go.bipush (pc' := 347) at_345 rfl (z := (7 : Int32)) (by decide) ?_
      refine Go.iload (pc' := 349) at_347 rfl rfl ?_
      refine Go.imul (pc' := 350) at_349 rfl (z := (56 : Int32)) (by decide) ?_
      refine Go.lshl (pc' := 351) at_350 rfl (z := (72057594037927936 : Int64)) (by decide) ?_
      refine Go.lconst (pc' := 352) at_351 rfl (z := (1 : Int64)) (by decide) ?_
      refine Go.lsub (pc' := 353) at_352 rfl (z := (72057594037927935 : Int64)) (by decide) ?_
      refine Go.land (pc' := 354) at_353 rfl rfl ?_
      generalize hv_want : (v &&& (72057594037927935 : Int64)) = want
      refine Go.lstore (pc' := 356) at_354 rfl (Ls' := #[.val (.long v), .second, .val (.int kq), .val (.int oo), .val (.int ee), .val (.int g), .val (.int (8 : Int32)), .val (.int (3 : Int32)), .val (.int ex), .val (.ref arr), .val (.ref a82), .val (.long res), .second, .val (.long want), .second]) rfl ?_
      
      by_cases hex : 0 < ex.toInt
      · have _ := hex
        refine Go.lload (pc' := 358) at_356 rfl rfl ?_
        refine Go.lload (pc' := 360) at_358 rfl rfl ?_
        refine Go.lcmpF (pc' := 364) (X := res.toInt) (Y := want.toInt) at_360 at_361 rfl rfl rfl rfl (by rw [← hv_want]; exact congrArg _ (own_want v res (72057594037927935 : Int64) (7 * 8) (by decide) hres) : res.toInt = want.toInt) ?_
        refine Go.aload (pc' := 366) at_364 rfl rfl rfl ?_
        refine Go.callV0 (pc' := 369) (W := 0) (a := a82) (argsL := []) (rest := []) (v0 := some (.int pk)) (st2 := [(.int pk)]) at_366 rfl (hw _ w32) (hw _ w33) (nf_sel (hw _ w35)) (hw _ w35) (hw _ w34) (hw _ w10) (hw _ w36) E_a82 (by decide) (c_pos hw a82 arr pk ((3 : Int32) + ((8 : Int32) + ex)) E_a82 F_a82_bytes F_a82_position F_a82_end) (by decide) (by decide) rfl rfl rfl (by decide) (by decide) rfl pd__28_29I rfl rfl (Nat.le_of_eq rfl) ?_
        refine Go.iload (pc' := 371) at_369 rfl rfl ?_
        refine Go.iload (pc' := 373) at_371 rfl rfl ?_
        refine Go.iadd (pc' := 374) at_373 rfl (z := (11 : Int32)) (by decide) ?_
        refine Go.icmpF (pc' := 377) (X := pk.toInt) (Y := (11 : Int)) at_374 rfl rfl (by decide) (by omega : pk.toInt = (11 : Int)) ?_
        refine Go.aload (pc' := 379) at_377 rfl rfl rfl ?_
        refine Go.callV0 (pc' := 382) (W := 0) (a := a82) (argsL := []) (rest := []) (v0 := some (.int (1 : Int32))) (st2 := [(.int (1 : Int32))]) at_379 rfl (hw _ w37) (hw _ w38) (nf_sel (hw _ w40)) (hw _ w40) (hw _ w39) (hw _ w10) (hw _ w41) E_a82 (by decide) (c_has hw a82 arr pk ((3 : Int32) + ((8 : Int32) + ex)) (1 : Int32) E_a82 F_a82_bytes F_a82_position F_a82_end (if_pos (by omega))) (by decide) (by decide) rfl rfl rfl (by decide) (by decide) rfl pd__28_29Z rfl rfl (Nat.le_of_eq rfl) ?_
        refine Go.iload (pc' := 384) at_382 rfl rfl ?_
        refine Go.ifF (pc' := 387) (X := ex.toInt) at_384 rfl rfl (by omega : 0 < ex.toInt) ?_
        refine Go.iconst (pc' := 388) at_387 rfl (z := (1 : Int32)) (by decide) ?_
        refine Go.goto (pc' := 392) at_388 (by decide) ?_
        refine Go.icmpF (pc' := 395) (X := (1 : Int)) (Y := (1 : Int)) at_392 rfl (by decide) (by decide) (by decide : (1 : Int) = (1 : Int)) ?_
        refine Go.iconst (pc' := 396) at_395 rfl (z := (1 : Int32)) (by decide) ?_
        refine Go.goto (pc' := 400) at_396 (by decide) ?_
        refine Go.retZ at_400 rfl (by decide) (by decide) (by decide) ?_
        exact ⟨rfl, N0⟩
      · have _ := hex
        refine Go.lload (pc' := 358) at_356 rfl rfl ?_
        refine Go.lload (pc' := 360) at_358 rfl rfl ?_
        refine Go.lcmpF (pc' := 364) (X := res.toInt) (Y := want.toInt) at_360 at_361 rfl rfl rfl rfl (by rw [← hv_want]; exact congrArg _ (own_want v res (72057594037927935 : Int64) (7 * 8) (by decide) hres) : res.toInt = want.toInt) ?_
        refine Go.aload (pc' := 366) at_364 rfl rfl rfl ?_
        refine Go.callV0 (pc' := 369) (W := 0) (a := a82) (argsL := []) (rest := []) (v0 := some (.int pk)) (st2 := [(.int pk)]) at_366 rfl (hw _ w32) (hw _ w33) (nf_sel (hw _ w35)) (hw _ w35) (hw _ w34) (hw _ w10) (hw _ w36) E_a82 (by decide) (c_pos hw a82 arr pk ((3 : Int32) + ((8 : Int32) + ex)) E_a82 F_a82_bytes F_a82_position F_a82_end) (by decide) (by decide) rfl rfl rfl (by decide) (by decide) rfl pd__28_29I rfl rfl (Nat.le_of_eq rfl) ?_
        refine Go.iload (pc' := 371) at_369 rfl rfl ?_
        refine Go.iload (pc' := 373) at_371 rfl rfl ?_
        refine Go.iadd (pc' := 374) at_373 rfl (z := (11 : Int32)) (by decide) ?_
        refine Go.icmpF (pc' := 377) (X := pk.toInt) (Y := (11 : Int)) at_374 rfl rfl (by decide) (by omega : pk.toInt = (11 : Int)) ?_
        refine Go.aload (pc' := 379) at_377 rfl rfl rfl ?_
        refine Go.callV0 (pc' := 382) (W := 0) (a := a82) (argsL := []) (rest := []) (v0 := some (.int (0 : Int32))) (st2 := [(.int (0 : Int32))]) at_379 rfl (hw _ w37) (hw _ w38) (nf_sel (hw _ w40)) (hw _ w40) (hw _ w39) (hw _ w10) (hw _ w41) E_a82 (by decide) (c_has hw a82 arr pk ((3 : Int32) + ((8 : Int32) + ex)) (0 : Int32) E_a82 F_a82_bytes F_a82_position F_a82_end (if_neg (by omega))) (by decide) (by decide) rfl rfl rfl (by decide) (by decide) rfl pd__28_29Z rfl rfl (Nat.le_of_eq rfl) ?_
        refine Go.iload (pc' := 384) at_382 rfl rfl ?_
        refine Go.ifT (pc' := 391) (X := ex.toInt) at_384 (by decide) rfl (by omega : ¬ 0 < ex.toInt) ?_
        refine Go.iconst (pc' := 392) at_391 rfl (z := (0 : Int32)) (by decide) ?_
        refine Go.icmpF (pc' := 395) (X := (0 : Int)) (Y := (0 : Int)) at_392 rfl (by decide) (by decide) (by decide : (0 : Int) = (0 : Int)) ?_
        refine Go.iconst (pc' := 396) at_395 rfl (z := (1 : Int32)) (by decide) ?_
        refine Go.goto (pc' := 400) at_396 (by decide) ?_
        refine Go.retZ at_400 rfl (by decide) (by decide) (by decide) ?_
        exact ⟨rfl, N0⟩
    · subst hs85
      have kn : (9 : Int32).toInt = 9 := by decide
      obtain rfl : K = 9 := by omega
      refine Go.bipush (pc' := 331) at_329 rfl (z := (7 : Int32)) (by decide) ?_
      refine Go.iload (pc' := 333) at_331 rfl rfl ?_
      refine Go.imul (pc' := 334) at_333 rfl (z := (63 : Int32)) (by decide) ?_
      refine Go.bipush (pc' := 336) at_334 rfl (z := (64 : Int32)) (by decide) ?_
      refine Go.icmpT (pc' := 343) (X := (63 : Int)) (Y := (64 : Int)) at_336 (by decide) (by decide) (by decide) (by decide : (63 : Int) < (64 : Int)) ?_
      refine Go.lloadN (pc' := 344) at_343 rfl rfl ?_
      refine Go.lconst (pc' := 345) at_344 rfl (z := (1 : Int64)) (by decide) ?_
      refine Go.bipush (pc' := 347) at_345 rfl (z := (7 : Int32)) (by decide) ?_
      refine Go.iload (pc' := 349) at_347 rfl rfl ?_
      refine Go.imul (pc' := 350) at_349 rfl (z := (63 : Int32)) (by decide) ?_
      refine Go.lshl (pc' := 351) at_350 rfl (z := (-9223372036854775808 : Int64)) (by decide) ?_
      refine Go.lconst (pc' := 352) at_351 rfl (z := (1 : Int64)) (by decide) ?_
      refine Go.lsub (pc' := 353) at_352 rfl (z := (9223372036854775807 : Int64)) (by decide) ?_
      refine Go.land (pc' := 354) at_353 rfl rfl ?_
      generalize hv_want : (v &&& (9223372036854775807 : Int64)) = want
      refine Go.lstore (pc' := 356) at_354 rfl (Ls' := #[.val (.long v), .second, .val (.int kq), .val (.int oo), .val (.int ee), .val (.int g), .val (.int (9 : Int32)), .val (.int (3 : Int32)), .val (.int ex), .val (.ref arr), .val (.ref a82), .val (.long res), .second, .val (.long want), .second]) rfl ?_
      
      by_cases hex : 0 < ex.toInt
      · have _ := hex
        refine Go.lload (pc' := 358) at_356 rfl rfl ?_
        refine Go.lload (pc' := 360) at_358 rfl rfl ?_
        refine Go.lcmpF (pc' := 364) (X := res.toInt) (Y := want.toInt) at_360 at_361 rfl rfl rfl rfl (by rw [← hv_want]; exact congrArg _ (own_want v res (9223372036854775807 : Int64) (7 * 9) (by decide) hres) : res.toInt = want.toInt) ?_
        refine Go.aload (pc' := 366) at_364 rfl rfl rfl ?_
        refine Go.callV0 (pc' := 369) (W := 0) (a := a82) (argsL := []) (rest := []) (v0 := some (.int pk)) (st2 := [(.int pk)]) at_366 rfl (hw _ w32) (hw _ w33) (nf_sel (hw _ w35)) (hw _ w35) (hw _ w34) (hw _ w10) (hw _ w36) E_a82 (by decide) (c_pos hw a82 arr pk ((3 : Int32) + ((9 : Int32) + ex)) E_a82 F_a82_bytes F_a82_position F_a82_end) (by decide) (by decide) rfl rfl rfl (by decide) (by decide) rfl pd__28_29I rfl rfl (Nat.le_of_eq rfl) ?_
        refine Go.iload (pc' := 371) at_369 rfl rfl ?_
        refine Go.iload (pc' := 373) at_371 rfl rfl ?_
        refine Go.iadd (pc' := 374) at_373 rfl (z := (12 : Int32)) (by decide) ?_
        refine Go.icmpF (pc' := 377) (X := pk.toInt) (Y := (12 : Int)) at_374 rfl rfl (by decide) (by omega : pk.toInt = (12 : Int)) ?_
        refine Go.aload (pc' := 379) at_377 rfl rfl rfl ?_
        refine Go.callV0 (pc' := 382) (W := 0) (a := a82) (argsL := []) (rest := []) (v0 := some (.int (1 : Int32))) (st2 := [(.int (1 : Int32))]) at_379 rfl (hw _ w37) (hw _ w38) (nf_sel (hw _ w40)) (hw _ w40) (hw _ w39) (hw _ w10) (hw _ w41) E_a82 (by decide) (c_has hw a82 arr pk ((3 : Int32) + ((9 : Int32) + ex)) (1 : Int32) E_a82 F_a82_bytes F_a82_position F_a82_end (if_pos (by omega))) (by decide) (by decide) rfl rfl rfl (by decide) (by decide) rfl pd__28_29Z rfl rfl (Nat.le_of_eq rfl) ?_
        refine Go.iload (pc' := 384) at_382 rfl rfl ?_
        refine Go.ifF (pc' := 387) (X := ex.toInt) at_384 rfl rfl (by omega : 0 < ex.toInt) ?_
        refine Go.iconst (pc' := 388) at_387 rfl (z := (1 : Int32)) (by decide) ?_
        refine Go.goto (pc' := 392) at_388 (by decide) ?_
        refine Go.icmpF (pc' := 395) (X := (1 : Int)) (Y := (1 : Int)) at_392 rfl (by decide) (by decide) (by decide : (1 : Int) = (1 : Int)) ?_
        refine Go.iconst (pc' := 396) at_395 rfl (z := (1 : Int32)) (by decide) ?_
        refine Go.goto (pc' := 400) at_396 (by decide) ?_
        refine Go.retZ at_400 rfl (by decide) (by decide) (by decide) ?_
        exact ⟨rfl, N0⟩
      · have _ := hex
        refine Go.lload (pc' := 358) at_356 rfl rfl ?_
        refine Go.lload (pc' := 360) at_358 rfl rfl ?_
        refine Go.lcmpF (pc' := 364) (X := res.toInt) (Y := want.toInt) at_360 at_361 rfl rfl rfl rfl (by rw [← hv_want]; exact congrArg _ (own_want v res (9223372036854775807 : Int64) (7 * 9) (by decide) hres) : res.toInt = want.toInt) ?_
        refine Go.aload (pc' := 366) at_364 rfl rfl rfl ?_
        refine Go.callV0 (pc' := 369) (W := 0) (a := a82) (argsL := []) (rest := []) (v0 := some (.int pk)) (st2 := [(.int pk)]) at_366 rfl (hw _ w32) (hw _ w33) (nf_sel (hw _ w35)) (hw _ w35) (hw _ w34) (hw _ w10) (hw _ w36) E_a82 (by decide) (c_pos hw a82 arr pk ((3 : Int32) + ((9 : Int32) + ex)) E_a82 F_a82_bytes F_a82_position F_a82_end) (by decide) (by decide) rfl rfl rfl (by decide) (by decide) rfl pd__28_29I rfl rfl (Nat.le_of_eq rfl) ?_
        refine Go.iload (pc' := 371) at_369 rfl rfl ?_
        refine Go.iload (pc' := 373) at_371 rfl rfl ?_
        refine Go.iadd (pc' := 374) at_373 rfl (z := (12 : Int32)) (by decide) ?_
        refine Go.icmpF (pc' := 377) (X := pk.toInt) (Y := (12 : Int)) at_374 rfl rfl (by decide) (by omega : pk.toInt = (12 : Int)) ?_
        refine Go.aload (pc' := 379) at_377 rfl rfl rfl ?_
        refine Go.callV0 (pc' := 382) (W := 0) (a := a82) (argsL := []) (rest := []) (v0 := some (.int (0 : Int32))) (st2 := [(.int (0 : Int32))]) at_379 rfl (hw _ w37) (hw _ w38) (nf_sel (hw _ w40)) (hw _ w40) (hw _ w39) (hw _ w10) (hw _ w41) E_a82 (by decide) (c_has hw a82 arr pk ((3 : Int32) + ((9 : Int32) + ex)) (0 : Int32) E_a82 F_a82_bytes F_a82_position F_a82_end (if_neg (by omega))) (by decide) (by decide) rfl rfl rfl (by decide) (by decide) rfl pd__28_29Z rfl rfl (Nat.le_of_eq rfl) ?_
        refine Go.iload (pc' := 384) at_382 rfl rfl ?_
        refine Go.ifT (pc' := 391) (X := ex.toInt) at_384 (by decide) rfl (by omega : ¬ 0 < ex.toInt) ?_
        refine Go.iconst (pc' := 392) at_391 rfl (z := (0 : Int32)) (by decide) ?_
        refine Go.icmpF (pc' := 395) (X := (0 : Int)) (Y := (0 : Int)) at_392 rfl (by decide) (by decide) (by decide : (0 : Int) = (0 : Int)) ?_
        refine Go.iconst (pc' := 396) at_395 rfl (z := (1 : Int32)) (by decide) ?_
        refine Go.goto (pc' := 400) at_396 (by decide) ?_
        refine Go.retZ at_400 rfl (by decide) (by decide) (by decide) ?_
        exact ⟨rfl, N0⟩
    · subst hs85
      have kn : (10 : Int32).toInt = 10 := by decide
      obtain rfl : K = 10 := by omega
      refine Go.bipush (pc' := 331) at_329 rfl (z := (7 : Int32)) (by decide) ?_
      refine Go.iload (pc' := 333) at_331 rfl rfl ?_
      refine Go.imul (pc' := 334) at_333 rfl (z := (70 : Int32)) (by decide) ?_
      refine Go.bipush (pc' := 336) at_334 rfl (z := (64 : Int32)) (by decide) ?_
      refine Go.icmpF (pc' := 339) (X := (70 : Int)) (Y := (64 : Int)) at_336 rfl (by decide) (by decide) (by decide : ¬ (70 : Int) < (64 : Int)) ?_
      refine Go.lloadN (pc' := 340) at_339 rfl rfl ?_
      refine Go.goto (pc' := 354) at_340 (by decide) ?_
      refine Go.lstore (pc' := 356) at_354 rfl (Ls' := #[.val (.long v), .second, .val (.int kq), .val (.int oo), .val (.int ee), .val (.int g), .val (.int (10 : Int32)), .val (.int (3 : Int32)), .val (.int ex), .val (.ref arr), .val (.ref a82), .val (.long res), .second, .val (.long v), .second]) rfl ?_
      
      by_cases hex : 0 < ex.toInt
      · have _ := hex
        refine Go.lload (pc' := 358) at_356 rfl rfl ?_
        refine Go.lload (pc' := 360) at_358 rfl rfl ?_
        refine Go.lcmpF (pc' := 364) (X := res.toInt) (Y := v.toInt) at_360 at_361 rfl rfl rfl rfl (congrArg _ (own_full v res hres) : res.toInt = v.toInt) ?_
        refine Go.aload (pc' := 366) at_364 rfl rfl rfl ?_
        refine Go.callV0 (pc' := 369) (W := 0) (a := a82) (argsL := []) (rest := []) (v0 := some (.int pk)) (st2 := [(.int pk)]) at_366 rfl (hw _ w32) (hw _ w33) (nf_sel (hw _ w35)) (hw _ w35) (hw _ w34) (hw _ w10) (hw _ w36) E_a82 (by decide) (c_pos hw a82 arr pk ((3 : Int32) + ((10 : Int32) + ex)) E_a82 F_a82_bytes F_a82_position F_a82_end) (by decide) (by decide) rfl rfl rfl (by decide) (by decide) rfl pd__28_29I rfl rfl (Nat.le_of_eq rfl) ?_
        refine Go.iload (pc' := 371) at_369 rfl rfl ?_
        refine Go.iload (pc' := 373) at_371 rfl rfl ?_
        refine Go.iadd (pc' := 374) at_373 rfl (z := (13 : Int32)) (by decide) ?_
        refine Go.icmpF (pc' := 377) (X := pk.toInt) (Y := (13 : Int)) at_374 rfl rfl (by decide) (by omega : pk.toInt = (13 : Int)) ?_
        refine Go.aload (pc' := 379) at_377 rfl rfl rfl ?_
        refine Go.callV0 (pc' := 382) (W := 0) (a := a82) (argsL := []) (rest := []) (v0 := some (.int (1 : Int32))) (st2 := [(.int (1 : Int32))]) at_379 rfl (hw _ w37) (hw _ w38) (nf_sel (hw _ w40)) (hw _ w40) (hw _ w39) (hw _ w10) (hw _ w41) E_a82 (by decide) (c_has hw a82 arr pk ((3 : Int32) + ((10 : Int32) + ex)) (1 : Int32) E_a82 F_a82_bytes F_a82_position F_a82_end (if_pos (by omega))) (by decide) (by decide) rfl rfl rfl (by decide) (by decide) rfl pd__28_29Z rfl rfl (Nat.le_of_eq rfl) ?_
        refine Go.iload (pc' := 384) at_382 rfl rfl ?_
        refine Go.ifF (pc' := 387) (X := ex.toInt) at_384 rfl rfl (by omega : 0 < ex.toInt) ?_
        refine Go.iconst (pc' := 388) at_387 rfl (z := (1 : Int32)) (by decide) ?_
        refine Go.goto (pc' := 392) at_388 (by decide) ?_
        refine Go.icmpF (pc' := 395) (X := (1 : Int)) (Y := (1 : Int)) at_392 rfl (by decide) (by decide) (by decide : (1 : Int) = (1 : Int)) ?_
        refine Go.iconst (pc' := 396) at_395 rfl (z := (1 : Int32)) (by decide) ?_
        refine Go.goto (pc' := 400) at_396 (by decide) ?_
        refine Go.retZ at_400 rfl (by decide) (by decide) (by decide) ?_
        exact ⟨rfl, N0⟩
      · have _ := hex
        refine Go.lload (pc' := 358) at_356 rfl rfl ?_
        refine Go.lload (pc' := 360) at_358 rfl rfl ?_
        refine Go.lcmpF (pc' := 364) (X := res.toInt) (Y := v.toInt) at_360 at_361 rfl rfl rfl rfl (congrArg _ (own_full v res hres) : res.toInt = v.toInt) ?_
        refine Go.aload (pc' := 366) at_364 rfl rfl rfl ?_
        refine Go.callV0 (pc' := 369) (W := 0) (a := a82) (argsL := []) (rest := []) (v0 := some (.int pk)) (st2 := [(.int pk)]) at_366 rfl (hw _ w32) (hw _ w33) (nf_sel (hw _ w35)) (hw _ w35) (hw _ w34) (hw _ w10) (hw _ w36) E_a82 (by decide) (c_pos hw a82 arr pk ((3 : Int32) + ((10 : Int32) + ex)) E_a82 F_a82_bytes F_a82_position F_a82_end) (by decide) (by decide) rfl rfl rfl (by decide) (by decide) rfl pd__28_29I rfl rfl (Nat.le_of_eq rfl) ?_
        refine Go.iload (pc' := 371) at_369 rfl rfl ?_
        refine Go.iload (pc' := 373) at_371 rfl rfl ?_
        refine Go.iadd (pc' := 374) at_373 rfl (z := (13 : Int32)) (by decide) ?_
        refine Go.icmpF (pc' := 377) (X := pk.toInt) (Y := (13 : Int)) at_374 rfl rfl (by decide) (by omega : pk.toInt = (13 : Int)) ?_
        refine Go.aload (pc' := 379) at_377 rfl rfl rfl ?_
        refine Go.callV0 (pc' := 382) (W := 0) (a := a82) (argsL := []) (rest := []) (v0 := some (.int (0 : Int32))) (st2 := [(.int (0 : Int32))]) at_379 rfl (hw _ w37) (hw _ w38) (nf_sel (hw _ w40)) (hw _ w40) (hw _ w39) (hw _ w10) (hw _ w41) E_a82 (by decide) (c_has hw a82 arr pk ((3 : Int32) + ((10 : Int32) + ex)) (0 : Int32) E_a82 F_a82_bytes F_a82_position F_a82_end (if_neg (by omega))) (by decide) (by decide) rfl rfl rfl (by decide) (by decide) rfl pd__28_29Z rfl rfl (Nat.le_of_eq rfl) ?_
        refine Go.iload (pc' := 384) at_382 rfl rfl ?_
        refine Go.ifT (pc' := 391) (X := ex.toInt) at_384 (by decide) rfl (by omega : ¬ 0 < ex.toInt) ?_
        refine Go.iconst (pc' := 392) at_391 rfl (z := (0 : Int32)) (by decide) ?_
        refine Go.icmpF (pc' := 395) (X := (0 : Int)) (Y := (0 : Int)) at_392 rfl (by decide) (by decide) (by decide : (0 : Int) = (0 : Int)) ?_
        refine Go.iconst (pc' := 396) at_395 rfl (z := (1 : Int32)) (by decide) ?_
        refine Go.goto (pc' := 400) at_396 (by decide) ?_
        refine Go.retZ at_400 rfl (by decide) (by decide) (by decide) ?_
        exact ⟨rfl, N0⟩
set_option maxRecDepth 65536 in
set_option maxHeartbeats 40000000 in
theorem comes_1 {Post : Tables → Env → Array Value → State → Outcome → State → Prop} (hpost : ∀ tb e args s v u, (limb_1_1.after args s (.returned v) u = true ∧ limb_1_2.after args s (.returned v) u = true ∧ True) → FrameEnd s (.returned v) u (Jvm.fieldLocs frame_1_writes args s ++ Jvm.arrayLocs frame_1_arrays args s ++ Jvm.staticLocs frame_1_statics s) 16 128 → Post tb e args s (.returned v) u) :
    ArmFor flags0 classFile x code maxLocals ret World_1 tables_1 room_1 Calls_1 rest_1 Pre_1 Post := by
  intro l hfl _ _ p e ha hc hk s m args below hf hA hF happ hP
  obtain ⟨hcalls, hrest, hpre⟩ := hP
  obtain ⟨-, -, -, hnamed, -, -, -, hat⟩ := (Spec.applies_iff hf).mp happ
  obtain ⟨hg, hn⟩ := and_e (Cond.before_iff.mp (show (Jvm.Cond.and given_1 narrow_1).before args s = true from hpre))
  obtain ⟨h1, h2⟩ := and_e hg
  obtain ⟨w0, w1, w2, w3, w4, rfl⟩ : ∃ w0 w1 w2 w3 w4 : Value, args = #[w0, w1, w2, w3, w4] := by
    have hs : args.size = 5 := by simpa [Cond.value, given_1] using h1
    obtain ⟨L⟩ := args
    match L, hs with
    | [w0, w1, w2, w3, w4], _ => exact ⟨w0, w1, w2, w3, w4, rfl⟩
  have hw := fun d (hd : d ∈ tables_1) => atoms_spec (ws := Jvm.Cond.code x code maxLocals ret :: tables_1) hat d (List.mem_cons_of_mem _ hd)
  obtain ⟨q0, h2⟩ := and_e h2
  obtain ⟨i0, e0⟩ := isL_v q0
  obtain rfl : w0 = (.long i0) := Option.some.inj e0
  obtain ⟨q1, h2⟩ := and_e h2
  obtain ⟨i1, e1⟩ := is_v q1
  obtain rfl : w1 = (.int i1) := Option.some.inj e1
  obtain ⟨q2, h2⟩ := and_e h2
  obtain ⟨i2, e2⟩ := is_v q2
  obtain rfl : w2 = (.int i2) := Option.some.inj e2
  obtain ⟨q3, h2⟩ := and_e h2
  obtain ⟨i3, e3⟩ := is_v q3
  obtain rfl : w3 = (.int i3) := Option.some.inj e3
  have q4 := h2
  obtain ⟨i4, e4⟩ := is_v q4
  obtain rfl : w4 = (.int i4) := Option.some.inj e4
  obtain ⟨n, o, h1, h2, h3, _, L, rfl, ⟨rfl, N⟩, hq⟩ := law_con (l := l) hw (h0 := s.heap) (n0 := s.heap.size) (Nat.le_refl _) i0 i1 i2 i3 i4 p e ha hc hk s m _ below hf ((Spec.applies_iff_loose hf).mp happ).1 ⟨rfl, State.Warmed39.refl s, rfl⟩ trivial
  refine ⟨n, _, h1, h2, h3, hpost _ _ _ _ _ _ ⟨Cond.after_iff.mpr rfl, Cond.after_iff.mpr (eq_i res_at (Term.int_eval (1)) rfl), trivial⟩ ⟨hq.1, hq.2.1, (hq.2.2.sift fun y hy => Or.inr (N y hy)).mono (by decide) (by decide)⟩⟩
theorem main_1_1 : Claimed_1_1 := comes_1 fun _ _ _ _ _ _ h hF => ⟨h.1, hF⟩
theorem main_1_2 : Claimed_1_2 := comes_1 fun _ _ _ _ _ _ h hF => ⟨h.2.1, hF⟩
end Jvm.Pilot.@@N@@
namespace Jvm.Pilot.@@N@@
open Jvm Jvm.ClassFile Sem Op Lib Jvm.Free Jvm.Stand Jvm.Pilot.@@N@@.Jvm.D
/-! MADE BY PROGRAM (witnessworld.py) out of the Statement's table words and the real class files: 9 classes; the members and pool entries that the words name. The judged class is class 1, her method 1. -/
namespace start1
open Jvm.ClassFile
def u (s : String) : CpInfo := .utf8 (stringToUtf16 s)
/-- a pool by its gaps: so many unusable entries, then the entry; so many at the end -/
def gap : Nat → List CpInfo → List CpInfo
  | 0, r => r
  | n + 1, r => .unusable :: gap n r
def poolList (es : List (Nat × CpInfo)) (last : Nat) : List CpInfo := es.foldr (fun e r => gap e.1 (e.2 :: r)) (gap last [])
def pool (es : List (Nat × CpInfo)) (last : Nat) : Array CpInfo := ⟨poolList es last⟩
def fileOf (pool : Array CpInfo) (this : Nat) (attrs : Array Attribute := #[]) (ms : Array MethodInfo := #[]) (fl : Nat := 33) (sup : Nat := 0) (ifs : Array Nat := #[]) (fds : Array FieldInfo := #[]) : ClassFile where
  minorVersion := 0
  majorVersion := 65
  constantPool := pool
  accessFlags := fl
  thisClass := this
  superClass := sup
  interfaces := ifs
  fields := fds
  methods := ms
  attributes := attrs
def plain (name : String) (sup : Option ClassId) : Class where
  name := name
  kind := .ordinary
  loader := none
  accessFlags := 33
  super := sup
  interfaces := #[]
  cf := none
  fields := #[]
  methods := #[]
  instanceTypes := #[]
  staticTypes := #[]
  resolved := #[]
  callSites := []
  init := .initialized
  statics := none
  mirror := none

def pool0 : Array CpInfo := pool [(5, u "<init>"), (0, u "()V"), (1, .class_ 10), (1, u "java/lang/Object")] 113

def k0c0 : Code := { maxStack := 0, maxLocals := 1, code := object_method_1_code, exceptionTable := #[], attributes := #[] }
def k0m0 : Method := { name := "<init>", desc := "()V", sig := { parameters := [], returnType := none }, accessFlags := 1, code := some k0c0 }
/-- java/lang/Object -/
def k0 : Class := { plain "java/lang/Object" none with
  accessFlags := 33
  interfaces := #[]
  cf := some (fileOf pool0 8 #[] #[{ accessFlags := 1, nameIndex := 5, descriptorIndex := 6, attributes := #[] }] 33 0 #[] #[])
  fields := #[]
  methods := #[k0m0]
  instanceTypes := #[]
  staticTypes := #[]
  resolved := Array.replicate 124 none
  statics := none }

def pool1 : Array CpInfo := pool [(2, .class_ 4), (1, u "java/lang/Object"), (0, u "<init>"), (0, u "()V"), (0, .integer 2147483647), (0, .methodref 9 10), (0, .class_ 11), (0, .nameAndType 12 13), (0, u "com/example/mixed_urn/mixedurn/index/ByteReaderReadNumberPinLaw"), (0, u "at"), (0, u "(IJII)B"), (0, .class_ 15), (0, u "com/example/mixed_urn/mixedurn/index/ByteReader"), (0, .methodref 14 17), (0, .nameAndType 5 18), (0, u "([BII)V"), (0, .methodref 14 20), (0, .nameAndType 21 22), (0, u "readNumber"), (0, u "()J"), (0, .methodref 14 24), (0, .nameAndType 25 26), (0, u "position"), (0, u "()I"), (0, .methodref 14 28), (0, .nameAndType 29 30), (0, u "hasRemaining"), (0, u "()Z"), (0, .long 127), (1, .long 128), (3, u "law"), (0, u "(JIIII)Z")] 5

def k1m0 : Method := { name := "<init>", desc := "()V", sig := { parameters := [], returnType := none }, accessFlags := 2, code := none }
def k1c1 : Code := { maxStack := 7, maxLocals := 15, code := code, exceptionTable := #[], attributes := #[] }
def k1m1 : Method := { name := "law", desc := "(JIIII)Z", sig := { parameters := [.long, .int, .int, .int, .int], returnType := some .boolean }, accessFlags := 9, code := some k1c1 }
def k1c2 : Code := { maxStack := 4, maxLocals := 7, code := method_3_code, exceptionTable := #[], attributes := #[] }
def k1m2 : Method := { name := "at", desc := "(IJII)B", sig := { parameters := [.int, .long, .int, .int], returnType := some .byte }, accessFlags := 10, code := some k1c2 }
/-- com/example/mixed_urn/mixedurn/index/ByteReaderReadNumberPinLaw -/
def k1 : Class := { plain "com/example/mixed_urn/mixedurn/index/ByteReaderReadNumberPinLaw" (some 0) with
  accessFlags := 49
  interfaces := #[]
  cf := some (fileOf pool1 9 #[] #[{ accessFlags := 2, nameIndex := 5, descriptorIndex := 6, attributes := #[] }, { accessFlags := 9, nameIndex := 37, descriptorIndex := 38, attributes := #[] }, { accessFlags := 10, nameIndex := 12, descriptorIndex := 13, attributes := #[] }] 49 2 #[] #[])
  fields := #[]
  methods := #[k1m0, k1m1, k1m2]
  instanceTypes := #[]
  staticTypes := #[]
  resolved := Array.replicate 44 none
  statics := none }

def pool2 : Array CpInfo := pool [(1, .methodref 2 3), (0, .class_ 4), (0, .nameAndType 5 6), (0, u "java/lang/Object"), (0, u "<init>"), (0, u "()V"), (0, .fieldref 8 9), (0, .class_ 10), (0, .nameAndType 11 12), (0, u "com/example/mixed_urn/mixedurn/index/ByteReader"), (0, u "bytes"), (0, u "[B"), (0, .fieldref 8 14), (0, .nameAndType 15 16), (0, u "position"), (0, u "I"), (0, .fieldref 8 18), (0, .nameAndType 19 16), (0, u "end"), (0, .methodref 8 21), (0, .nameAndType 22 23), (0, u "require"), (0, u "(J)V"), (17, u "readNumber"), (0, u "()J"), (21, u "WORDS"), (0, u "Ljava/lang/invoke/VarHandle;"), (30, u "([BII)V"), (2, u "()I"), (0, u "hasRemaining"), (0, u "()Z")] 30

def k2c0 : Code := { maxStack := 3, maxLocals := 4, code := prog_29_method_1_code, exceptionTable := #[], attributes := #[] }
def k2m0 : Method := { name := "<init>", desc := "([BII)V", sig := { parameters := [(.array .byte), .int, .int], returnType := none }, accessFlags := 0, code := some k2c0 }
def k2c1 : Code := { maxStack := 1, maxLocals := 1, code := prog_29_method_2_code, exceptionTable := #[], attributes := #[] }
def k2m1 : Method := { name := "position", desc := "()I", sig := { parameters := [], returnType := some .int }, accessFlags := 0, code := some k2c1 }
def k2c2 : Code := { maxStack := 2, maxLocals := 1, code := prog_29_method_3_code, exceptionTable := #[], attributes := #[] }
def k2m2 : Method := { name := "hasRemaining", desc := "()Z", sig := { parameters := [], returnType := some .boolean }, accessFlags := 0, code := some k2c2 }
def k2c3 : Code := { maxStack := 5, maxLocals := 5, code := prog_29_method_8_code, exceptionTable := #[], attributes := #[] }
def k2m3 : Method := { name := "readNumber", desc := "()J", sig := { parameters := [], returnType := some .long }, accessFlags := 0, code := some k2c3 }
def k2c4 : Code := { maxStack := 6, maxLocals := 3, code := prog_29_method_13_code, exceptionTable := #[], attributes := #[] }
def k2m4 : Method := { name := "require", desc := "(J)V", sig := { parameters := [.long], returnType := none }, accessFlags := 2, code := some k2c4 }
/-- com/example/mixed_urn/mixedurn/index/ByteReader -/
def k2 : Class := { plain "com/example/mixed_urn/mixedurn/index/ByteReader" (some 0) with
  accessFlags := 48
  interfaces := #[]
  cf := some (fileOf pool2 8 #[] #[{ accessFlags := 0, nameIndex := 5, descriptorIndex := 96, attributes := #[] }, { accessFlags := 0, nameIndex := 15, descriptorIndex := 99, attributes := #[] }, { accessFlags := 0, nameIndex := 100, descriptorIndex := 101, attributes := #[] }, { accessFlags := 0, nameIndex := 41, descriptorIndex := 42, attributes := #[] }, { accessFlags := 2, nameIndex := 22, descriptorIndex := 23, attributes := #[] }] 48 2 #[] #[{ accessFlags := 26, nameIndex := 64, descriptorIndex := 65, attributes := #[] }, { accessFlags := 18, nameIndex := 11, descriptorIndex := 12, attributes := #[] }, { accessFlags := 18, nameIndex := 19, descriptorIndex := 16, attributes := #[] }, { accessFlags := 2, nameIndex := 15, descriptorIndex := 16, attributes := #[] }])
  fields := #[{ name := "WORDS", type := (.object "java/lang/invoke/VarHandle"), accessFlags := 26, slot := 0, constantValue := 0 }, { name := "bytes", type := (.array .byte), accessFlags := 18, slot := 0, constantValue := 0 }, { name := "end", type := .int, accessFlags := 18, slot := 1, constantValue := 0 }, { name := "position", type := .int, accessFlags := 2, slot := 2, constantValue := 0 }]
  methods := #[k2m0, k2m1, k2m2, k2m3, k2m4]
  instanceTypes := #[(.array .byte), .int, .int]
  staticTypes := #[(.object "java/lang/invoke/VarHandle")]
  resolved := Array.replicate 132 none
  statics := none }

def pool3 : Array CpInfo := pool [(1, u "java/lang/Cloneable"), (0, .class_ 1), (0, u "java/lang/Object"), (0, .class_ 3)] 3

/-- java/lang/Cloneable -/
def k3 : Class := { plain "java/lang/Cloneable" (some 0) with
  accessFlags := 1537
  interfaces := #[]
  cf := some (fileOf pool3 2 #[] #[] 1537 4 #[] #[])
  fields := #[]
  methods := #[]
  instanceTypes := #[]
  staticTypes := #[]
  resolved := Array.replicate 8 none
  statics := none }

def pool4 : Array CpInfo := pool [(1, u "java/io/Serializable"), (0, .class_ 1), (0, u "java/lang/Object"), (0, .class_ 3)] 3

/-- java/io/Serializable -/
def k4 : Class := { plain "java/io/Serializable" (some 0) with
  accessFlags := 1537
  interfaces := #[]
  cf := some (fileOf pool4 2 #[] #[] 1537 4 #[] #[])
  fields := #[]
  methods := #[]
  instanceTypes := #[]
  staticTypes := #[]
  resolved := Array.replicate 8 none
  statics := none }

/-- the primitive byte -/
def k5 : Class := { plain "byte" none with kind := .primitive 'B', accessFlags := 0x411 }
/-- [B -/
def k6 : Class := { plain "[B" (some 0) with kind := .array 5 .byte, interfaces := #[3, 4], accessFlags := 1041 }

/-- the primitive int -/
def k7 : Class := { plain "int" none with kind := .primitive 'I', accessFlags := 0x411 }
/-- [I -/
def k8 : Class := { plain "[I" (some 0) with kind := .array 7 .int, interfaces := #[3, 4], accessFlags := 1041 }

def heap : Heap := #[]
def classes : Array Class := #[k0, k1, k2, k3, k4, k5, k6, k7, k8]
def interned : List (Array UInt16 × Addr) := []
def slotsUsed : Nat := 0
def theMethod : MethodId := ⟨1, 1⟩
def args0 : Array Value := #[.long 3, .int 4, .int 5, .int 6, .int 7]
def aboutOver (below : List Frame) : State where
  vm := { classes := classes, interned := interned.toArray }
  heap := heap
  slotsUsed := slotsUsed
  threads := #[{ frames := .invoking theMethod args0 :: below }]
def below0 : List Frame := [.native { method := ⟨0, 0⟩, args := #[] }]
def about1 : State := aboutOver below0
def p0 : Program := .bare "" "" ""
def e0 : Env := launch0.env 0 0 0
theorem w_frames : about1.frames = Frame.invoking theMethod args0 :: below0 := rfl
set_option maxRecDepth 65536 in
theorem w_args : argsFit about1.vm theMethod args0 = true := by decide +kernel
set_option maxRecDepth 65536 in
theorem w_heap : heapFits about1 = true := by decide +kernel
set_option maxRecDepth 65536 in
theorem w_runnable : about1.curStatus? = some .runnable := by decide +kernel
set_option maxRecDepth 65536 in
theorem w_alone : about1.alone = true := by decide +kernel
set_option maxRecDepth 65536 in
theorem w_named : about1.methodNamed? x = some theMethod := by decide +kernel
set_option maxRecDepth 65536 in
theorem w_hears : about1.hears theMethod below0 = true := by decide +kernel
set_option maxRecDepth 65536 in
theorem w_ripe : about1.ripe theMethod args0 below0 = true := by decide +kernel
theorem w_running : about1.status = .running := rfl
set_option maxRecDepth 65536 in
theorem w_room : about1.hasRoom e0.platform room_1 = true :=
  launch0.hasRoom_least _ room_1 (by decide +kernel) (by decide +kernel) (by decide +kernel) (by decide +kernel) (by decide +kernel) (by decide +kernel)
theorem allAtoms_all (ts : List Jvm.Cond) (a : Array Jvm.Value) (st : Jvm.State) : (allAtoms ts).before a st = ts.all (fun c => c.before a st) := by
  induction ts with
  | nil => rfl
  | cons c t ih =>
    show (Jvm.Cond.and c (allAtoms t)).before a st = _
    rw [Jvm.Cond.before_and, ih, List.all_cons]
def words1 : List Jvm.Cond := Jvm.Cond.code x code maxLocals ret :: tables_1
/-- a 'code' word, met by the world's own term for the bytes: nothing is compared byte by byte -/
theorem code_word {y : MethodName} {bytes : ByteArray} {mx : Nat} {rt : Option FieldType} {a : Array Value} {s : State} {m : MethodId} {meth : Method} {c : Code} (h1 : s.methodNamed? y = some m) (h2 : s.vm.method? m = some meth) (h3 : meth.code = some c) (h4 : c.code = bytes)
    (h5 : (c.maxLocals == mx && c.exceptionTable.isEmpty && decide (c.maxStack ≤ mostOperands) && decide (meth.sig.returnType = rt) && !meth.locks && decide (parseMethodDescriptor y.desc = some meth.sig)) = true) : (Jvm.Cond.code y bytes mx rt).before a s = true := by
  simp only [Bool.and_eq_true, beq_iff_eq, Bool.not_eq_true', decide_eq_true_eq] at h5
  obtain ⟨⟨⟨⟨⟨g1, g2⟩, g3⟩, g4⟩, g5⟩, g6⟩ := h5
  simp [Cond.before, Cond.holds, Cond.value, h1, h2, h3, h4, g1, g2, g3, g4, g5, g6]
def isCode : Jvm.Cond → Bool
  | .code _ _ _ _ => true
  | _ => false
theorem all_split {L : List Jvm.Cond} {P : Jvm.Cond → Bool} (h1 : L.all (fun c => isCode c || P c) = true) (h2 : ∀ c ∈ L.filter isCode, P c = true) : L.all P = true := by
  refine List.all_eq_true.mpr fun c hc => ?_
  have h := List.all_eq_true.mp h1 c hc
  rcases Bool.eq_false_or_eq_true (isCode c) with hi | hi
  · exact h2 c (List.mem_filter.mpr ⟨hc, hi⟩)
  · simpa [hi] using h
set_option maxRecDepth 65536 in
theorem w_c0 : (Jvm.Cond.code x code maxLocals ret).before args0 about1 = true := code_word (m := ⟨1, 1⟩) (meth := k1m1) (c := k1c1) (by decide +kernel) rfl rfl rfl (by decide +kernel)
set_option maxRecDepth 65536 in
theorem w_c1 : (Jvm.Cond.code ({ cls := "com/example/mixed_urn/mixedurn/index/ByteReaderReadNumberPinLaw", name := "at", desc := "(IJII)B" } : Jvm.MethodName) method_3_code (7 : Nat) (Option.some Jvm.ClassFile.FieldType.byte)).before args0 about1 = true := code_word (m := ⟨1, 2⟩) (meth := k1m2) (c := k1c2) (by decide +kernel) rfl rfl rfl (by decide +kernel)
set_option maxRecDepth 65536 in
theorem w_c2 : (Jvm.Cond.code ({ cls := "com/example/mixed_urn/mixedurn/index/ByteReader", name := "<init>", desc := "([BII)V" } : Jvm.MethodName) prog_29_method_1_code (4 : Nat) (Option.none : Option Jvm.ClassFile.FieldType)).before args0 about1 = true := code_word (m := ⟨2, 0⟩) (meth := k2m0) (c := k2c0) (by decide +kernel) rfl rfl rfl (by decide +kernel)
set_option maxRecDepth 65536 in
theorem w_c3 : (Jvm.Cond.code ({ cls := "java/lang/Object", name := "<init>", desc := "()V" } : Jvm.MethodName) object_method_1_code (1 : Nat) (Option.none : Option Jvm.ClassFile.FieldType)).before args0 about1 = true := code_word (m := ⟨0, 0⟩) (meth := k0m0) (c := k0c0) (by decide +kernel) rfl rfl rfl (by decide +kernel)
set_option maxRecDepth 65536 in
theorem w_c4 : (Jvm.Cond.code ({ cls := "com/example/mixed_urn/mixedurn/index/ByteReader", name := "readNumber", desc := "()J" } : Jvm.MethodName) prog_29_method_8_code (5 : Nat) (Option.some Jvm.ClassFile.FieldType.long)).before args0 about1 = true := code_word (m := ⟨2, 3⟩) (meth := k2m3) (c := k2c3) (by decide +kernel) rfl rfl rfl (by decide +kernel)
set_option maxRecDepth 65536 in
theorem w_c5 : (Jvm.Cond.code ({ cls := "com/example/mixed_urn/mixedurn/index/ByteReader", name := "require", desc := "(J)V" } : Jvm.MethodName) prog_29_method_13_code (3 : Nat) (Option.none : Option Jvm.ClassFile.FieldType)).before args0 about1 = true := code_word (m := ⟨2, 4⟩) (meth := k2m4) (c := k2c4) (by decide +kernel) rfl rfl rfl (by decide +kernel)
set_option maxRecDepth 65536 in
theorem w_c6 : (Jvm.Cond.code ({ cls := "com/example/mixed_urn/mixedurn/index/ByteReader", name := "position", desc := "()I" } : Jvm.MethodName) prog_29_method_2_code (1 : Nat) (Option.some Jvm.ClassFile.FieldType.int)).before args0 about1 = true := code_word (m := ⟨2, 1⟩) (meth := k2m1) (c := k2c1) (by decide +kernel) rfl rfl rfl (by decide +kernel)
set_option maxRecDepth 65536 in
theorem w_c7 : (Jvm.Cond.code ({ cls := "com/example/mixed_urn/mixedurn/index/ByteReader", name := "hasRemaining", desc := "()Z" } : Jvm.MethodName) prog_29_method_3_code (1 : Nat) (Option.some Jvm.ClassFile.FieldType.boolean)).before args0 about1 = true := code_word (m := ⟨2, 2⟩) (meth := k2m2) (c := k2c2) (by decide +kernel) rfl rfl rfl (by decide +kernel)
def codes1 : List Jvm.Cond := [Jvm.Cond.code x code maxLocals ret, Jvm.Cond.code ({ cls := "com/example/mixed_urn/mixedurn/index/ByteReaderReadNumberPinLaw", name := "at", desc := "(IJII)B" } : Jvm.MethodName) method_3_code (7 : Nat) (Option.some Jvm.ClassFile.FieldType.byte), Jvm.Cond.code ({ cls := "com/example/mixed_urn/mixedurn/index/ByteReader", name := "<init>", desc := "([BII)V" } : Jvm.MethodName) prog_29_method_1_code (4 : Nat) (Option.none : Option Jvm.ClassFile.FieldType), Jvm.Cond.code ({ cls := "java/lang/Object", name := "<init>", desc := "()V" } : Jvm.MethodName) object_method_1_code (1 : Nat) (Option.none : Option Jvm.ClassFile.FieldType), Jvm.Cond.code ({ cls := "com/example/mixed_urn/mixedurn/index/ByteReader", name := "readNumber", desc := "()J" } : Jvm.MethodName) prog_29_method_8_code (5 : Nat) (Option.some Jvm.ClassFile.FieldType.long), Jvm.Cond.code ({ cls := "com/example/mixed_urn/mixedurn/index/ByteReader", name := "require", desc := "(J)V" } : Jvm.MethodName) prog_29_method_13_code (3 : Nat) (Option.none : Option Jvm.ClassFile.FieldType), Jvm.Cond.code ({ cls := "com/example/mixed_urn/mixedurn/index/ByteReader", name := "position", desc := "()I" } : Jvm.MethodName) prog_29_method_2_code (1 : Nat) (Option.some Jvm.ClassFile.FieldType.int), Jvm.Cond.code ({ cls := "com/example/mixed_urn/mixedurn/index/ByteReader", name := "hasRemaining", desc := "()Z" } : Jvm.MethodName) prog_29_method_3_code (1 : Nat) (Option.some Jvm.ClassFile.FieldType.boolean)]
set_option maxRecDepth 65536 in
theorem codes_eq : words1.filter isCode = codes1 := rfl
theorem w_codes : ∀ c ∈ words1.filter isCode, c.before args0 about1 = true := by
  rw [codes_eq]
  intro c hc
  simp only [codes1, List.mem_cons, List.not_mem_nil, or_false] at hc
  rcases hc with rfl | rfl | rfl | rfl | rfl | rfl | rfl | rfl
  · exact w_c0
  · exact w_c1
  · exact w_c2
  · exact w_c3
  · exact w_c4
  · exact w_c5
  · exact w_c6
  · exact w_c7
set_option maxRecDepth 65536 in
theorem w_t1 : (words1.take 24).all (fun c => isCode c || c.before args0 about1) = true := by decide +kernel
set_option maxRecDepth 65536 in
theorem w_t2 : (words1.drop 24).all (fun c => isCode c || c.before args0 about1) = true := by decide +kernel
theorem w_tables : (allAtoms (Jvm.Cond.code x code maxLocals ret :: tables_1)).before args0 about1 = true := by
  rw [allAtoms_all]
  show words1.all (fun c => c.before args0 about1) = true
  refine all_split ?_ w_codes
  rw [← List.take_append_drop 24 words1, List.all_append, w_t1, w_t2]
  rfl
set_option maxRecDepth 65536 in
theorem w_case : (Jvm.Cond.and given_1 narrow_1).before args0 about1 = true := by decide +kernel
theorem w_applies : (headSpec (Jvm.Cond.code x code maxLocals ret :: tables_1) room_1).applies x e0.platform about1 = true :=
  (Spec.applies_iff w_frames).mpr ⟨w_running, w_runnable, w_alone, w_named, w_hears, w_ripe, w_room, w_tables⟩
theorem atStart : AtStart classFile x code maxLocals ret World_1 tables_1 room_1 Calls_1 rest_1 Pre_1 launch0 p0 e0 about1 theMethod args0 below0 :=
  ⟨lists_1, trivial, launch0.admits_env _ _ _, launch0.least_env, fairChoices_fair.cas, fairChoices_fair.clock, w_frames, w_args, w_heap, w_applies, trivial, trivial, w_case⟩
end start1
theorem witness_1 : WitnessClaimed_1 := ⟨start1.p0, start1.e0, start1.about1, start1.theMethod, start1.args0, start1.below0, start1.atStart⟩
end Jvm.Pilot.@@N@@
