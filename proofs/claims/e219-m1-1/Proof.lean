import JvmDerived
import JvmDerived.Pilot.@@N@@Statement
import JvmDerived.Pilot.@@N@@Code
set_option linter.unusedVariables false
set_option linter.unusedSimpArgs false
namespace Jvm.GoK
open Sem ClassFile Op Lib Jvm.Stand Jvm.Free Jvm.LawKit Jvm.RoadKit
/-- a body: its method, its bytes, how many locals, what it returns -/
abbrev Bdy : Type := MethodName × ByteArray × Nat × Option FieldType
/-- what is known all over the walk of one body -/
def Cx (p : Program) (s : State) (m : MethodId) (meth : Method) (c : Code) (Z : State) (B : Bdy) : Prop :=
  p.tables.exec = Jvm.exec ∧ Z.Warmed39 s.vm ∧ s.vm.findClass B.1.cls = some m.cls ∧ c.code = B.2.1 ∧ c.maxLocals = B.2.2.1 ∧ meth.sig.returnType = B.2.2.2 ∧ meth.locks = false ∧ meth.name = B.1.name ∧ Z.WarmedH s.vm ∧ s.methodNamed? B.1 = some m
/-- from pc, with these locals and this operand stack, over the heap h, the body B returns, and Q holds of what it returns and of the heap then; only cells from n0 on are written -/
def Go (l : Launch) (Z : State) (R : Room) (B : Bdy) (n0 : Nat) (Q : Option Value → Heap → Prop) (h : Heap) (cl sl pc : Nat) (Ls : Array Slot) (st : List Value) : Prop :=
  ∀ (p : Program) (e : Env) (s : State) (m : MethodId) (args : Array Value) (below : List Frame) (meth : Method) (c : Code) (T : State) (locs : List Loc),
    Stand p l e R s m args below meth c T locs cl sl → Cx p s m meth c Z B → Fr n0 locs → T.heap = h → n0 ≤ h.size →
    ∃ s₂ o, Steps p.tables e below (T.setTop (mkF m pc Ls st)) s₂ ∧ s₂.status = .running ∧ Ended s₂ below o ∧
      ∃ v L, o = .returned v ∧ (Q v s₂.heap ∧ n0 ≤ s₂.heap.size ∧ Fr n0 L) ∧ FrameEnd s o s₂ L R.cells R.slots
section Rules
variable {l : Launch} {Z : State} {R : Room} {B : Bdy} {n0 : Nat} {Q : Option Value → Heap → Prop} {h : Heap} {cl sl pc : Nat} {Ls : Array Slot} {st : List Value} {a0 : Array Value}
theorem Go.lift {pc' : Nat} {Ls' : Array Slot} {st' : List Value}
    (f : ∀ {p : Program} {e : Env} {below : List Frame} {T target : State} {m : MethodId} {c : Code}, At T m c below → p.tables.exec = Jvm.exec → c.code = B.2.1 → Steps p.tables e below (T.setTop (mkF m pc' Ls' st')) target → Steps p.tables e below (T.setTop (mkF m pc Ls st)) target)
    (k : Go l Z R B n0 Q h cl sl pc' Ls' st') : Go l Z R B n0 Q h cl sl pc Ls st := by
  intro p e s m args below meth c T locs X cx fr eT hn
  obtain ⟨s₂, o, h1, r⟩ := k _ _ _ _ _ _ _ _ _ _ X cx fr eT hn
  exact ⟨s₂, o, f X.here cx.1 cx.2.2.2.1 h1, r⟩
theorem Go.conseq {Q' : Option Value → Heap → Prop} (k : Go l Z R B n0 Q' h cl sl pc Ls st) (q : ∀ v h', Q' v h' → Q v h') : Go l Z R B n0 Q h cl sl pc Ls st := by
  intro p e s m args below meth c T locs X cx fr eT hn
  obtain ⟨s₂, o, h1, h2, h3, v, L, h4, h5, h6⟩ := k _ _ _ _ _ _ _ _ _ _ X cx fr eT hn
  exact ⟨s₂, o, h1, h2, h3, v, L, h4, ⟨q _ _ h5.1, h5.2⟩, h6⟩
/-! ### plain steps; each rule names the next pc first -/
theorem Go.aloadN (pc' : Nat) {i : Fin 4} {v : Value} (hd : decode B.2.1 pc = .ok (.aload_n i, 1)) (hp : pc + 1 = pc') (hl : Ls[i.val]? = some (.val v)) (hv : v.isRef = true) (k : Go l Z R B n0 Q h cl sl pc' Ls (v :: st)) : Go l Z R B n0 Q h cl sl pc Ls st := by
  subst hp; exact Go.lift (fun at_ hx hc q => XS.aloadN at_ hx rfl (hb hc hd) hl hv q) k
theorem Go.aload (pc' : Nat) {i : Nat} {v : Value} (hd : decode B.2.1 pc = .ok (.aload i, 2)) (hp : pc + 2 = pc') (hl : Ls[i]? = some (.val v)) (hv : v.isRef = true) (k : Go l Z R B n0 Q h cl sl pc' Ls (v :: st)) : Go l Z R B n0 Q h cl sl pc Ls st := by
  subst hp; exact Go.lift (fun at_ hx hc q => XS.aload at_ hx rfl (hb hc hd) hl hv q) k
theorem Go.iloadN (pc' : Nat) {i : Fin 4} {v : Int32} (hd : decode B.2.1 pc = .ok (.iload_n i, 1)) (hp : pc + 1 = pc') (hl : Ls[i.val]? = some (.val (.int v))) (k : Go l Z R B n0 Q h cl sl pc' Ls (.int v :: st)) : Go l Z R B n0 Q h cl sl pc Ls st := by
  subst hp; exact Go.lift (fun at_ hx hc q => XS.iloadN at_ hx rfl (hb hc hd) hl q) k
theorem Go.iload (pc' : Nat) {i : Nat} {v : Int32} (hd : decode B.2.1 pc = .ok (.iload i, 2)) (hp : pc + 2 = pc') (hl : Ls[i]? = some (.val (.int v))) (k : Go l Z R B n0 Q h cl sl pc' Ls (.int v :: st)) : Go l Z R B n0 Q h cl sl pc Ls st := by
  subst hp; exact Go.lift (fun at_ hx hc q => XS.iload at_ hx rfl (hb hc hd) hl q) k
theorem Go.lloadN (pc' : Nat) {i : Fin 4} {v : Int64} (hd : decode B.2.1 pc = .ok (.lload_n i, 1)) (hp : pc + 1 = pc') (hl : Ls[i.val]? = some (.val (.long v))) (k : Go l Z R B n0 Q h cl sl pc' Ls (.long v :: st)) : Go l Z R B n0 Q h cl sl pc Ls st := by
  subst hp; exact Go.lift (fun at_ hx hc q => XT.lloadN at_ hx rfl (hb hc hd) hl q) k
theorem Go.lload (pc' : Nat) {i : Nat} {v : Int64} (hd : decode B.2.1 pc = .ok (.lload i, 2)) (hp : pc + 2 = pc') (hl : Ls[i]? = some (.val (.long v))) (k : Go l Z R B n0 Q h cl sl pc' Ls (.long v :: st)) : Go l Z R B n0 Q h cl sl pc Ls st := by
  subst hp; exact Go.lift (fun at_ hx hc q => XT.lload at_ hx rfl (hb hc hd) hl q) k
theorem Go.dloadN (pc' : Nat) {i : Fin 4} {v : UInt64} (hd : decode B.2.1 pc = .ok (.dload_n i, 1)) (hp : pc + 1 = pc') (hl : Ls[i.val]? = some (.val (.double v))) (k : Go l Z R B n0 Q h cl sl pc' Ls (.double v :: st)) : Go l Z R B n0 Q h cl sl pc Ls st := by
  subst hp; exact Go.lift (fun at_ hx hc q => XS.dloadN at_ hx rfl (hb hc hd) hl q) k
theorem Go.dload (pc' : Nat) {i : Nat} {v : UInt64} (hd : decode B.2.1 pc = .ok (.dload i, 2)) (hp : pc + 2 = pc') (hl : Ls[i]? = some (.val (.double v))) (k : Go l Z R B n0 Q h cl sl pc' Ls (.double v :: st)) : Go l Z R B n0 Q h cl sl pc Ls st := by
  subst hp; exact Go.lift (fun at_ hx hc q => XS.dload at_ hx rfl (hb hc hd) hl q) k
theorem Go.istoreN (pc' : Nat) (Ls' : Array Slot) {i : Fin 4} {x : Int32} (hd : decode B.2.1 pc = .ok (.istore_n i, 1)) (hp : pc + 1 = pc') (hl : storeLocals Ls i.val (.int x) = some Ls') (k : Go l Z R B n0 Q h cl sl pc' Ls' st) : Go l Z R B n0 Q h cl sl pc Ls (.int x :: st) := by
  subst hp; exact Go.lift (fun at_ hx hc q => XS.istoreN at_ hx rfl (hb hc hd) rfl hl q) k
theorem Go.istore (pc' : Nat) (Ls' : Array Slot) {i : Nat} {x : Int32} (hd : decode B.2.1 pc = .ok (.istore i, 2)) (hp : pc + 2 = pc') (hl : storeLocals Ls i (.int x) = some Ls') (k : Go l Z R B n0 Q h cl sl pc' Ls' st) : Go l Z R B n0 Q h cl sl pc Ls (.int x :: st) := by
  subst hp; exact Go.lift (fun at_ hx hc q => XS.istore at_ hx rfl (hb hc hd) rfl hl q) k
theorem Go.lstoreN (pc' : Nat) (Ls' : Array Slot) {i : Fin 4} {x : Int64} (hd : decode B.2.1 pc = .ok (.lstore_n i, 1)) (hp : pc + 1 = pc') (hl : storeLocals Ls i.val (.long x) = some Ls') (k : Go l Z R B n0 Q h cl sl pc' Ls' st) : Go l Z R B n0 Q h cl sl pc Ls (.long x :: st) := by
  subst hp; exact Go.lift (fun at_ hx hc q => XT.lstoreN at_ hx rfl (hb hc hd) rfl hl q) k
theorem Go.lstore (pc' : Nat) (Ls' : Array Slot) {i : Nat} {x : Int64} (hd : decode B.2.1 pc = .ok (.lstore i, 2)) (hp : pc + 2 = pc') (hl : storeLocals Ls i (.long x) = some Ls') (k : Go l Z R B n0 Q h cl sl pc' Ls' st) : Go l Z R B n0 Q h cl sl pc Ls (.long x :: st) := by
  subst hp; exact Go.lift (fun at_ hx hc q => XT.lstore at_ hx rfl (hb hc hd) rfl hl q) k
theorem Go.dstoreN (pc' : Nat) (Ls' : Array Slot) {i : Fin 4} {x : UInt64} (hd : decode B.2.1 pc = .ok (.dstore_n i, 1)) (hp : pc + 1 = pc') (hl : storeLocals Ls i.val (.double x) = some Ls') (k : Go l Z R B n0 Q h cl sl pc' Ls' st) : Go l Z R B n0 Q h cl sl pc Ls (.double x :: st) := by
  subst hp; exact Go.lift (fun at_ hx hc q => XS.dstoreN at_ hx rfl (hb hc hd) rfl hl q) k
theorem Go.dstore (pc' : Nat) (Ls' : Array Slot) {i : Nat} {x : UInt64} (hd : decode B.2.1 pc = .ok (.dstore i, 2)) (hp : pc + 2 = pc') (hl : storeLocals Ls i (.double x) = some Ls') (k : Go l Z R B n0 Q h cl sl pc' Ls' st) : Go l Z R B n0 Q h cl sl pc Ls (.double x :: st) := by
  subst hp; exact Go.lift (fun at_ hx hc q => XS.dstore at_ hx rfl (hb hc hd) rfl hl q) k
theorem Go.astoreN (pc' : Nat) (Ls' : Array Slot) {i : Fin 4} {x : Value} (hd : decode B.2.1 pc = .ok (.astore_n i, 1)) (hp : pc + 1 = pc') (hv : x.isRef = true) (hl : storeLocals Ls i.val x = some Ls') (k : Go l Z R B n0 Q h cl sl pc' Ls' st) : Go l Z R B n0 Q h cl sl pc Ls (x :: st) := by
  subst hp; exact Go.lift (fun at_ hx hc q => XS.astoreN at_ hx rfl (hb hc hd) rfl hv hl q) k
theorem Go.astore (pc' : Nat) (Ls' : Array Slot) {i : Nat} {x : Value} (hd : decode B.2.1 pc = .ok (.astore i, 2)) (hp : pc + 2 = pc') (hv : x.isRef = true) (hl : storeLocals Ls i x = some Ls') (k : Go l Z R B n0 Q h cl sl pc' Ls' st) : Go l Z R B n0 Q h cl sl pc Ls (x :: st) := by
  subst hp; exact Go.lift (fun at_ hx hc q => XS.astore at_ hx rfl (hb hc hd) rfl hv hl q) k
theorem Go.iinc (pc' : Nat) (Ls' : Array Slot) (v : Int32) {i : Nat} {cst : Int} {x : Int32} (hd : decode B.2.1 pc = .ok (.iinc i cst, 3)) (hp : pc + 3 = pc') (hl : Ls[i]? = some (.val (.int x))) (hv : x + Int32.ofInt cst = v) (hl' : storeLocals Ls i (.int v) = some Ls') (k : Go l Z R B n0 Q h cl sl pc' Ls' st) : Go l Z R B n0 Q h cl sl pc Ls st := by
  subst hp; subst hv; exact Go.lift (fun at_ hx hc q => XS.iinc at_ hx rfl (hb hc hd) hl hl' q) k
theorem Go.iconst (pc' : Nat) (v : Int32) {i : Int} (hd : decode B.2.1 pc = .ok (.iconst i, 1)) (hp : pc + 1 = pc') (hv : Int32.ofInt i = v) (k : Go l Z R B n0 Q h cl sl pc' Ls (.int v :: st)) : Go l Z R B n0 Q h cl sl pc Ls st := by
  subst hp; exact Go.lift (fun at_ hx hc q => XT.iconstV at_ hx rfl v (hb hc hd) hv q) k
theorem Go.bipush (pc' : Nat) (v : Int32) {i : Int} (hd : decode B.2.1 pc = .ok (.bipush i, 2)) (hp : pc + 2 = pc') (hv : (Int8.ofInt i).toInt32 = v) (k : Go l Z R B n0 Q h cl sl pc' Ls (.int v :: st)) : Go l Z R B n0 Q h cl sl pc Ls st := by
  subst hp; exact Go.lift (fun at_ hx hc q => XT.bipushV at_ hx rfl v (hb hc hd) hv q) k
theorem Go.sipush (pc' : Nat) (v : Int32) {i : Int} (hd : decode B.2.1 pc = .ok (.sipush i, 3)) (hp : pc + 3 = pc') (hv : (Int16.ofInt i).toInt32 = v) (k : Go l Z R B n0 Q h cl sl pc' Ls (.int v :: st)) : Go l Z R B n0 Q h cl sl pc Ls st := by
  subst hp; exact Go.lift (fun at_ hx hc q => XT.sipushV at_ hx rfl v (hb hc hd) hv q) k
theorem Go.lconst (pc' : Nat) (v : Int64) {i : Fin 2} (hd : decode B.2.1 pc = .ok (.lconst i, 1)) (hp : pc + 1 = pc') (hv : Int64.ofNat i = v) (k : Go l Z R B n0 Q h cl sl pc' Ls (.long v :: st)) : Go l Z R B n0 Q h cl sl pc Ls st := by
  subst hp; exact Go.lift (fun at_ hx hc q => XT.lconstV at_ hx rfl v (hb hc hd) hv q) k
theorem Go.dconst0 (pc' : Nat) (v : UInt64) (hd : decode B.2.1 pc = .ok (.dconst 0, 1)) (hp : pc + 1 = pc') (hv : FP.dconst0 = v) (k : Go l Z R B n0 Q h cl sl pc' Ls (.double v :: st)) : Go l Z R B n0 Q h cl sl pc Ls st := by
  subst hp; exact Go.lift (fun at_ hx hc q => XS.dconst0 at_ hx rfl (hb hc hd) hv q) k
theorem Go.dconst1 (pc' : Nat) (v : UInt64) (hd : decode B.2.1 pc = .ok (.dconst 1, 1)) (hp : pc + 1 = pc') (hv : FP.dconst1 = v) (k : Go l Z R B n0 Q h cl sl pc' Ls (.double v :: st)) : Go l Z R B n0 Q h cl sl pc Ls st := by
  subst hp; exact Go.lift (fun at_ hx hc q => XS.dconst1 at_ hx rfl (hb hc hd) hv q) k
theorem Go.aconstNull (pc' : Nat) (hd : decode B.2.1 pc = .ok (.aconst_null, 1)) (hp : pc + 1 = pc') (k : Go l Z R B n0 Q h cl sl pc' Ls (.null :: st)) : Go l Z R B n0 Q h cl sl pc Ls st := by
  subst hp; exact Go.lift (fun at_ hx hc q => XS.aconstNull at_ hx rfl (hb hc hd) q) k
/-! arithmetic; the value is named: v, by an equation -/
theorem Go.iadd (pc' : Nat) (v : Int32) {x y : Int32} (hd : decode B.2.1 pc = .ok (.iadd, 1)) (hp : pc + 1 = pc') (hv : x + y = v) (k : Go l Z R B n0 Q h cl sl pc' Ls (.int v :: st)) : Go l Z R B n0 Q h cl sl pc Ls (.int y :: .int x :: st) := by
  subst hp; subst hv; exact Go.lift (fun at_ hx hc q => XS.iadd at_ hx rfl (hb hc hd) rfl q) k
theorem Go.isub (pc' : Nat) (v : Int32) {x y : Int32} (hd : decode B.2.1 pc = .ok (.isub, 1)) (hp : pc + 1 = pc') (hv : x - y = v) (k : Go l Z R B n0 Q h cl sl pc' Ls (.int v :: st)) : Go l Z R B n0 Q h cl sl pc Ls (.int y :: .int x :: st) := by
  subst hp; subst hv; exact Go.lift (fun at_ hx hc q => XS.isub at_ hx rfl (hb hc hd) rfl q) k
theorem Go.imul (pc' : Nat) (v : Int32) {x y : Int32} (hd : decode B.2.1 pc = .ok (.imul, 1)) (hp : pc + 1 = pc') (hv : x * y = v) (k : Go l Z R B n0 Q h cl sl pc' Ls (.int v :: st)) : Go l Z R B n0 Q h cl sl pc Ls (.int y :: .int x :: st) := by
  subst hp; subst hv; exact Go.lift (fun at_ hx hc q => XS.imul at_ hx rfl (hb hc hd) rfl q) k
theorem Go.idiv (pc' : Nat) (v : Int32) {x y : Int32} (hd : decode B.2.1 pc = .ok (.idiv, 1)) (hp : pc + 1 = pc') (hy : y ≠ 0) (hv : x / y = v) (k : Go l Z R B n0 Q h cl sl pc' Ls (.int v :: st)) : Go l Z R B n0 Q h cl sl pc Ls (.int y :: .int x :: st) := by
  subst hp; subst hv; exact Go.lift (fun at_ hx hc q => XS.idiv at_ hx rfl (hb hc hd) rfl hy q) k
theorem Go.irem (pc' : Nat) (v : Int32) {x y : Int32} (hd : decode B.2.1 pc = .ok (.irem, 1)) (hp : pc + 1 = pc') (hy : y ≠ 0) (hv : x % y = v) (k : Go l Z R B n0 Q h cl sl pc' Ls (.int v :: st)) : Go l Z R B n0 Q h cl sl pc Ls (.int y :: .int x :: st) := by
  subst hp; subst hv
  have q0 : x - x / y * y = x % y := irem_eq_mod x y
  have k' : Go l Z R B n0 Q h cl sl (pc + 1) Ls (.int (x - x / y * y) :: st) := by rw [q0]; exact k
  intro p e s m args below meth c T locs X cx fr eT hn
  obtain ⟨s₂, o, h1, r⟩ := k' _ _ _ _ _ _ _ _ _ _ X cx fr eT hn
  exact ⟨s₂, o, XS.irem X.here cx.1 (g := mkF m pc Ls (.int y :: .int x :: st)) rfl (hb cx.2.2.2.1 hd) rfl hy h1, r⟩
theorem Go.iand (pc' : Nat) (v : Int32) {x y : Int32} (hd : decode B.2.1 pc = .ok (.iand, 1)) (hp : pc + 1 = pc') (hv : x &&& y = v) (k : Go l Z R B n0 Q h cl sl pc' Ls (.int v :: st)) : Go l Z R B n0 Q h cl sl pc Ls (.int y :: .int x :: st) := by
  subst hp; subst hv; exact Go.lift (fun at_ hx hc q => XS.iand at_ hx rfl (hb hc hd) rfl q) k
theorem Go.ixor (pc' : Nat) (v : Int32) {x y : Int32} (hd : decode B.2.1 pc = .ok (.ixor, 1)) (hp : pc + 1 = pc') (hv : x ^^^ y = v) (k : Go l Z R B n0 Q h cl sl pc' Ls (.int v :: st)) : Go l Z R B n0 Q h cl sl pc Ls (.int y :: .int x :: st) := by
  subst hp; subst hv; exact Go.lift (fun at_ hx hc q => XT.ixor at_ hx rfl (hb hc hd) rfl q) k
theorem Go.ishl (pc' : Nat) (v : Int32) {x y : Int32} (hd : decode B.2.1 pc = .ok (.ishl, 1)) (hp : pc + 1 = pc') (hv : x <<< (y &&& 31) = v) (k : Go l Z R B n0 Q h cl sl pc' Ls (.int v :: st)) : Go l Z R B n0 Q h cl sl pc Ls (.int y :: .int x :: st) := by
  subst hp; subst hv; exact Go.lift (fun at_ hx hc q => XT.ishl at_ hx rfl (hb hc hd) rfl q) k
theorem Go.iushr (pc' : Nat) (v : Int32) {x y : Int32} (hd : decode B.2.1 pc = .ok (.iushr, 1)) (hp : pc + 1 = pc') (hv : XT.ushr x y = v) (k : Go l Z R B n0 Q h cl sl pc' Ls (.int v :: st)) : Go l Z R B n0 Q h cl sl pc Ls (.int y :: .int x :: st) := by
  subst hp; subst hv; exact Go.lift (fun at_ hx hc q => XT.iushr at_ hx rfl (hb hc hd) rfl q) k
theorem Go.ineg (pc' : Nat) (v : Int32) {x : Int32} (hd : decode B.2.1 pc = .ok (.ineg, 1)) (hp : pc + 1 = pc') (hv : -x = v) (k : Go l Z R B n0 Q h cl sl pc' Ls (.int v :: st)) : Go l Z R B n0 Q h cl sl pc Ls (.int x :: st) := by
  subst hp; subst hv; exact Go.lift (fun at_ hx hc q => XS.ineg at_ hx rfl (hb hc hd) rfl q) k
theorem Go.ladd (pc' : Nat) (v : Int64) {x y : Int64} (hd : decode B.2.1 pc = .ok (.ladd, 1)) (hp : pc + 1 = pc') (hv : x + y = v) (k : Go l Z R B n0 Q h cl sl pc' Ls (.long v :: st)) : Go l Z R B n0 Q h cl sl pc Ls (.long y :: .long x :: st) := by
  subst hp; subst hv; exact Go.lift (fun at_ hx hc q => XT.ladd at_ hx rfl (hb hc hd) rfl q) k
theorem Go.lsub (pc' : Nat) (v : Int64) {x y : Int64} (hd : decode B.2.1 pc = .ok (.lsub, 1)) (hp : pc + 1 = pc') (hv : x - y = v) (k : Go l Z R B n0 Q h cl sl pc' Ls (.long v :: st)) : Go l Z R B n0 Q h cl sl pc Ls (.long y :: .long x :: st) := by
  subst hp; subst hv; exact Go.lift (fun at_ hx hc q => XT.lsub at_ hx rfl (hb hc hd) rfl q) k
theorem Go.lmul (pc' : Nat) (v : Int64) {x y : Int64} (hd : decode B.2.1 pc = .ok (.lmul, 1)) (hp : pc + 1 = pc') (hv : x * y = v) (k : Go l Z R B n0 Q h cl sl pc' Ls (.long v :: st)) : Go l Z R B n0 Q h cl sl pc Ls (.long y :: .long x :: st) := by
  subst hp; subst hv; exact Go.lift (fun at_ hx hc q => XT.lmul at_ hx rfl (hb hc hd) rfl q) k
theorem Go.land (pc' : Nat) (v : Int64) {x y : Int64} (hd : decode B.2.1 pc = .ok (.land, 1)) (hp : pc + 1 = pc') (hv : x &&& y = v) (k : Go l Z R B n0 Q h cl sl pc' Ls (.long v :: st)) : Go l Z R B n0 Q h cl sl pc Ls (.long y :: .long x :: st) := by
  subst hp; subst hv; exact Go.lift (fun at_ hx hc q => XT.land at_ hx rfl (hb hc hd) rfl q) k
theorem Go.lshl (pc' : Nat) (v : Int64) {x : Int64} {y : Int32} (hd : decode B.2.1 pc = .ok (.lshl, 1)) (hp : pc + 1 = pc') (hv : x <<< (y.toInt64 &&& 63) = v) (k : Go l Z R B n0 Q h cl sl pc' Ls (.long v :: st)) : Go l Z R B n0 Q h cl sl pc Ls (.int y :: .long x :: st) := by
  subst hp; subst hv; exact Go.lift (fun at_ hx hc q => XT.lshl at_ hx rfl (hb hc hd) rfl q) k
theorem Go.lshr (pc' : Nat) (v : Int64) {x : Int64} {y : Int32} (hd : decode B.2.1 pc = .ok (.lshr, 1)) (hp : pc + 1 = pc') (hv : x >>> (y.toInt64 &&& 63) = v) (k : Go l Z R B n0 Q h cl sl pc' Ls (.long v :: st)) : Go l Z R B n0 Q h cl sl pc Ls (.int y :: .long x :: st) := by
  subst hp; subst hv; exact Go.lift (fun at_ hx hc q => XT.lshr at_ hx rfl (hb hc hd) rfl q) k
theorem Go.lushr (pc' : Nat) (v : Int64) {x : Int64} {y : Int32} (hd : decode B.2.1 pc = .ok (.lushr, 1)) (hp : pc + 1 = pc') (hv : XT.ushrL x y = v) (k : Go l Z R B n0 Q h cl sl pc' Ls (.long v :: st)) : Go l Z R B n0 Q h cl sl pc Ls (.int y :: .long x :: st) := by
  subst hp; subst hv; exact Go.lift (fun at_ hx hc q => XT.lushr at_ hx rfl (hb hc hd) rfl q) k
theorem Go.i2l (pc' : Nat) (v : Int64) {x : Int32} (hd : decode B.2.1 pc = .ok (.i2l, 1)) (hp : pc + 1 = pc') (hv : x.toInt64 = v) (k : Go l Z R B n0 Q h cl sl pc' Ls (.long v :: st)) : Go l Z R B n0 Q h cl sl pc Ls (.int x :: st) := by
  subst hp; subst hv; exact Go.lift (fun at_ hx hc q => XT.i2l at_ hx rfl (hb hc hd) rfl q) k
theorem Go.l2i (pc' : Nat) (v : Int32) {x : Int64} (hd : decode B.2.1 pc = .ok (.l2i, 1)) (hp : pc + 1 = pc') (hv : x.toInt32 = v) (k : Go l Z R B n0 Q h cl sl pc' Ls (.int v :: st)) : Go l Z R B n0 Q h cl sl pc Ls (.long x :: st) := by
  subst hp; subst hv; exact Go.lift (fun at_ hx hc q => XT.l2i at_ hx rfl (hb hc hd) rfl q) k
theorem Go.i2s (pc' : Nat) (v : Int32) {x : Int32} (hd : decode B.2.1 pc = .ok (.i2s, 1)) (hp : pc + 1 = pc') (hv : x.toInt16.toInt32 = v) (k : Go l Z R B n0 Q h cl sl pc' Ls (.int v :: st)) : Go l Z R B n0 Q h cl sl pc Ls (.int x :: st) := by
  subst hp; subst hv; exact Go.lift (fun at_ hx hc q => XT.i2s at_ hx rfl (hb hc hd) rfl q) k
theorem Go.i2d (pc' : Nat) (v : UInt64) {x : Int32} (hd : decode B.2.1 pc = .ok (.i2d, 1)) (hp : pc + 1 = pc') (hv : FP.i2d x = v) (k : Go l Z R B n0 Q h cl sl pc' Ls (.double v :: st)) : Go l Z R B n0 Q h cl sl pc Ls (.int x :: st) := by
  subst hp; exact Go.lift (fun at_ hx hc q => XS.i2dS at_ hx rfl (hb hc hd) rfl hv q) k
theorem Go.l2d (pc' : Nat) (v : UInt64) {x : Int64} (hd : decode B.2.1 pc = .ok (.l2d, 1)) (hp : pc + 1 = pc') (hv : FP.l2d x = v) (k : Go l Z R B n0 Q h cl sl pc' Ls (.double v :: st)) : Go l Z R B n0 Q h cl sl pc Ls (.long x :: st) := by
  subst hp; exact Go.lift (fun at_ hx hc q => XS.l2dS at_ hx rfl (hb hc hd) rfl hv q) k
theorem Go.d2l (pc' : Nat) (v : Int64) {x : UInt64} (hd : decode B.2.1 pc = .ok (.d2l, 1)) (hp : pc + 1 = pc') (hv : FP.d2l x = v) (k : Go l Z R B n0 Q h cl sl pc' Ls (.long v :: st)) : Go l Z R B n0 Q h cl sl pc Ls (.double x :: st) := by
  subst hp; exact Go.lift (fun at_ hx hc q => XS.d2lS at_ hx rfl (hb hc hd) rfl hv q) k
theorem Go.dadd (pc' : Nat) (v : UInt64) {x y : UInt64} (hd : decode B.2.1 pc = .ok (.dadd, 1)) (hp : pc + 1 = pc') (hv : FP.dadd x y = v) (hn : Jvm.Free.Fl.NoNaN64 v) (k : Go l Z R B n0 Q h cl sl pc' Ls (.double v :: st)) : Go l Z R B n0 Q h cl sl pc Ls (.double y :: .double x :: st) := by
  subst hp; exact Go.lift (fun at_ hx hc q => XS.daddS at_ hx rfl (hb hc hd) rfl (hv ▸ hn) hv q) k
theorem Go.dsub (pc' : Nat) (v : UInt64) {x y : UInt64} (hd : decode B.2.1 pc = .ok (.dsub, 1)) (hp : pc + 1 = pc') (hv : FP.dsub x y = v) (hn : Jvm.Free.Fl.NoNaN64 v) (k : Go l Z R B n0 Q h cl sl pc' Ls (.double v :: st)) : Go l Z R B n0 Q h cl sl pc Ls (.double y :: .double x :: st) := by
  subst hp; exact Go.lift (fun at_ hx hc q => XS.dsubS at_ hx rfl (hb hc hd) rfl (hv ▸ hn) hv q) k
theorem Go.dmul (pc' : Nat) (v : UInt64) {x y : UInt64} (hd : decode B.2.1 pc = .ok (.dmul, 1)) (hp : pc + 1 = pc') (hv : FP.dmul x y = v) (hn : Jvm.Free.Fl.NoNaN64 v) (k : Go l Z R B n0 Q h cl sl pc' Ls (.double v :: st)) : Go l Z R B n0 Q h cl sl pc Ls (.double y :: .double x :: st) := by
  subst hp; exact Go.lift (fun at_ hx hc q => XS.dmulS at_ hx rfl (hb hc hd) rfl (hv ▸ hn) hv q) k
theorem Go.ddiv (pc' : Nat) (v : UInt64) {x y : UInt64} (hd : decode B.2.1 pc = .ok (.ddiv, 1)) (hp : pc + 1 = pc') (hv : FP.ddiv x y = v) (hn : Jvm.Free.Fl.NoNaN64 v) (k : Go l Z R B n0 Q h cl sl pc' Ls (.double v :: st)) : Go l Z R B n0 Q h cl sl pc Ls (.double y :: .double x :: st) := by
  subst hp; exact Go.lift (fun at_ hx hc q => XS.ddivS at_ hx rfl (hb hc hd) rfl (hv ▸ hn) hv q) k
theorem Go.dcmp (pc' : Nat) (v : Int32) {o : CmpOp} {x y : UInt64} (hd : decode B.2.1 pc = .ok (.dcmp o, 1)) (hp : pc + 1 = pc') (hv : cmpValue (FP.dcmp x y) o = v) (k : Go l Z R B n0 Q h cl sl pc' Ls (.int v :: st)) : Go l Z R B n0 Q h cl sl pc Ls (.double y :: .double x :: st) := by
  subst hp; exact Go.lift (fun at_ hx hc q => XS.dcmpS at_ hx rfl (hb hc hd) rfl hv q) k
theorem Go.lcmp (pc' : Nat) (v : Int32) {x y : Int64} (hd : decode B.2.1 pc = .ok (.lcmp, 1)) (hp : pc + 1 = pc') (hv : XT.cmpL x y = v) (k : Go l Z R B n0 Q h cl sl pc' Ls (.int v :: st)) : Go l Z R B n0 Q h cl sl pc Ls (.long y :: .long x :: st) := by
  subst hp; subst hv; exact Go.lift (fun at_ hx hc q => XT.lcmp at_ hx rfl (hb hc hd) rfl q) k
theorem Go.dup (pc' : Nat) {x : Value} (hd : decode B.2.1 pc = .ok (.dup, 1)) (hp : pc + 1 = pc') (hc1 : x.category = 1) (k : Go l Z R B n0 Q h cl sl pc' Ls (x :: x :: st)) : Go l Z R B n0 Q h cl sl pc Ls (x :: st) := by
  subst hp; exact Go.lift (fun at_ hx hc q => XS.dup at_ hx rfl (hb hc hd) rfl hc1 q) k
theorem Go.pop (pc' : Nat) {x : Value} (hd : decode B.2.1 pc = .ok (.pop, 1)) (hp : pc + 1 = pc') (hc1 : x.category = 1) (k : Go l Z R B n0 Q h cl sl pc' Ls st) : Go l Z R B n0 Q h cl sl pc Ls (x :: st) := by
  subst hp; exact Go.lift (fun at_ hx hc q => XT.pop at_ hx rfl (hb hc hd) rfl hc1 q) k
theorem Go.dupX1 (pc' : Nat) {x y : Value} (hd : decode B.2.1 pc = .ok (.dup_x1, 1)) (hp : pc + 1 = pc') (hc1 : x.category = 1) (hc2 : y.category = 1) (k : Go l Z R B n0 Q h cl sl pc' Ls (x :: y :: x :: st)) : Go l Z R B n0 Q h cl sl pc Ls (x :: y :: st) := by
  subst hp; exact Go.lift (fun at_ hx hc q => XT.dupX1 at_ hx rfl (hb hc hd) rfl hc1 hc2 q) k
theorem Go.dup2 (pc' : Nat) {x y : Value} (hd : decode B.2.1 pc = .ok (.dup2, 1)) (hp : pc + 1 = pc') (hc1 : x.category = 1) (hc2 : y.category = 1) (k : Go l Z R B n0 Q h cl sl pc' Ls (x :: y :: x :: y :: st)) : Go l Z R B n0 Q h cl sl pc Ls (x :: y :: st) := by
  subst hp; exact Go.lift (fun at_ hx hc q => XT.dup2 at_ hx rfl (hb hc hd) rfl hc1 hc2 q) k
/-! jumps: both roads -/
theorem Go.goto (pc' : Nat) {o : Int} (hd : decode B.2.1 pc = .ok (.goto o, 3)) (ho : 0 ≤ (pc : Int) + o) (hp : ((pc : Int) + o).toNat = pc') (k : Go l Z R B n0 Q h cl sl pc' Ls st) : Go l Z R B n0 Q h cl sl pc Ls st :=
  Go.lift (fun at_ hx hc q => XS.goto at_ hx rfl (pc0 := pc) (pc' := pc') rfl (hb hc hd) ho hp q) k
theorem Go.ifC (pc' pc'' : Nat) {cd : ClassFile.Cond} {x : Int32} {o : Int} (hd : decode B.2.1 pc = .ok (.ifCond cd o, 3)) (ho : 0 ≤ (pc : Int) + o) (hp : ((pc : Int) + o).toNat = pc') (hp2 : pc + 3 = pc'')
    (k1 : ifCond.holds cd x = true → Go l Z R B n0 Q h cl sl pc' Ls st) (k2 : ifCond.holds cd x = false → Go l Z R B n0 Q h cl sl pc'' Ls st) : Go l Z R B n0 Q h cl sl pc Ls (.int x :: st) := by
  subst hp2
  cases hh : ifCond.holds cd x with
  | true => exact Go.lift (fun at_ hx hc q => XS.ifYes at_ hx rfl (pc0 := pc) (pc' := pc') rfl (hb hc hd) rfl hh ho hp q) (k1 hh)
  | false => exact Go.lift (fun at_ hx hc q => XS.ifNo at_ hx rfl (hb hc hd) rfl hh q) (k2 hh)
theorem Go.icmp (pc' pc'' : Nat) {cd : ClassFile.Cond} {x y : Int32} {o : Int} (hd : decode B.2.1 pc = .ok (.if_icmp cd o, 3)) (ho : 0 ≤ (pc : Int) + o) (hp : ((pc : Int) + o).toNat = pc') (hp2 : pc + 3 = pc'')
    (k1 : if_icmp.holds cd x y = true → Go l Z R B n0 Q h cl sl pc' Ls st) (k2 : if_icmp.holds cd x y = false → Go l Z R B n0 Q h cl sl pc'' Ls st) : Go l Z R B n0 Q h cl sl pc Ls (.int y :: .int x :: st) := by
  subst hp2
  cases hh : if_icmp.holds cd x y with
  | true => exact Go.lift (fun at_ hx hc q => XS.icmpYes at_ hx rfl (pc0 := pc) (pc' := pc') rfl (hb hc hd) rfl hh ho hp q) (k1 hh)
  | false => exact Go.lift (fun at_ hx hc q => XS.icmpNo at_ hx rfl (hb hc hd) rfl hh q) (k2 hh)
theorem Go.acmp (pc' pc'' : Nat) {cd : ClassFile.ACond} {x y : Value} {o : Int} (hd : decode B.2.1 pc = .ok (.if_acmp cd o, 3)) (ho : 0 ≤ (pc : Int) + o) (hp : ((pc : Int) + o).toNat = pc') (hp2 : pc + 3 = pc'') (hx1 : x.isRef = true) (hy1 : y.isRef = true)
    (k1 : XT.acmp cd x y = true → Go l Z R B n0 Q h cl sl pc' Ls st) (k2 : XT.acmp cd x y = false → Go l Z R B n0 Q h cl sl pc'' Ls st) : Go l Z R B n0 Q h cl sl pc Ls (y :: x :: st) := by
  subst hp2
  cases hh : XT.acmp cd x y with
  | true => exact Go.lift (fun at_ hx hc q => XT.acmpYes at_ hx rfl (pc0 := pc) (pc' := pc') rfl (hb hc hd) rfl hx1 hy1 hh ho hp q) (k1 hh)
  | false => exact Go.lift (fun at_ hx hc q => XT.acmpNo at_ hx rfl (hb hc hd) rfl hx1 hy1 hh q) (k2 hh)
/-! branches, said of whole numbers -/
def cmpP (cd : ClassFile.Cond) (x y : Int) : Prop := match cd with
  | .eq => x = y | .ne => x ≠ y | .lt => x < y | .ge => y ≤ x | .gt => y < x | .le => x ≤ y
def cmpN (cd : ClassFile.Cond) (x y : Int) : Prop := match cd with
  | .eq => x ≠ y | .ne => x = y | .lt => y ≤ x | .ge => x < y | .gt => x ≤ y | .le => y < x
theorem holds_t (cd : ClassFile.Cond) (x y : Int32) : if_icmp.holds cd x y = true ↔ cmpP cd x.toInt y.toInt := by
  cases cd <;> simp [if_icmp.holds, cmpP, Int32.lt_iff_toInt_lt, Int32.le_iff_toInt_le, ← Int32.toInt_inj]
theorem holds_f (cd : ClassFile.Cond) (x y : Int32) : if_icmp.holds cd x y = false ↔ cmpN cd x.toInt y.toInt := by
  cases cd <;> simp [if_icmp.holds, cmpN, Int32.lt_iff_toInt_lt, Int32.le_iff_toInt_le, ← Int32.toInt_inj]
theorem holds0_t (cd : ClassFile.Cond) (x : Int32) : ifCond.holds cd x = true ↔ cmpP cd x.toInt 0 := by rw [if0, holds_t]; exact Iff.rfl
theorem holds0_f (cd : ClassFile.Cond) (x : Int32) : ifCond.holds cd x = false ↔ cmpN cd x.toInt 0 := by rw [if0, holds_f]; exact Iff.rfl
theorem Go.icmpB (pc' pc'' : Nat) {cd : ClassFile.Cond} {x y : Int32} {o : Int} (hd : decode B.2.1 pc = .ok (.if_icmp cd o, 3)) (ho : 0 ≤ (pc : Int) + o) (hp : ((pc : Int) + o).toNat = pc') (hp2 : pc + 3 = pc'')
    (k1 : cmpP cd x.toInt y.toInt → Go l Z R B n0 Q h cl sl pc' Ls st) (k2 : cmpN cd x.toInt y.toInt → Go l Z R B n0 Q h cl sl pc'' Ls st) : Go l Z R B n0 Q h cl sl pc Ls (.int y :: .int x :: st) :=
  Go.icmp pc' pc'' hd ho hp hp2 (fun q => k1 ((holds_t _ _ _).mp q)) (fun q => k2 ((holds_f _ _ _).mp q))
theorem Go.icmpT (pc' : Nat) {cd : ClassFile.Cond} {x y : Int32} {o : Int} (hd : decode B.2.1 pc = .ok (.if_icmp cd o, 3)) (ho : 0 ≤ (pc : Int) + o) (hp : ((pc : Int) + o).toNat = pc')
    (q : cmpP cd x.toInt y.toInt) (k1 : Go l Z R B n0 Q h cl sl pc' Ls st) : Go l Z R B n0 Q h cl sl pc Ls (.int y :: .int x :: st) :=
  Go.icmp pc' (pc + 3) hd ho hp rfl (fun _ => k1) (fun r => by rw [(holds_t _ _ _).mpr q] at r; cases r)
theorem Go.icmpF (pc'' : Nat) {cd : ClassFile.Cond} {x y : Int32} {o : Int} (hd : decode B.2.1 pc = .ok (.if_icmp cd o, 3)) (hp2 : pc + 3 = pc'')
    (q : cmpN cd x.toInt y.toInt) (k2 : Go l Z R B n0 Q h cl sl pc'' Ls st) : Go l Z R B n0 Q h cl sl pc Ls (.int y :: .int x :: st) := by
  subst hp2; exact Go.lift (fun at_ hx hc q0 => XS.icmpNo at_ hx rfl (hb hc hd) rfl ((holds_f _ _ _).mpr q) q0) k2
theorem Go.ifCB (pc' pc'' : Nat) {cd : ClassFile.Cond} {x : Int32} {o : Int} (hd : decode B.2.1 pc = .ok (.ifCond cd o, 3)) (ho : 0 ≤ (pc : Int) + o) (hp : ((pc : Int) + o).toNat = pc') (hp2 : pc + 3 = pc'')
    (k1 : cmpP cd x.toInt 0 → Go l Z R B n0 Q h cl sl pc' Ls st) (k2 : cmpN cd x.toInt 0 → Go l Z R B n0 Q h cl sl pc'' Ls st) : Go l Z R B n0 Q h cl sl pc Ls (.int x :: st) :=
  Go.ifC pc' pc'' hd ho hp hp2 (fun q => k1 ((holds0_t _ _).mp q)) (fun q => k2 ((holds0_f _ _).mp q))
theorem Go.ifCT (pc' : Nat) {cd : ClassFile.Cond} {x : Int32} {o : Int} (hd : decode B.2.1 pc = .ok (.ifCond cd o, 3)) (ho : 0 ≤ (pc : Int) + o) (hp : ((pc : Int) + o).toNat = pc')
    (q : cmpP cd x.toInt 0) (k1 : Go l Z R B n0 Q h cl sl pc' Ls st) : Go l Z R B n0 Q h cl sl pc Ls (.int x :: st) :=
  Go.ifC pc' (pc + 3) hd ho hp rfl (fun _ => k1) (fun r => by rw [(holds0_t _ _).mpr q] at r; cases r)
theorem Go.ifCF (pc'' : Nat) {cd : ClassFile.Cond} {x : Int32} {o : Int} (hd : decode B.2.1 pc = .ok (.ifCond cd o, 3)) (hp2 : pc + 3 = pc'')
    (q : cmpN cd x.toInt 0) (k2 : Go l Z R B n0 Q h cl sl pc'' Ls st) : Go l Z R B n0 Q h cl sl pc Ls (.int x :: st) := by
  subst hp2; exact Go.lift (fun at_ hx hc q0 => XS.ifNo at_ hx rfl (hb hc hd) rfl ((holds0_f _ _).mpr q) q0) k2
/-! ### constants of the pool -/
theorem Go.ldc2J (pc' : Nat) (v : Int64) {index : Nat} (w : (Cond.constantLong B.1.cls index v).before a0 Z = true) (hd : decode B.2.1 pc = .ok (.ldc2_w index, 3)) (hp : pc + 3 = pc') (k : Go l Z R B n0 Q h cl sl pc' Ls (.long v :: st)) : Go l Z R B n0 Q h cl sl pc Ls st := by
  subst hp
  intro p e s m args below meth c T locs X cx fr eT hn
  obtain ⟨s₂, o, h1, r⟩ := k _ _ _ _ _ _ _ _ _ _ X cx fr eT hn
  exact ⟨s₂, o, X.ldc2J cx.1 cx.2.2.1 (mv cx.2.1 w) rfl (hb cx.2.2.2.1 hd) h1, r⟩
theorem Go.ldc2D (pc' : Nat) (v : UInt64) {index : Nat} (w : (Cond.constantDouble B.1.cls index v).before a0 Z = true) (hd : decode B.2.1 pc = .ok (.ldc2_w index, 3)) (hp : pc + 3 = pc') (k : Go l Z R B n0 Q h cl sl pc' Ls (.double v :: st)) : Go l Z R B n0 Q h cl sl pc Ls st := by
  subst hp
  intro p e s m args below meth c T locs X cx fr eT hn
  obtain ⟨s₂, o, h1, r⟩ := k _ _ _ _ _ _ _ _ _ _ X cx fr eT hn
  exact ⟨s₂, o, X.ldc2DoubleC cx.1 cx.2.2.1 (mv cx.2.1 w) (g := mkF m pc Ls st) rfl (hb cx.2.2.2.1 hd) _ h1, r⟩
theorem Go.ldcI (pc' : Nat) (v : Int32) {index : Nat} (w : (Cond.constant B.1.cls index v).before a0 Z = true) (hd : decode B.2.1 pc = .ok (.ldc index, 2)) (hp : pc + 2 = pc') (k : Go l Z R B n0 Q h cl sl pc' Ls (.int v :: st)) : Go l Z R B n0 Q h cl sl pc Ls st := by
  subst hp
  intro p e s m args below meth c T locs X cx fr eT hn
  obtain ⟨s₂, o, h1, r⟩ := k _ _ _ _ _ _ _ _ _ _ X cx fr eT hn
  exact ⟨s₂, o, X.ldcI cx.1 cx.2.2.1 (mv cx.2.1 w) rfl (hb cx.2.2.2.1 hd) h1, r⟩
/-! ### fields -/
theorem Go.getF (pc' : Nat) {R0 O n d host : String} {index : Nat} {a : Nat} {v : Value} (w : (Cond.fieldLink B.1.cls index R0 n d).before a0 Z = true ∨ (Cond.fieldLinkNest B.1.cls index R0 n d host).before a0 Z = true) (via : Via Z R0 O n d) (F : Fld Z h a O n d v) (hd : decode B.2.1 pc = .ok (.getfield index, 3)) (hp : pc + 3 = pc')
    (k : Go l Z R B n0 Q h cl sl pc' Ls (v :: st)) : Go l Z R B n0 Q h cl sl pc Ls (.ref a :: st) := by
  subst hp
  intro p e s m args below meth c T locs X cx fr eT hn
  obtain ⟨T', X', e', stp⟩ := RoadKit.getF X cx.1 cx.2.1 cx.2.2.1 w via eT F (g := mkF m pc Ls (.ref a :: st)) rfl rfl (hb cx.2.2.2.1 hd)
  obtain ⟨s₂, o, h1, r⟩ := k _ _ _ _ _ _ _ _ _ _ X' cx fr e' hn
  exact ⟨s₂, o, stp _ h1, r⟩
/-- getfield of a field that the class itself declares, by its plain link word -/
theorem Go.getf (pc' : Nat) {O n d : String} {index : Nat} {a : Nat} {v : Value} (w : (Cond.fieldLink B.1.cls index O n d).before a0 Z = true) (F : Fld Z h a O n d v) (hd : decode B.2.1 pc = .ok (.getfield index, 3)) (hp : pc + 3 = pc')
    (k : Go l Z R B n0 Q h cl sl pc' Ls (v :: st)) : Go l Z R B n0 Q h cl sl pc Ls (.ref a :: st) := Go.getF pc' (host := "") (Or.inl w) Via.refl F hd hp k
theorem Go.putF (pc' : Nat) {O n d C : String} {index kk : Nat} {ty : FieldType} {a : Nat} {v old : Value} (w : (Cond.fieldLink B.1.cls index O n d).before a0 Z = true) (F : Fld Z h a O n d old) (E : Exa Z h a C)
    (L : (Cond.lays C O n d).before a0 Z = true ∨ ((Cond.laysFinal C O n d).before a0 Z = true ∧ B.1.cls = O ∧ B.1.name = "<init>")) (wi : (Cond.instantiable C kk).before a0 Z = true)
    (hty : parseFieldDescriptor d = some ty) (hn : narrow ty v = v) (hf : fits ty v = true) (ha : n0 ≤ a) (hd : decode B.2.1 pc = .ok (.putfield index, 3)) (hp : pc + 3 = pc')
    (k : ∀ h', Wr h h' a (Jvm.RoadKit.slotOf Z O n d) v → Go l Z R B n0 Q h' cl sl pc' Ls st) : Go l Z R B n0 Q h cl sl pc Ls (v :: .ref a :: st) := by
  subst hp
  intro p e s m args below meth c T locs X cx fr eT hn'
  obtain ⟨T', h', X', e', W, stp⟩ := RoadKit.putF X cx.1 cx.2.1 (host := "") cx.2.2.1 (Or.inl w) Via.refl eT F E (L.imp id fun q => ⟨q.1, q.2.1, cx.2.2.2.2.2.2.2.1.trans q.2.2⟩) wi hty hn hf (g := mkF m pc Ls (v :: .ref a :: st)) rfl rfl (hb cx.2.2.2.1 hd)
  obtain ⟨s₂, o, h1, r⟩ := k h' W _ _ _ _ _ _ _ _ _ _ X' cx (Fr.snoc X' fr ha) e' (by rw [W.size]; exact hn')
  exact ⟨s₂, o, stp _ h1, r⟩
/-! ### objects -/
theorem Go.new (pc' : Nat) {C : String} {index n : Nat} (w : (Cond.classLink B.1.cls index C).before a0 Z = true) (wi : (Cond.instantiable C n).before a0 Z = true) (wz : (Cond.initialized C).before a0 Z = true) (hd : decode B.2.1 pc = .ok (.new index, 3)) (hp : pc + 3 = pc') (hc : cl + 1 ≤ R.cells) (hl : sl + n ≤ R.slots)
    (k : ∀ h' a, Ext h h' → h.size ≤ a → a < h'.size → n0 ≤ a → Exa Z h' a C → (∀ {O nm d : String} {ty : FieldType}, Laid Z a0 C O nm d → parseFieldDescriptor d = some ty → Fld Z h' a O nm d (defaultValue ty)) → Go l Z R B n0 Q h' (cl + 1) (sl + n) pc' Ls (.ref a :: st)) : Go l Z R B n0 Q h cl sl pc Ls st := by
  subst hp
  intro p e s m args below meth c T locs X cx fr eT hn
  obtain ⟨T', h', X', e', E, A, D, -, stp⟩ := newO X cx.1 cx.2.1 cx.2.2.1 w wi wz eT (g := mkF m pc Ls st) rfl (hb cx.2.2.2.1 hd) hc hl
  obtain ⟨s₂, o, h1, r⟩ := k h' h.size E (Nat.le_refl _) A.lt hn A D _ _ _ _ _ _ _ _ _ _ X' cx fr e' (Nat.le_trans hn E.1)
  exact ⟨s₂, o, stp _ h1, r⟩
/-- Object.<init> -/
theorem Go.initO (pc' : Nat) {index : Nat} {a : Nat} (w1 : (Cond.methodLink B.1.cls index Lib.objectInit).before a0 Z = true) (w2 : (Cond.instanceMethod Lib.objectInit).before a0 Z = true) (w3 : (Cond.code Lib.objectInit ⟨#[0xb1]⟩ 1 none).before a0 Z = true)
    (hsz : Ls.size = B.2.2.1) (hd : decode B.2.1 pc = .ok (.invokespecial index, 3)) (hp : pc + 3 = pc') (hfr : 1 ≤ R.frames) (hlo : (st.map fun v => v.category).sum + 12 ≤ R.locals) (k : Go l Z R B n0 Q h cl sl pc' Ls st) : Go l Z R B n0 Q h cl sl pc Ls (.ref a :: st) := by
  subst hp
  intro p e s m args below meth c T locs X cx fr eT hn
  obtain ⟨T', X', e', stp⟩ := RoadKit.initO X cx.1 cx.2.1 cx.2.2.1 w1 w2 w3 eT (g := mkF m pc Ls (.ref a :: st)) rfl (hsz.trans cx.2.2.2.2.1.symm) rfl (hb cx.2.2.2.1 hd) hfr (W := (st.map fun v => v.category).sum) (by show 2 * 0 + _ ≤ _; omega) hlo
  obtain ⟨s₂, o, h1, r⟩ := k _ _ _ _ _ _ _ _ _ _ X' cx fr e' hn
  exact ⟨s₂, o, stp _ h1, r⟩
/-! ### arrays -/
/-- the array at a holds just these values -/
def ArV (Z : State) (h : Heap) (a : Nat) (ty : FieldType) (vs : List Value) : Prop := ∃ c : Cell, Arr Z h a c ty ∧ c.slots.toList = vs ∧ vs.length < 2147483648
abbrev ArD (Z : State) (h : Heap) (a : Nat) (ds : List UInt64) : Prop := ArV Z h a .double (ds.map Value.double)
abbrev ArI (Z : State) (h : Heap) (a : Nat) (ds : List Int32) : Prop := ArV Z h a .int (ds.map Value.int)
abbrev ArJ (Z : State) (h : Heap) (a : Nat) (ds : List Int64) : Prop := ArV Z h a .long (ds.map Value.long)
theorem ArV.lt {a : Nat} {ty : FieldType} {vs : List Value} (A : ArV Z h a ty vs) : a < h.size := by obtain ⟨c, A, -⟩ := A; exact A.lt
theorem ArV.len {a : Nat} {ty : FieldType} {vs : List Value} (A : ArV Z h a ty vs) : vs.length < 2147483648 := by obtain ⟨c, -, -, q⟩ := A; exact q
theorem ArV.ext {h' : Heap} {a : Nat} {ty : FieldType} {vs : List Value} (A : ArV Z h a ty vs) (E : Ext h h') : ArV Z h' a ty vs := by obtain ⟨c, A, q⟩ := A; exact ⟨c, A.ext E, q⟩
theorem ArV.other {h' : Heap} {a b : Nat} {sl : Nat} {v : Value} {ty : FieldType} {vs : List Value} (A : ArV Z h b ty vs) (W : Wr h h' a sl v) (q : b ≠ a) : ArV Z h' b ty vs := by obtain ⟨c, A, r⟩ := A; exact ⟨c, A.other W q, r⟩
theorem ArV.keep {h' : Heap} {a : Nat} {ws : List Nat} {ty : FieldType} {vs : List Value} (A : ArV Z h a ty vs) (K : Keep h h' ws) (q : a ∉ ws) : ArV Z h' a ty vs := by obtain ⟨c, A, r⟩ := A; exact ⟨c, ⟨K.2.1 a c A.1 q, A.2⟩, r⟩
theorem idx_ok {j : Int32} {i n : Nat} (hj : j.toInt = (i : Int)) (hi : i < n) : ¬ (j < 0 ∨ n ≤ j.toNatClampNeg) ∧ j.toNatClampNeg = i := by
  have h1 : j.toNatClampNeg = i := by simp only [Int32.toNatClampNeg]; omega
  refine ⟨fun q => ?_, h1⟩
  rcases q with q | q
  · simp only [Int32.lt_iff_toInt_lt, Int32.reduceToInt] at q; omega
  · omega
theorem ArV.get {a : Nat} {ty : FieldType} {vs : List Value} {j : Int32} {i : Nat} {v : Value} (A : ArV Z h a ty vs) (hj : j.toInt = (i : Int)) (hi : vs[i]? = some v) : ∃ c : Cell, Arr Z h a c ty ∧ ¬ (j < 0 ∨ c.slots.size ≤ j.toNatClampNeg) ∧ c.slots[j.toNatClampNeg]? = some v := by
  obtain ⟨c, A, e, -⟩ := A
  have hlt : i < c.slots.size := by
    have := (List.getElem?_eq_some_iff.mp hi).1
    rw [← e] at this; simpa using this
  obtain ⟨q1, q2⟩ := idx_ok hj hlt
  refine ⟨c, A, q1, ?_⟩
  rw [q2, ← hi, ← e, Array.getElem?_toList]
theorem ArV.upd {h' : Heap} {a : Nat} {ty : FieldType} {vs : List Value} {j : Int32} {i : Nat} {v : Value} (A : ArV Z h a ty vs) (hj : j.toInt = (i : Int)) (hi : i < vs.length) (W : Wr h h' a j.toNatClampNeg v) : ArV Z h' a ty (vs.set i v) := by
  obtain ⟨c, A, e, hlen⟩ := A
  have hlt : i < c.slots.size := by rw [← e] at hi; simpa using hi
  obtain ⟨q1, q2⟩ := idx_ok hj hlt
  refine ⟨_, A.same W, ?_, by simpa using hlen⟩
  rw [q2, ← e]
  simp [Cell.setSlot, Array.toList_setIfInBounds]
theorem Wr.keep1 {h' : Heap} {a : Nat} {sl : Nat} {v : Value} (W : Wr h h' a sl v) : Keep h h' [a] := Keep.of_wr W
theorem Go.daload (pc' : Nat) {a : Nat} {ds : List UInt64} {j : Int32} {i : Nat} {x : UInt64} (A : ArD Z h a ds) (hj : j.toInt = (i : Int)) (hi : ds[i]? = some x) (hd : decode B.2.1 pc = .ok (.daload, 1)) (hp : pc + 1 = pc')
    (k : Go l Z R B n0 Q h cl sl pc' Ls (.double x :: st)) : Go l Z R B n0 Q h cl sl pc Ls (.int j :: .ref a :: st) := by
  subst hp
  intro p e s m args below meth c T locs X cx fr eT hn
  obtain ⟨s₂, o, h1, r⟩ := k _ _ _ _ _ _ _ _ _ _ X cx fr eT hn
  obtain ⟨c0, A0, q1, q2⟩ := A.get hj (v := .double x) (by rw [List.getElem?_map, hi]; rfl)
  exact ⟨s₂, o, X.daload cx.1 (by rw [eT]; exact A0.1) (State.isArrayOf_alike cx.2.1.alike A0.2.1) A0.2.2 q1 q2 (g := mkF m pc Ls (.int j :: .ref a :: st)) rfl rfl (hb cx.2.2.2.1 hd) _ h1, r⟩
theorem Go.iaload (pc' : Nat) {a : Nat} {ds : List Int32} {j : Int32} {i : Nat} {x : Int32} (A : ArI Z h a ds) (hj : j.toInt = (i : Int)) (hi : ds[i]? = some x) (hd : decode B.2.1 pc = .ok (.iaload, 1)) (hp : pc + 1 = pc')
    (k : Go l Z R B n0 Q h cl sl pc' Ls (.int x :: st)) : Go l Z R B n0 Q h cl sl pc Ls (.int j :: .ref a :: st) := by
  subst hp
  intro p e s m args below meth c T locs X cx fr eT hn
  obtain ⟨s₂, o, h1, r⟩ := k _ _ _ _ _ _ _ _ _ _ X cx fr eT hn
  obtain ⟨c0, A0, q1, q2⟩ := A.get hj (v := .int x) (by rw [List.getElem?_map, hi]; rfl)
  exact ⟨s₂, o, X.iaload cx.1 (by rw [eT]; exact A0.1) (State.isArrayOf_alike cx.2.1.alike A0.2.1) A0.2.2 q1 q2 (g := mkF m pc Ls (.int j :: .ref a :: st)) rfl rfl (hb cx.2.2.2.1 hd) _ h1, r⟩
theorem Go.laload (pc' : Nat) {a : Nat} {ds : List Int64} {j : Int32} {i : Nat} {x : Int64} (A : ArJ Z h a ds) (hj : j.toInt = (i : Int)) (hi : ds[i]? = some x) (hd : decode B.2.1 pc = .ok (.laload, 1)) (hp : pc + 1 = pc')
    (k : Go l Z R B n0 Q h cl sl pc' Ls (.long x :: st)) : Go l Z R B n0 Q h cl sl pc Ls (.int j :: .ref a :: st) := by
  subst hp
  intro p e s m args below meth c T locs X cx fr eT hn
  obtain ⟨s₂, o, h1, r⟩ := k _ _ _ _ _ _ _ _ _ _ X cx fr eT hn
  obtain ⟨c0, A0, q1, q2⟩ := A.get hj (v := .long x) (by rw [List.getElem?_map, hi]; rfl)
  exact ⟨s₂, o, X.laload cx.1 (by rw [eT]; exact A0.1) (State.isArrayOf_alike cx.2.1.alike A0.2.1) A0.2.2 q1 q2 (g := mkF m pc Ls (.int j :: .ref a :: st)) rfl rfl (hb cx.2.2.2.1 hd) _ h1, r⟩
theorem Go.alen (pc' : Nat) (v : Int32) {a : Nat} {ty : FieldType} {vs : List Value} (A : ArV Z h a ty vs) (hv : v.toInt = (vs.length : Int)) (hd : decode B.2.1 pc = .ok (.arraylength, 1)) (hp : pc + 1 = pc')
    (k : Go l Z R B n0 Q h cl sl pc' Ls (.int v :: st)) : Go l Z R B n0 Q h cl sl pc Ls (.ref a :: st) := by
  subst hp
  intro p e s m args below meth c T locs X cx fr eT hn
  obtain ⟨s₂, o, h1, r⟩ := k _ _ _ _ _ _ _ _ _ _ X cx fr eT hn
  obtain ⟨c0, A0, q1, q2⟩ := A
  have hsz : c0.slots.size = vs.length := by rw [← q1]; simp
  have hv' : c0.slots.size.toInt32 = v := by
    apply Int32.toInt_inj.mp
    rw [len_toInt (by omega), hv, hsz]
  exact ⟨s₂, o, X.arraylength cx.1 (by rw [eT]; exact A0.1) (State.isArrayOf_alike cx.2.1.alike A0.2.1) (g := mkF m pc Ls (.ref a :: st)) rfl rfl (hb cx.2.2.2.1 hd) _ (by rw [hv']; exact h1), r⟩
theorem Go.dastore (pc' : Nat) {a : Nat} {ds : List UInt64} {j : Int32} {i : Nat} {x : UInt64} (A : ArD Z h a ds) (hj : j.toInt = (i : Int)) (hi : i < ds.length) (ha : n0 ≤ a) (hd : decode B.2.1 pc = .ok (.dastore, 1)) (hp : pc + 1 = pc')
    (k : ∀ h', Keep h h' [a] → ArD Z h' a (ds.set i x) → Go l Z R B n0 Q h' cl sl pc' Ls st) : Go l Z R B n0 Q h cl sl pc Ls (.double x :: .int j :: .ref a :: st) := by
  subst hp
  intro p e s m args below meth c T locs X cx fr eT hn
  obtain ⟨c0, A0, q0, q⟩ := id A
  have hlt : i < c0.slots.size := by have : i < (c0.slots.toList).length := by rw [q0]; simpa using hi
                                     simpa using this
  obtain ⟨T', h', X', e', W, stp⟩ := stD X cx.1 cx.2.1 eT A0 (idx_ok hj hlt).1 (g := mkF m pc Ls (.double x :: .int j :: .ref a :: st)) rfl rfl (hb cx.2.2.2.1 hd)
  have A' := A.upd hj (by simpa using hi) W
  rw [← List.map_set] at A'
  obtain ⟨s₂, o, h1, r⟩ := k h' (Keep.of_wr W) A' _ _ _ _ _ _ _ _ _ _ X' cx (Fr.snoc X' fr ha) e' (by rw [W.size]; exact hn)
  exact ⟨s₂, o, stp _ h1, r⟩
theorem Go.iastore (pc' : Nat) {a : Nat} {ds : List Int32} {j : Int32} {i : Nat} {x : Int32} (A : ArI Z h a ds) (hj : j.toInt = (i : Int)) (hi : i < ds.length) (ha : n0 ≤ a) (hd : decode B.2.1 pc = .ok (.iastore, 1)) (hp : pc + 1 = pc')
    (k : ∀ h', Keep h h' [a] → ArI Z h' a (ds.set i x) → Go l Z R B n0 Q h' cl sl pc' Ls st) : Go l Z R B n0 Q h cl sl pc Ls (.int x :: .int j :: .ref a :: st) := by
  subst hp
  intro p e s m args below meth c T locs X cx fr eT hn
  obtain ⟨c0, A0, q0, q⟩ := id A
  have hlt : i < c0.slots.size := by have : i < (c0.slots.toList).length := by rw [q0]; simpa using hi
                                     simpa using this
  obtain ⟨T', h', X', e', W, stp⟩ := stI X cx.1 cx.2.1 eT A0 (idx_ok hj hlt).1 (g := mkF m pc Ls (.int x :: .int j :: .ref a :: st)) rfl rfl (hb cx.2.2.2.1 hd)
  have A' := A.upd hj (by simpa using hi) W
  rw [← List.map_set] at A'
  obtain ⟨s₂, o, h1, r⟩ := k h' (Keep.of_wr W) A' _ _ _ _ _ _ _ _ _ _ X' cx (Fr.snoc X' fr ha) e' (by rw [W.size]; exact hn)
  exact ⟨s₂, o, stp _ h1, r⟩
theorem Go.lastore (pc' : Nat) {a : Nat} {ds : List Int64} {j : Int32} {i : Nat} {x : Int64} (A : ArJ Z h a ds) (hj : j.toInt = (i : Int)) (hi : i < ds.length) (ha : n0 ≤ a) (hd : decode B.2.1 pc = .ok (.lastore, 1)) (hp : pc + 1 = pc')
    (k : ∀ h', Keep h h' [a] → ArJ Z h' a (ds.set i x) → Go l Z R B n0 Q h' cl sl pc' Ls st) : Go l Z R B n0 Q h cl sl pc Ls (.long x :: .int j :: .ref a :: st) := by
  subst hp
  intro p e s m args below meth c T locs X cx fr eT hn
  obtain ⟨c0, A0, q0, q⟩ := id A
  have hlt : i < c0.slots.size := by have : i < (c0.slots.toList).length := by rw [q0]; simpa using hi
                                     simpa using this
  obtain ⟨T', h', X', e', W, stp⟩ := stJ X cx.1 cx.2.1 eT A0 (idx_ok hj hlt).1 (g := mkF m pc Ls (.long x :: .int j :: .ref a :: st)) rfl rfl (hb cx.2.2.2.1 hd)
  have A' := A.upd hj (by simpa using hi) W
  rw [← List.map_set] at A'
  obtain ⟨s₂, o, h1, r⟩ := k h' (Keep.of_wr W) A' _ _ _ _ _ _ _ _ _ _ X' cx (Fr.snoc X' fr ha) e' (by rw [W.size]; exact hn)
  exact ⟨s₂, o, stp _ h1, r⟩
theorem Go.newarr (pc' : Nat) (cap : Nat) {aty : ArrayType} {n : Int32} {i : Nat} (w : (Cond.arrayClass (newarray.typeOf aty)).before a0 Z = true) (hi : n.toInt = (i : Int)) (hcap : i ≤ cap) (hbig : cap * 8 ≤ 536870912) (hd : decode B.2.1 pc = .ok (.newarray aty, 2)) (hp : pc + 2 = pc') (hc : cl + 1 ≤ R.cells) (hl : sl + cap ≤ R.slots)
    (k : ∀ h' a, Ext h h' → h.size ≤ a → n0 ≤ a → ArV Z h' a (newarray.typeOf aty) (List.replicate i (defaultValue (newarray.typeOf aty))) → Go l Z R B n0 Q h' (cl + 1) (sl + cap) pc' Ls (.ref a :: st)) : Go l Z R B n0 Q h cl sl pc Ls (.int n :: st) := by
  subst hp
  intro p e s m args below meth c T locs X cx fr eT hn
  have hnn : ¬ n < 0 := by simp only [Int32.lt_iff_toInt_lt, Int32.reduceToInt]; omega
  have hcl : n.toNatClampNeg = i := by simp only [Int32.toNatClampNeg]; omega
  obtain ⟨T', h', cA, X', e', E, A, stp⟩ := newP X cx.1 cx.2.1 w eT (g := mkF m pc Ls (.int n :: st)) rfl (hb cx.2.2.2.1 hd) rfl hnn (cap := cap) (by omega) hbig hc hl
  have A' : ArV Z h' h.size (newarray.typeOf aty) (List.replicate i (defaultValue (newarray.typeOf aty))) := ⟨_, A, by simp [newA, hcl], by
    have := Int32.toInt_lt n; simp only [List.length_replicate]; omega⟩
  obtain ⟨s₂, o, h1, r⟩ := k h' h.size E (Nat.le_refl _) hn A' _ _ _ _ _ _ _ _ _ _ X' cx fr e' (Nat.le_trans hn E.1)
  exact ⟨s₂, o, stp _ h1, r⟩
theorem Go.newD (pc' : Nat) (cap : Nat) {n : Int32} {i : Nat} (w : (Cond.arrayClass .double).before a0 Z = true) (hi : n.toInt = (i : Int)) (hcap : i ≤ cap) (hbig : cap * 8 ≤ 536870912) (hd : decode B.2.1 pc = .ok (.newarray .double, 2)) (hp : pc + 2 = pc') (hc : cl + 1 ≤ R.cells) (hl : sl + cap ≤ R.slots)
    (k : ∀ h' a, Ext h h' → h.size ≤ a → n0 ≤ a → ArD Z h' a (List.replicate i 0) → Go l Z R B n0 Q h' (cl + 1) (sl + cap) pc' Ls (.ref a :: st)) : Go l Z R B n0 Q h cl sl pc Ls (.int n :: st) :=
  Go.newarr pc' cap (aty := .double) w hi hcap hbig hd hp hc hl fun h' a E q1 q2 A => k h' a E q1 q2 (by show ArV _ _ _ _ _; rw [List.map_replicate]; exact A)
theorem Go.newI (pc' : Nat) (cap : Nat) {n : Int32} {i : Nat} (w : (Cond.arrayClass .int).before a0 Z = true) (hi : n.toInt = (i : Int)) (hcap : i ≤ cap) (hbig : cap * 8 ≤ 536870912) (hd : decode B.2.1 pc = .ok (.newarray .int, 2)) (hp : pc + 2 = pc') (hc : cl + 1 ≤ R.cells) (hl : sl + cap ≤ R.slots)
    (k : ∀ h' a, Ext h h' → h.size ≤ a → n0 ≤ a → ArI Z h' a (List.replicate i 0) → Go l Z R B n0 Q h' (cl + 1) (sl + cap) pc' Ls (.ref a :: st)) : Go l Z R B n0 Q h cl sl pc Ls (.int n :: st) :=
  Go.newarr pc' cap (aty := .int) w hi hcap hbig hd hp hc hl fun h' a E q1 q2 A => k h' a E q1 q2 (by show ArV _ _ _ _ _; rw [List.map_replicate]; exact A)
theorem Go.newJ (pc' : Nat) (cap : Nat) {n : Int32} {i : Nat} (w : (Cond.arrayClass .long).before a0 Z = true) (hi : n.toInt = (i : Int)) (hcap : i ≤ cap) (hbig : cap * 8 ≤ 536870912) (hd : decode B.2.1 pc = .ok (.newarray .long, 2)) (hp : pc + 2 = pc') (hc : cl + 1 ≤ R.cells) (hl : sl + cap ≤ R.slots)
    (k : ∀ h' a, Ext h h' → h.size ≤ a → n0 ≤ a → ArJ Z h' a (List.replicate i 0) → Go l Z R B n0 Q h' (cl + 1) (sl + cap) pc' Ls (.ref a :: st)) : Go l Z R B n0 Q h cl sl pc Ls (.int n :: st) :=
  Go.newarr pc' cap (aty := .long) w hi hcap hbig hd hp hc hl fun h' a E q1 q2 A => k h' a E q1 q2 (by show ArV _ _ _ _ _; rw [List.map_replicate]; exact A)
/-! ### returns -/
theorem Go.out {w : Option Value} (hv : B.2.2.2 = none → w = none) (q : Q w h) (hc : cl ≤ R.cells) (hs : sl ≤ R.slots)
    (f : ∀ {p : Program} {e : Env} {s : State} {m : MethodId} {args : Array Value} {below : List Frame} {meth : Method} {c : Code} {T : State} {locs : List Loc} {fs : List Frame}, Stand p l e R s m args below meth c T locs cl sl → p.tables.exec = Jvm.exec → c.code = B.2.1 → meth.sig.returnType = B.2.2.2 →
      (∀ (f : JFrame) (acts : List Action), f.method = m → f.locked = none → f.entered = [] → (doReturn e (T.setTop f) acts w).1 = T.setFrames fs) → Steps p.tables e below (T.setTop (mkF m pc Ls st)) (T.setFrames fs)) : Go l Z R B n0 Q h cl sl pc Ls st := by
  intro p e s m args below meth c T locs X cx fr eT hn
  obtain ⟨fs, hr, hrun, hended, hW, hsame⟩ := X.leave (v := w) (fun q0 => hv (cx.2.2.2.2.2.1.symm.trans q0)) cx.2.2.2.2.2.2.1
  refine ⟨_, _, f X cx.1 cx.2.2.2.1 cx.2.2.2.2.2.1 hr, hrun, hended, w, locs, rfl, ?_, ⟨_, rfl⟩, hW, hsame.mono hc hs⟩
  have e2 : (T.setFrames fs).heap = h := eT
  rw [e2]
  exact ⟨q, hn, fr⟩
theorem Go.ret (hd : decode B.2.1 pc = .ok (.return_, 1)) (hr : B.2.2.2 = none) (hc : cl ≤ R.cells) (hs : sl ≤ R.slots) (q : Q none h) : Go l Z R B n0 Q h cl sl pc Ls [] :=
  Go.out (w := none) (fun _ => rfl) q hc hs fun X hx hcd hrt hl => X.returnOut hx (hrt.trans hr) (hb hcd hd) hl
theorem Go.iret {x : Int32} (hd : decode B.2.1 pc = .ok (.ireturn, 1)) (hr : B.2.2.2 = some .int) (hc : cl ≤ R.cells) (hs : sl ≤ R.slots) (q : Q (some (.int x)) h) : Go l Z R B n0 Q h cl sl pc Ls (.int x :: st) :=
  Go.out (w := some (.int x)) (fun q0 => by rw [hr] at q0; cases q0) q hc hs fun X hx hcd hrt hl => retOut X hx (hrt.trans hr) rfl (Or.inl ⟨rfl, Or.inl rfl, x, rfl⟩) (hb hcd hd) hl
theorem Go.zret {x : Int32} (hd : decode B.2.1 pc = .ok (.ireturn, 1)) (hr : B.2.2.2 = some .boolean) (hx01 : x = 0 ∨ x = 1) (hc : cl ≤ R.cells) (hs : sl ≤ R.slots) (q : Q (some (.int x)) h) : Go l Z R B n0 Q h cl sl pc Ls (.int x :: st) :=
  Go.out (w := some (.int x)) (fun q0 => by rw [hr] at q0; cases q0) q hc hs fun X hx hcd hrt hl => retOut X hx (hrt.trans hr) (by rcases hx01 with rfl | rfl <;> rfl) (Or.inl ⟨rfl, Or.inr (Or.inl rfl), x, rfl⟩) (hb hcd hd) hl
theorem Go.lret {x : Int64} (hd : decode B.2.1 pc = .ok (.lreturn, 1)) (hr : B.2.2.2 = some .long) (hc : cl ≤ R.cells) (hs : sl ≤ R.slots) (q : Q (some (.long x)) h) : Go l Z R B n0 Q h cl sl pc Ls (.long x :: st) :=
  Go.out (w := some (.long x)) (fun q0 => by rw [hr] at q0; cases q0) q hc hs fun X hx hcd hrt hl => retOut X hx (hrt.trans hr) rfl (Or.inr (Or.inl ⟨rfl, rfl, x, rfl⟩)) (hb hcd hd) hl
theorem Go.dret {x : UInt64} (hd : decode B.2.1 pc = .ok (.dreturn, 1)) (hr : B.2.2.2 = some .double) (hc : cl ≤ R.cells) (hs : sl ≤ R.slots) (q : Q (some (.double x)) h) : Go l Z R B n0 Q h cl sl pc Ls (.double x :: st) :=
  Go.out (w := some (.double x)) (fun q0 => by rw [hr] at q0; cases q0) q hc hs fun X hx hcd hrt hl => retOut X hx (hrt.trans hr) rfl (Or.inr (Or.inr (Or.inl ⟨rfl, rfl, x, rfl⟩))) (hb hcd hd) hl
theorem Go.aret {x : Value} {t : FieldType} (hd : decode B.2.1 pc = .ok (.areturn, 1)) (hr : B.2.2.2 = some t) (ht : t.isReference = true) (hv : x.isRef = true) (hc : cl ≤ R.cells) (hs : sl ≤ R.slots) (q : Q (some x) h) : Go l Z R B n0 Q h cl sl pc Ls (x :: st) :=
  Go.out (w := some x) (fun q0 => by rw [hr] at q0; cases q0) q hc hs fun X hx hcd hrt hl => retOut X hx (hrt.trans hr) (by cases t <;> first | rfl | cases ht) (Or.inr (Or.inr (Or.inr (Or.inr ⟨rfl, ht, hv⟩)))) (hb hcd hd) hl
/-! ### calls -/
/-- a callee's contract pays a call, under the narrow word on the tables -/
theorem backH {p : Program} {e : Env} {s : State} {args : Array Value} {below : List Frame} {y : MethodName} {bytes : ByteArray} {maxL : Nat} {ret : Option FieldType} {rm : Room} {len W : Nat} {as' : Array Value} {P : Option Value → Heap → List Loc → Prop}
    (hM : MetFree l y (head1 [Cond.code y bytes maxL ret] rm) (fun a U => a = as' ∧ Z.WarmedH U.vm ∧ U.heap = h) (fun _ _ _ _ _ => True) (fun _ U o U' => ∃ v L, o = .returned v ∧ P v U'.heap L ∧ FrameEnd U o U' L rm.cells rm.slots))
    (hZ : Z.WarmedH s.vm) (wc : (Cond.code y bytes maxL ret).before a0 Z = true) (wz : (Cond.initialized y.cls).before a0 Z = true) (hf : rm.frames + 1 ≤ R.frames) (hl : W + (maxL + 11) + rm.locals ≤ R.locals) :
    Back l R p e below s args y len W (fun A a => a = as' ∧ A.U.heap = h ∧ A.cells + rm.cells ≤ R.cells ∧ A.slots + rm.slots ≤ R.slots)
      (fun A _ v B => ∃ L, P v B.U.heap L ∧ B.locs = A.locs ++ L ∧ B.cells = A.cells + rm.cells ∧ B.slots = A.slots + rm.slots) := by
  refine Back.of_free (bytes := bytes) (maxL := maxL) (ret := ret) (E := fun _ _ o t L k n => k = rm.cells ∧ n = rm.slots ∧ ∃ v, o = .returned v ∧ P v t.heap L) hM hf hl ?_ ?_ ?_ ?_ ?_
  · intro m meth c A a Y hp
    have hU : Z.Warmed39 A.U.vm := (State.WarmedH.trans hZ Y.warmed).wide
    refine ⟨?_, mv hU wc, mv hU wz, hp.2.2.1, hp.2.2.2⟩
    show (Cond.and _ .tt).before a A.U = true
    rw [Cond.before_and, mv hU wc]; rfl
  · intro m meth c A a g mk Y hp
    exact ⟨hp.1, State.WarmedH.trans hZ Y.warmed, hp.2.1⟩
  · intros; trivial
  · rintro _ _ _ _ ⟨v, L, h1, h2, h3⟩
    exact ⟨L, _, _, h3, rfl, rfl, v, h1, h2⟩
  · rintro m meth c A a g mk v t L k n Y hp _ _ ⟨e1, e2, v', e3, e4⟩
    cases e3; subst e1 e2; exact ⟨L, e4, rfl, rfl, rfl⟩
/-- a body's walk from its entry is its contract -/
theorem Go.met {y : MethodName} {bytes : ByteArray} {maxL : Nat} {ret : Option FieldType} {rm : Room} {as' : Array Value} {Ls' : Array Slot} {ws : List Jvm.Cond} (pn : plainName y.cls = true) (hn : n0 ≤ h.size) (ef : ∀ m, entryFrame m as' maxL = mkF m 0 Ls' [])
    (k : Go l Z rm (y, bytes, maxL, ret) n0 Q h 0 0 0 Ls' []) :
    MetFree l y (head1 (Jvm.Cond.code y bytes maxL ret :: ws) rm) (fun a U => a = as' ∧ Z.WarmedH U.vm ∧ U.heap = h) (fun _ _ _ _ _ => True) (fun _ U o U' => ∃ v L, o = .returned v ∧ (Q v U'.heap ∧ n0 ≤ U'.heap.size ∧ Fr n0 L) ∧ FrameEnd U o U' L rm.cells rm.slots) := by
  refine MetFree.of_bodySF (plainFor_of_name pn) hisR ?_
  intro p e s m args below meth c s₁ Bd hml0 hP hK
  obtain ⟨rfl, hZ, hh⟩ := hP
  have e0 : s₁.heap = h := by rw [← hh, Bd.state]; rfl
  obtain ⟨s₂, o, h1, r⟩ := k _ _ _ _ _ _ _ _ _ _ (Stand.of_body Bd) ⟨Bd.exec, hZ.wide, findClass_of_methodNamed Bd.named, Bd.bytes, hml0, Bd.returns, Bd.notSynchronized, (name_of_methodNamed Bd.named Bd.method).1, hZ, Bd.named⟩ (Fr.nil n0) e0 hn
  exact ⟨s₂, o, castTop (ef m) h1, r⟩
theorem Go.callV (pc' : Nat) {index : Nat} {y : MethodName} {bytes : ByteArray} {maxL : Nat} {ret : Option FieldType} {rm : Room} {Q' : Option Value → Heap → Prop} {Ls' : Array Slot} {a : Nat} (argsL rest : List Value) {ps : List FieldType} {rt : Option FieldType}
    (w1 : (Cond.methodLink B.1.cls index y).before a0 Z = true) (w2 : (Cond.declares y).before a0 Z = true) (w3 : (Cond.selects y.cls y y).before a0 Z = true) (w4 : (Cond.instanceMethod y).before a0 Z = true) (w5 : (Cond.code y bytes maxL ret).before a0 Z = true) (w6 : (Cond.initialized y.cls).before a0 Z = true)
    (hy : y.cls ≠ "java/lang/invoke/MethodHandle" ∧ y.cls ≠ "java/lang/invoke/VarHandle") (pn : plainName y.cls = true) (pd : parseMethodDescriptor y.desc = some ⟨ps, rt⟩) (hlen : argsL.length = ps.length)
    (E : Exa Z h a y.cls) (ef : ∀ m, entryFrame m (.ref a :: argsL).toArray maxL = mkF m 0 Ls' [])
    (callee : Go l Z rm (y, bytes, maxL, ret) n0 Q' h 0 0 0 Ls' [])
    (hst : st = argsL.reverse ++ .ref a :: rest) (hsz : Ls.size = B.2.2.1) (hfr : rm.frames + 1 ≤ R.frames) (hlo : (rest.map fun v => v.category).sum + (maxL + 11) + rm.locals ≤ R.locals) (hc : cl + rm.cells ≤ R.cells) (hs : sl + rm.slots ≤ R.slots)
    (hd : decode B.2.1 pc = .ok (.invokevirtual index, 3)) (hp : pc + 3 = pc')
    (k : ∀ v h', Q' v h' → Go l Z R B n0 Q h' (cl + rm.cells) (sl + rm.slots) pc' Ls (v.toList ++ rest)) : Go l Z R B n0 Q h cl sl pc Ls st := by
  subst hp
  intro p e s m args below meth c T locs X cx fr eT hn
  obtain ⟨cq, kq, qa, qb, qc⟩ := isOf cx.2.1 eT E
  obtain ⟨v, _, ⟨T', L', k', n'⟩, -, X', ⟨Lc, hQ, l', y', z'⟩, stp⟩ := X.virtualBack cx.1 (y := y) (z := y) cx.2.2.1 (mvT cx.2.1 w1) (mvT cx.2.1 w2) (notFace_of_selects (args := #[]) (mvT cx.2.1 w3)) (mvT cx.2.1 w3) (mvT cx.2.1 w4) hy
    (backH (W := (rest.map fun v => v.category).sum) (P := fun v h' L => Q' v h' ∧ n0 ≤ h'.size ∧ Fr n0 L) (callee.met (ws := []) pn hn ef) cx.2.2.2.2.2.2.2.2.1 w5 w6 hfr hlo) qa qc (g := mkF m pc Ls st) rfl (hsz.trans cx.2.2.2.2.1.symm) (Steps.refl _) (argsL := argsL) (rest := rest) (lenOf pd hlen) hst (by show 2 * 0 + _ ≤ _; omega) (hb cx.2.2.2.1 hd) (fun _ _ => ⟨rfl, eT, hc, hs⟩)
  dsimp only [Pt.U, Pt.locs, Pt.cells, Pt.slots] at X' l' y' z' stp hQ
  subst l' y' z'
  obtain ⟨hQ1, hQ2, hQ3⟩ := hQ
  obtain ⟨s₂, o, h1, r⟩ := k v T'.heap hQ1 _ _ _ _ _ _ _ _ _ _ X' cx (Fr.app fr hQ3) rfl hQ2
  exact ⟨s₂, o, stp.trans h1, r⟩
theorem Go.callN (pc' : Nat) {index : Nat} {y : MethodName} {bytes : ByteArray} {maxL : Nat} {rm : Room} {Q' : Option Value → Heap → Prop} {Ls' : Array Slot} {a : Nat} (argsL rest : List Value) {ps : List FieldType} {rt : Option FieldType} (hy1 : y.name = "<init>")
    (w1 : (Cond.methodLink B.1.cls index y).before a0 Z = true) (w4 : (Cond.instanceMethod y).before a0 Z = true) (w5 : (Cond.code y bytes maxL none).before a0 Z = true) (w6 : (Cond.initialized y.cls).before a0 Z = true)
    (hy : y.cls ≠ "java/lang/invoke/MethodHandle" ∧ y.cls ≠ "java/lang/invoke/VarHandle") (pn : plainName y.cls = true) (pd : parseMethodDescriptor y.desc = some ⟨ps, rt⟩) (hlen : argsL.length = ps.length)
    (ef : ∀ m, entryFrame m (.ref a :: argsL).toArray maxL = mkF m 0 Ls' [])
    (callee : Go l Z rm (y, bytes, maxL, none) n0 Q' h 0 0 0 Ls' [])
    (hst : st = argsL.reverse ++ .ref a :: rest) (hsz : Ls.size = B.2.2.1) (hfr : rm.frames + 1 ≤ R.frames) (hlo : (rest.map fun v => v.category).sum + (maxL + 11) + rm.locals ≤ R.locals) (hc : cl + rm.cells ≤ R.cells) (hs : sl + rm.slots ≤ R.slots)
    (hd : decode B.2.1 pc = .ok (.invokespecial index, 3)) (hp : pc + 3 = pc')
    (k : ∀ v h', Q' v h' → Go l Z R B n0 Q h' (cl + rm.cells) (sl + rm.slots) pc' Ls (v.toList ++ rest)) : Go l Z R B n0 Q h cl sl pc Ls st := by
  subst hp
  intro p e s m args below meth c T locs X cx fr eT hn
  obtain ⟨v, _, ⟨T', L', k', n'⟩, -, X', ⟨Lc, hQ, l', y', z'⟩, stp⟩ := X.specialBack cx.1 (y := y) hy1 cx.2.2.1 (mvT cx.2.1 w1) (mvT cx.2.1 w4) (mvT cx.2.1 w5) hy
    (backH (W := (rest.map fun v => v.category).sum) (P := fun v h' L => Q' v h' ∧ n0 ≤ h'.size ∧ Fr n0 L) (callee.met (ws := []) pn hn ef) cx.2.2.2.2.2.2.2.2.1 w5 w6 hfr hlo) (g := mkF m pc Ls st) rfl (hsz.trans cx.2.2.2.2.1.symm) (Steps.refl _) (a := a) (argsL := argsL) (rest := rest) (lenOf pd hlen) hst (by show 2 * 0 + _ ≤ _; omega) (hb cx.2.2.2.1 hd) (fun _ _ => ⟨rfl, eT, hc, hs⟩)
  dsimp only [Pt.U, Pt.locs, Pt.cells, Pt.slots] at X' l' y' z' stp hQ
  subst l' y' z'
  obtain ⟨hQ1, hQ2, hQ3⟩ := hQ
  obtain ⟨s₂, o, h1, r⟩ := k v T'.heap hQ1 _ _ _ _ _ _ _ _ _ _ X' cx (Fr.app fr hQ3) rfl hQ2
  exact ⟨s₂, o, stp.trans h1, r⟩
theorem Go.callS (pc' : Nat) {index : Nat} {y : MethodName} {bytes : ByteArray} {maxL : Nat} {ret : Option FieldType} {rm : Room} {Q' : Option Value → Heap → Prop} {Ls' : Array Slot} (argsL rest : List Value) {ps : List FieldType} {rt : Option FieldType}
    (w1 : (Cond.methodLink B.1.cls index y).before a0 Z = true) (w2 : (Cond.static y).before a0 Z = true) (w5 : (Cond.code y bytes maxL ret).before a0 Z = true) (w6 : (Cond.initialized y.cls).before a0 Z = true)
    (hy : y.cls ≠ "java/lang/invoke/MethodHandle" ∧ y.cls ≠ "java/lang/invoke/VarHandle") (pn : plainName y.cls = true) (pd : parseMethodDescriptor y.desc = some ⟨ps, rt⟩) (hlen : argsL.length = ps.length)
    (ef : ∀ m, entryFrame m argsL.toArray maxL = mkF m 0 Ls' [])
    (callee : Go l Z rm (y, bytes, maxL, ret) n0 Q' h 0 0 0 Ls' [])
    (hst : st = argsL.reverse ++ rest) (hsz : Ls.size = B.2.2.1) (hfr : rm.frames + 1 ≤ R.frames) (hlo : (rest.map fun v => v.category).sum + (maxL + 11) + rm.locals ≤ R.locals) (hc : cl + rm.cells ≤ R.cells) (hs : sl + rm.slots ≤ R.slots)
    (hd : decode B.2.1 pc = .ok (.invokestatic index, 3)) (hp : pc + 3 = pc')
    (k : ∀ v h', Q' v h' → Go l Z R B n0 Q h' (cl + rm.cells) (sl + rm.slots) pc' Ls (v.toList ++ rest)) : Go l Z R B n0 Q h cl sl pc Ls st := by
  subst hp
  intro p e s m args below meth c T locs X cx fr eT hn
  obtain ⟨v, _, ⟨T', L', k', n'⟩, -, X', ⟨Lc, hQ, l', y', z'⟩, stp⟩ := Jvm.LawKit.callS X cx.1 (y := y) cx.2.2.1 (mvT cx.2.1 w1) (mvT cx.2.1 w2) (mvT cx.2.1 w6) (mvT cx.2.1 w5) hy
    (backH (W := (rest.map fun v => v.category).sum) (P := fun v h' L => Q' v h' ∧ n0 ≤ h'.size ∧ Fr n0 L) (callee.met (ws := []) pn hn ef) cx.2.2.2.2.2.2.2.2.1 w5 w6 hfr hlo) (g := mkF m pc Ls st) rfl (hsz.trans cx.2.2.2.2.1.symm) (argsL := argsL) (rest := rest) (lenOf pd hlen) hst (by show 2 * 0 + _ ≤ _; omega) (hb cx.2.2.2.1 hd) (fun _ _ => ⟨rfl, eT, hc, hs⟩)
  dsimp only [Pt.U, Pt.locs, Pt.cells, Pt.slots] at X' l' y' z' stp hQ
  subst l' y' z'
  obtain ⟨hQ1, hQ2, hQ3⟩ := hQ
  obtain ⟨s₂, o, h1, r⟩ := k v T'.heap hQ1 _ _ _ _ _ _ _ _ _ _ X' cx (Fr.app fr hQ3) rfl hQ2
  exact ⟨s₂, o, stp _ h1, r⟩
end Rules
end Jvm.GoK
namespace Jvm.GoK
open Jvm.Free
theorem toInt_add {x y : Int32} {a b : Int} {c : Int} (hx : x.toInt = a) (hy : y.toInt = b) (h1 : -2147483648 ≤ a + b) (h2 : a + b < 2147483648) (e : a + b = c) : (x + y).toInt = c := by
  rw [XT.add32 (show XT.fits32 _ from ⟨by rw [hx, hy]; omega, by rw [hx, hy]; omega⟩), hx, hy, e]
theorem toInt_add' {x y z : Int32} {a b : Int} {c : Int} (hx : x.toInt = a) (hy : y.toInt = b) (hz : x + y = z) (h1 : -2147483648 ≤ a + b) (h2 : a + b < 2147483648) (e : a + b = c) : z.toInt = c := hz ▸ toInt_add hx hy h1 h2 e
theorem toInt_sub {x y : Int32} {a b : Int} {c : Int} (hx : x.toInt = a) (hy : y.toInt = b) (h1 : -2147483648 ≤ a - b) (h2 : a - b < 2147483648) (e : a - b = c) : (x - y).toInt = c := by
  rw [XT.sub32 (show XT.fits32 _ from ⟨by rw [hx, hy]; omega, by rw [hx, hy]; omega⟩), hx, hy, e]
theorem toInt_mul {x y : Int32} {a b : Int} {c : Int} (hx : x.toInt = a) (hy : y.toInt = b) (h1 : -2147483648 ≤ a * b) (h2 : a * b < 2147483648) (e : a * b = c) : (x * y).toInt = c := by
  rw [XT.mul32 (show XT.fits32 _ from ⟨by rw [hx, hy]; omega, by rw [hx, hy]; omega⟩), hx, hy, e]
end Jvm.GoK
namespace Jvm.GoK
open Jvm.Free
theorem toInt_ladd {x y : Int64} {a b c : Int} (hx : x.toInt = a) (hy : y.toInt = b) (h1 : -9223372036854775808 ≤ a + b) (h2 : a + b < 9223372036854775808) (e : a + b = c) : (x + y).toInt = c := by
  rw [XT.add64 (show XT.fits64 _ from ⟨by rw [hx, hy]; omega, by rw [hx, hy]; omega⟩), hx, hy, e]
theorem toInt_lsub {x y : Int64} {a b c : Int} (hx : x.toInt = a) (hy : y.toInt = b) (h1 : -9223372036854775808 ≤ a - b) (h2 : a - b < 9223372036854775808) (e : a - b = c) : (x - y).toInt = c := by
  rw [XT.sub64 (show XT.fits64 _ from ⟨by rw [hx, hy]; omega, by rw [hx, hy]; omega⟩), hx, hy, e]
theorem toInt_lmul {x y : Int64} {a b c : Int} (hx : x.toInt = a) (hy : y.toInt = b) (h1 : -9223372036854775808 ≤ a * b) (h2 : a * b < 9223372036854775808) (e : a * b = c) : (x * y).toInt = c := by
  rw [XT.mul64 (show XT.fits64 _ from ⟨by rw [hx, hy]; omega, by rw [hx, hy]; omega⟩), hx, hy, e]
theorem b32 (x : Int32) : -2147483648 ≤ x.toInt ∧ x.toInt < 2147483648 := ⟨x.le_toInt, x.toInt_lt⟩
theorem and_nat (n : Int32) (k : Nat) (hk : k < 2147483648) : ∃ j : Nat, j ≤ k ∧ (n &&& Int32.ofNat k).toInt = (j : Int) := by
  have h : (n &&& Int32.ofNat k).toInt = ((n.toBitVec &&& BitVec.ofNat 32 k).toNat : Int) := by
    show (n.toBitVec &&& BitVec.ofNat 32 k).toInt = _
    rw [BitVec.toInt_eq_toNat_of_lt]
    have h2 : (n.toBitVec &&& BitVec.ofNat 32 k).toNat ≤ (BitVec.ofNat 32 k).toNat := by rw [BitVec.toNat_and]; exact Nat.and_le_right
    have h3 : (BitVec.ofNat 32 k).toNat = k := by rw [BitVec.toNat_ofNat]; omega
    omega
  refine ⟨_, ?_, h⟩
  have h3 : (BitVec.ofNat 32 k).toNat = k := by rw [BitVec.toNat_ofNat]; omega
  rw [BitVec.toNat_and]
  exact Nat.le_trans Nat.and_le_right (Nat.le_of_eq h3)
theorem and3 (n : Int32) : n &&& 3 = 0 ∨ n &&& 3 = 1 ∨ n &&& 3 = 2 ∨ n &&& 3 = 3 := by
  obtain ⟨j, h1, h2⟩ := and_nat n 3 (by decide)
  have h2 : (n &&& 3).toInt = (j : Int) := h2
  have : j = 0 ∨ j = 1 ∨ j = 2 ∨ j = 3 := by omega
  rcases this with rfl | rfl | rfl | rfl
  · exact Or.inl (Int32.toInt_inj.mp h2)
  · exact Or.inr (Or.inl (Int32.toInt_inj.mp h2))
  · exact Or.inr (Or.inr (Or.inl (Int32.toInt_inj.mp h2)))
  · exact Or.inr (Or.inr (Or.inr (Int32.toInt_inj.mp h2)))
theorem fill_step {α : Type} {rs : List α} {z g : α} {j k : Nat} (hg : rs[j]? = some g) (hk : rs.length = k) : (rs.take j ++ List.replicate (k - j) z).set j g = rs.take (j + 1) ++ List.replicate (k - (j + 1)) z := by
  have hj := (List.getElem?_eq_some_iff.mp hg).1
  have hlen : (rs.take j).length = j := by rw [List.length_take]; omega
  rw [List.set_append, hlen, if_neg (Nat.lt_irrefl j), Nat.sub_self, List.take_add_one, hg]
  obtain ⟨m, hm⟩ : ∃ m, k - j = m + 1 := ⟨k - j - 1, by omega⟩
  rw [hm, show k - (j + 1) = m by omega, List.replicate_succ, List.set_cons_zero, List.append_assoc]
  rfl
end Jvm.GoK
namespace Jvm.GoK
theorem fill_step2 {α : Type} {rs : List α} {z g : α} {j m : Nat} (hg : rs[j]? = some g) : (rs.take j ++ List.replicate (m + 1) z).set j g = rs.take (j + 1) ++ List.replicate m z := by
  have hj := (List.getElem?_eq_some_iff.mp hg).1
  have hlen : (rs.take j).length = j := by rw [List.length_take]; omega
  rw [List.set_append, hlen, if_neg (Nat.lt_irrefl j), Nat.sub_self, List.take_add_one, hg, List.replicate_succ, List.set_cons_zero, List.append_assoc]
  rfl
end Jvm.GoK
namespace Jvm.GoK
theorem leB {a b : Nat} (h : Nat.ble a b = true) : a ≤ b := Nat.le_of_ble_eq_true h
end Jvm.GoK
namespace Jvm.GoK
theorem lit1 : (1 : Int32).toInt = 1 := by decide
theorem lit2 : (2 : Int32).toInt = 2 := by decide
theorem lit3 : (3 : Int32).toInt = 3 := by decide
theorem olit1 : (Int32.ofInt 1).toInt = 1 := by decide
theorem olit2 : (Int32.ofInt 2).toInt = 2 := by decide
end Jvm.GoK
namespace Jvm.GoK
open Jvm.FP Jvm.Free.Fl Jvm.FP.Core
/-! ### doubles that are whole numbers: what each step makes of them -/
def DAdd (x y v : UInt64) : Prop := FP.dadd x y = v ∧ NoNaN64 v
def DSub (x y v : UInt64) : Prop := FP.dsub x y = v ∧ NoNaN64 v
def DMul (x y v : UInt64) : Prop := FP.dmul x y = v ∧ NoNaN64 v
def DDiv (x y v : UInt64) : Prop := FP.ddiv x y = v ∧ NoNaN64 v
theorem dint_nn {i : Int} {v : UInt64} (h : DInt i v) : NoNaN64 v := val64_no.mpr (DInt_ne_nan h)
theorem dint_cast {i j : Int} {v : UInt64} (h : DInt i v) (e : i = j) : DInt j v := e ▸ h
theorem dint_zero : DInt 0 0 := by
  unfold DInt
  rw [val64_zero]
  show signed false (0 * _) = 0 * _
  simp [signed]
theorem addI {i j : Int} {x y : UInt64} (hx : DInt i x) (hy : DInt j y) (b1 : -9007199254740992 ≤ i + j) (b2 : i + j ≤ 9007199254740992) : ∃ v, DAdd x y v ∧ DInt (i + j) v := by
  have q : DInt (i + j) (FP.dadd x y) := dadd_int hx hy (by omega)
  exact ⟨_, ⟨rfl, dint_nn q⟩, q⟩
theorem subI {i j : Int} {x y : UInt64} (hx : DInt i x) (hy : DInt j y) (b1 : -9007199254740992 ≤ i - j) (b2 : i - j ≤ 9007199254740992) : ∃ v, DSub x y v ∧ DInt (i - j) v := by
  have q : DInt (i - j) (FP.dsub x y) := dsub_int hx hy (by omega)
  exact ⟨_, ⟨rfl, dint_nn q⟩, q⟩
theorem mulI {i j : Int} {x y : UInt64} (hx : DInt i x) (hy : DInt j y) (b1 : -9007199254740992 ≤ i * j) (b2 : i * j ≤ 9007199254740992) : ∃ v, DMul x y v ∧ DInt (i * j) v := by
  have q : DInt (i * j) (FP.dmul x y) := dmul_int hx hy (by omega)
  exact ⟨_, ⟨rfl, dint_nn q⟩, q⟩
/-- what a comparison pushes -/
def sg (i j : Int) : Int32 := if i < j then -1 else if i = j then 0 else 1
theorem sg_cases (i j : Int) : ((sg i j).toInt = -1 ∧ i < j) ∨ ((sg i j).toInt = 0 ∧ i = j) ∨ ((sg i j).toInt = 1 ∧ j < i) := by
  unfold sg
  by_cases h1 : i < j
  · rw [if_pos h1]; exact Or.inl ⟨by decide, h1⟩
  · rw [if_neg h1]
    by_cases h2 : i = j
    · rw [if_pos h2]; exact Or.inr (Or.inl ⟨by decide, h2⟩)
    · rw [if_neg h2]; exact Or.inr (Or.inr ⟨by decide, by omega⟩)
theorem cmpV_sg (i j : Int) (o : ClassFile.CmpOp) : Op.cmpValue (some (compare i j)) o = sg i j := by
  unfold sg
  by_cases h1 : i < j
  · rw [if_pos h1, (compare_lt_iff i j).mpr h1]; cases o <;> rfl
  · rw [if_neg h1]
    by_cases h2 : i = j
    · rw [if_pos h2, (compare_eq_iff i j).mpr h2]; cases o <;> rfl
    · rw [if_neg h2, (compare_gt_iff i j).mpr (by omega)]; cases o <;> rfl
theorem cmpI {i j : Int} {x y : UInt64} (hx : DInt i x) (hy : DInt j y) (o : ClassFile.CmpOp) : Op.cmpValue (FP.dcmp x y) o = sg i j := by
  rw [show FP.dcmp x y = some (compare i j) from dcmp_int hx hy]; exact cmpV_sg i j o
end Jvm.GoK
namespace Jvm.GoK
theorem sg_self {i j : Int} (h : i = j) : (sg i j).toInt = 0 := by have := sg_cases i j; omega
end Jvm.GoK
namespace Jvm.Pilot.@@N@@
open Jvm Jvm.ClassFile Sem Op Lib Jvm.Free Jvm.Stand Jvm.LawKit Jvm.RoadKit Bundle Jvm.GoK Jvm.Pilot.@@N@@.Jvm.D
theorem d1_0 : decode prog_47_method_1_code 0 = .ok (.aload_n 0, 1) := by decide +kernel
theorem d1_1 : decode prog_47_method_1_code 1 = .ok (.invokespecial 1, 3) := by decide +kernel
theorem d1_4 : decode prog_47_method_1_code 4 = .ok (.aload_n 0, 1) := by decide +kernel
theorem d1_5 : decode prog_47_method_1_code 5 = .ok (.bipush 64, 2) := by decide +kernel
theorem d1_7 : decode prog_47_method_1_code 7 = .ok (.newarray .double, 2) := by decide +kernel
theorem d1_9 : decode prog_47_method_1_code 9 = .ok (.putfield 7, 3) := by decide +kernel
theorem d1_12 : decode prog_47_method_1_code 12 = .ok (.aload_n 0, 1) := by decide +kernel
theorem d1_13 : decode prog_47_method_1_code 13 = .ok (.bipush 64, 2) := by decide +kernel
theorem d1_15 : decode prog_47_method_1_code 15 = .ok (.newarray .int, 2) := by decide +kernel
theorem d1_17 : decode prog_47_method_1_code 17 = .ok (.putfield 13, 3) := by decide +kernel
theorem d1_20 : decode prog_47_method_1_code 20 = .ok (.return_, 1) := by decide +kernel
theorem d3_0 : decode prog_47_method_3_code 0 = .ok (.aload_n 0, 1) := by decide +kernel
theorem d3_1 : decode prog_47_method_3_code 1 = .ok (.getfield 17, 3) := by decide +kernel
theorem d3_4 : decode prog_47_method_3_code 4 = .ok (.aload_n 0, 1) := by decide +kernel
theorem d3_5 : decode prog_47_method_3_code 5 = .ok (.getfield 7, 3) := by decide +kernel
theorem d3_8 : decode prog_47_method_3_code 8 = .ok (.arraylength, 1) := by decide +kernel
theorem d3_9 : decode prog_47_method_3_code 9 = .ok (.if_icmp .ne 37, 3) := by decide +kernel
theorem d3_12 : decode prog_47_method_3_code 12 = .ok (.aload_n 0, 1) := by decide +kernel
theorem d3_13 : decode prog_47_method_3_code 13 = .ok (.aload_n 0, 1) := by decide +kernel
theorem d3_14 : decode prog_47_method_3_code 14 = .ok (.getfield 7, 3) := by decide +kernel
theorem d3_17 : decode prog_47_method_3_code 17 = .ok (.iconst 2, 1) := by decide +kernel
theorem d3_18 : decode prog_47_method_3_code 18 = .ok (.aload_n 0, 1) := by decide +kernel
theorem d3_19 : decode prog_47_method_3_code 19 = .ok (.getfield 17, 3) := by decide +kernel
theorem d3_22 : decode prog_47_method_3_code 22 = .ok (.imul, 1) := by decide +kernel
theorem d3_23 : decode prog_47_method_3_code 23 = .ok (.invokestatic 21, 3) := by decide +kernel
theorem d3_26 : decode prog_47_method_3_code 26 = .ok (.putfield 7, 3) := by decide +kernel
theorem d3_29 : decode prog_47_method_3_code 29 = .ok (.aload_n 0, 1) := by decide +kernel
theorem d3_30 : decode prog_47_method_3_code 30 = .ok (.aload_n 0, 1) := by decide +kernel
theorem d3_31 : decode prog_47_method_3_code 31 = .ok (.getfield 13, 3) := by decide +kernel
theorem d3_34 : decode prog_47_method_3_code 34 = .ok (.iconst 2, 1) := by decide +kernel
theorem d3_35 : decode prog_47_method_3_code 35 = .ok (.aload_n 0, 1) := by decide +kernel
theorem d3_36 : decode prog_47_method_3_code 36 = .ok (.getfield 17, 3) := by decide +kernel
theorem d3_39 : decode prog_47_method_3_code 39 = .ok (.imul, 1) := by decide +kernel
theorem d3_40 : decode prog_47_method_3_code 40 = .ok (.invokestatic 27, 3) := by decide +kernel
theorem d3_43 : decode prog_47_method_3_code 43 = .ok (.putfield 13, 3) := by decide +kernel
theorem d3_46 : decode prog_47_method_3_code 46 = .ok (.aload_n 0, 1) := by decide +kernel
theorem d3_47 : decode prog_47_method_3_code 47 = .ok (.dup, 1) := by decide +kernel
theorem d3_48 : decode prog_47_method_3_code 48 = .ok (.getfield 17, 3) := by decide +kernel
theorem d3_51 : decode prog_47_method_3_code 51 = .ok (.dup_x1, 1) := by decide +kernel
theorem d3_52 : decode prog_47_method_3_code 52 = .ok (.iconst 1, 1) := by decide +kernel
theorem d3_53 : decode prog_47_method_3_code 53 = .ok (.iadd, 1) := by decide +kernel
theorem d3_54 : decode prog_47_method_3_code 54 = .ok (.putfield 17, 3) := by decide +kernel
theorem d3_57 : decode prog_47_method_3_code 57 = .ok (.istore 4, 2) := by decide +kernel
theorem d3_59 : decode prog_47_method_3_code 59 = .ok (.iload 4, 2) := by decide +kernel
theorem d3_61 : decode prog_47_method_3_code 61 = .ok (.ifCond .le 66, 3) := by decide +kernel
theorem d3_64 : decode prog_47_method_3_code 64 = .ok (.aload_n 0, 1) := by decide +kernel
theorem d3_65 : decode prog_47_method_3_code 65 = .ok (.getfield 7, 3) := by decide +kernel
theorem d3_68 : decode prog_47_method_3_code 68 = .ok (.iload 4, 2) := by decide +kernel
theorem d3_70 : decode prog_47_method_3_code 70 = .ok (.iconst 1, 1) := by decide +kernel
theorem d3_71 : decode prog_47_method_3_code 71 = .ok (.isub, 1) := by decide +kernel
theorem d3_72 : decode prog_47_method_3_code 72 = .ok (.iconst 2, 1) := by decide +kernel
theorem d3_73 : decode prog_47_method_3_code 73 = .ok (.idiv, 1) := by decide +kernel
theorem d3_74 : decode prog_47_method_3_code 74 = .ok (.daload, 1) := by decide +kernel
theorem d3_75 : decode prog_47_method_3_code 75 = .ok (.dload_n 1, 1) := by decide +kernel
theorem d3_76 : decode prog_47_method_3_code 76 = .ok (.dcmp .g, 1) := by decide +kernel
theorem d3_77 : decode prog_47_method_3_code 77 = .ok (.ifCond .ge 50, 3) := by decide +kernel
theorem d3_80 : decode prog_47_method_3_code 80 = .ok (.aload_n 0, 1) := by decide +kernel
theorem d3_81 : decode prog_47_method_3_code 81 = .ok (.getfield 7, 3) := by decide +kernel
theorem d3_84 : decode prog_47_method_3_code 84 = .ok (.iload 4, 2) := by decide +kernel
theorem d3_86 : decode prog_47_method_3_code 86 = .ok (.aload_n 0, 1) := by decide +kernel
theorem d3_87 : decode prog_47_method_3_code 87 = .ok (.getfield 7, 3) := by decide +kernel
theorem d3_90 : decode prog_47_method_3_code 90 = .ok (.iload 4, 2) := by decide +kernel
theorem d3_92 : decode prog_47_method_3_code 92 = .ok (.iconst 1, 1) := by decide +kernel
theorem d3_93 : decode prog_47_method_3_code 93 = .ok (.isub, 1) := by decide +kernel
theorem d3_94 : decode prog_47_method_3_code 94 = .ok (.iconst 2, 1) := by decide +kernel
theorem d3_95 : decode prog_47_method_3_code 95 = .ok (.idiv, 1) := by decide +kernel
theorem d3_96 : decode prog_47_method_3_code 96 = .ok (.daload, 1) := by decide +kernel
theorem d3_97 : decode prog_47_method_3_code 97 = .ok (.dastore, 1) := by decide +kernel
theorem d3_98 : decode prog_47_method_3_code 98 = .ok (.aload_n 0, 1) := by decide +kernel
theorem d3_99 : decode prog_47_method_3_code 99 = .ok (.getfield 13, 3) := by decide +kernel
theorem d3_102 : decode prog_47_method_3_code 102 = .ok (.iload 4, 2) := by decide +kernel
theorem d3_104 : decode prog_47_method_3_code 104 = .ok (.aload_n 0, 1) := by decide +kernel
theorem d3_105 : decode prog_47_method_3_code 105 = .ok (.getfield 13, 3) := by decide +kernel
theorem d3_108 : decode prog_47_method_3_code 108 = .ok (.iload 4, 2) := by decide +kernel
theorem d3_110 : decode prog_47_method_3_code 110 = .ok (.iconst 1, 1) := by decide +kernel
theorem d3_111 : decode prog_47_method_3_code 111 = .ok (.isub, 1) := by decide +kernel
theorem d3_112 : decode prog_47_method_3_code 112 = .ok (.iconst 2, 1) := by decide +kernel
theorem d3_113 : decode prog_47_method_3_code 113 = .ok (.idiv, 1) := by decide +kernel
theorem d3_114 : decode prog_47_method_3_code 114 = .ok (.iaload, 1) := by decide +kernel
theorem d3_115 : decode prog_47_method_3_code 115 = .ok (.iastore, 1) := by decide +kernel
theorem d3_116 : decode prog_47_method_3_code 116 = .ok (.iload 4, 2) := by decide +kernel
theorem d3_118 : decode prog_47_method_3_code 118 = .ok (.iconst 1, 1) := by decide +kernel
theorem d3_119 : decode prog_47_method_3_code 119 = .ok (.isub, 1) := by decide +kernel
theorem d3_120 : decode prog_47_method_3_code 120 = .ok (.iconst 2, 1) := by decide +kernel
theorem d3_121 : decode prog_47_method_3_code 121 = .ok (.idiv, 1) := by decide +kernel
theorem d3_122 : decode prog_47_method_3_code 122 = .ok (.istore 4, 2) := by decide +kernel
theorem d3_124 : decode prog_47_method_3_code 124 = .ok (.goto (-65), 3) := by decide +kernel
theorem d3_127 : decode prog_47_method_3_code 127 = .ok (.aload_n 0, 1) := by decide +kernel
theorem d3_128 : decode prog_47_method_3_code 128 = .ok (.getfield 7, 3) := by decide +kernel
theorem d3_131 : decode prog_47_method_3_code 131 = .ok (.iload 4, 2) := by decide +kernel
theorem d3_133 : decode prog_47_method_3_code 133 = .ok (.dload_n 1, 1) := by decide +kernel
theorem d3_134 : decode prog_47_method_3_code 134 = .ok (.dastore, 1) := by decide +kernel
theorem d3_135 : decode prog_47_method_3_code 135 = .ok (.aload_n 0, 1) := by decide +kernel
theorem d3_136 : decode prog_47_method_3_code 136 = .ok (.getfield 13, 3) := by decide +kernel
theorem d3_139 : decode prog_47_method_3_code 139 = .ok (.iload 4, 2) := by decide +kernel
theorem d3_141 : decode prog_47_method_3_code 141 = .ok (.iload_n 3, 1) := by decide +kernel
theorem d3_142 : decode prog_47_method_3_code 142 = .ok (.iastore, 1) := by decide +kernel
theorem d3_143 : decode prog_47_method_3_code 143 = .ok (.return_, 1) := by decide +kernel
theorem d4_0 : decode prog_47_method_5_code 0 = .ok (.aload_n 0, 1) := by decide +kernel
theorem d4_1 : decode prog_47_method_5_code 1 = .ok (.getfield 13, 3) := by decide +kernel
theorem d4_4 : decode prog_47_method_5_code 4 = .ok (.iconst 0, 1) := by decide +kernel
theorem d4_5 : decode prog_47_method_5_code 5 = .ok (.iaload, 1) := by decide +kernel
theorem d4_6 : decode prog_47_method_5_code 6 = .ok (.istore_n 1, 1) := by decide +kernel
theorem d4_7 : decode prog_47_method_5_code 7 = .ok (.aload_n 0, 1) := by decide +kernel
theorem d4_8 : decode prog_47_method_5_code 8 = .ok (.dup, 1) := by decide +kernel
theorem d4_9 : decode prog_47_method_5_code 9 = .ok (.getfield 17, 3) := by decide +kernel
theorem d4_12 : decode prog_47_method_5_code 12 = .ok (.iconst 1, 1) := by decide +kernel
theorem d4_13 : decode prog_47_method_5_code 13 = .ok (.isub, 1) := by decide +kernel
theorem d4_14 : decode prog_47_method_5_code 14 = .ok (.putfield 17, 3) := by decide +kernel
theorem d4_17 : decode prog_47_method_5_code 17 = .ok (.aload_n 0, 1) := by decide +kernel
theorem d4_18 : decode prog_47_method_5_code 18 = .ok (.getfield 7, 3) := by decide +kernel
theorem d4_21 : decode prog_47_method_5_code 21 = .ok (.aload_n 0, 1) := by decide +kernel
theorem d4_22 : decode prog_47_method_5_code 22 = .ok (.getfield 17, 3) := by decide +kernel
theorem d4_25 : decode prog_47_method_5_code 25 = .ok (.daload, 1) := by decide +kernel
theorem d4_26 : decode prog_47_method_5_code 26 = .ok (.dstore_n 2, 1) := by decide +kernel
theorem d4_27 : decode prog_47_method_5_code 27 = .ok (.aload_n 0, 1) := by decide +kernel
theorem d4_28 : decode prog_47_method_5_code 28 = .ok (.getfield 13, 3) := by decide +kernel
theorem d4_31 : decode prog_47_method_5_code 31 = .ok (.aload_n 0, 1) := by decide +kernel
theorem d4_32 : decode prog_47_method_5_code 32 = .ok (.getfield 17, 3) := by decide +kernel
theorem d4_35 : decode prog_47_method_5_code 35 = .ok (.iaload, 1) := by decide +kernel
theorem d4_36 : decode prog_47_method_5_code 36 = .ok (.istore 4, 2) := by decide +kernel
theorem d4_38 : decode prog_47_method_5_code 38 = .ok (.iconst 0, 1) := by decide +kernel
theorem d4_39 : decode prog_47_method_5_code 39 = .ok (.istore 5, 2) := by decide +kernel
theorem d4_41 : decode prog_47_method_5_code 41 = .ok (.iconst 0, 1) := by decide +kernel
theorem d4_42 : decode prog_47_method_5_code 42 = .ok (.istore 6, 2) := by decide +kernel
theorem d4_44 : decode prog_47_method_5_code 44 = .ok (.iload 6, 2) := by decide +kernel
theorem d4_46 : decode prog_47_method_5_code 46 = .ok (.ifCond .ne 107, 3) := by decide +kernel
theorem d4_49 : decode prog_47_method_5_code 49 = .ok (.iconst 2, 1) := by decide +kernel
theorem d4_50 : decode prog_47_method_5_code 50 = .ok (.iload 5, 2) := by decide +kernel
theorem d4_52 : decode prog_47_method_5_code 52 = .ok (.imul, 1) := by decide +kernel
theorem d4_53 : decode prog_47_method_5_code 53 = .ok (.iconst 1, 1) := by decide +kernel
theorem d4_54 : decode prog_47_method_5_code 54 = .ok (.iadd, 1) := by decide +kernel
theorem d4_55 : decode prog_47_method_5_code 55 = .ok (.istore 7, 2) := by decide +kernel
theorem d4_57 : decode prog_47_method_5_code 57 = .ok (.iload 7, 2) := by decide +kernel
theorem d4_59 : decode prog_47_method_5_code 59 = .ok (.iconst 1, 1) := by decide +kernel
theorem d4_60 : decode prog_47_method_5_code 60 = .ok (.iadd, 1) := by decide +kernel
theorem d4_61 : decode prog_47_method_5_code 61 = .ok (.aload_n 0, 1) := by decide +kernel
theorem d4_62 : decode prog_47_method_5_code 62 = .ok (.getfield 17, 3) := by decide +kernel
theorem d4_65 : decode prog_47_method_5_code 65 = .ok (.if_icmp .ge 26, 3) := by decide +kernel
theorem d4_68 : decode prog_47_method_5_code 68 = .ok (.aload_n 0, 1) := by decide +kernel
theorem d4_69 : decode prog_47_method_5_code 69 = .ok (.getfield 7, 3) := by decide +kernel
theorem d4_72 : decode prog_47_method_5_code 72 = .ok (.iload 7, 2) := by decide +kernel
theorem d4_74 : decode prog_47_method_5_code 74 = .ok (.iconst 1, 1) := by decide +kernel
theorem d4_75 : decode prog_47_method_5_code 75 = .ok (.iadd, 1) := by decide +kernel
theorem d4_76 : decode prog_47_method_5_code 76 = .ok (.daload, 1) := by decide +kernel
theorem d4_77 : decode prog_47_method_5_code 77 = .ok (.aload_n 0, 1) := by decide +kernel
theorem d4_78 : decode prog_47_method_5_code 78 = .ok (.getfield 7, 3) := by decide +kernel
theorem d4_81 : decode prog_47_method_5_code 81 = .ok (.iload 7, 2) := by decide +kernel
theorem d4_83 : decode prog_47_method_5_code 83 = .ok (.daload, 1) := by decide +kernel
theorem d4_84 : decode prog_47_method_5_code 84 = .ok (.dcmp .l, 1) := by decide +kernel
theorem d4_85 : decode prog_47_method_5_code 85 = .ok (.ifCond .le 6, 3) := by decide +kernel
theorem d4_88 : decode prog_47_method_5_code 88 = .ok (.iinc 7 1, 3) := by decide +kernel
theorem d4_91 : decode prog_47_method_5_code 91 = .ok (.iload 7, 2) := by decide +kernel
theorem d4_93 : decode prog_47_method_5_code 93 = .ok (.aload_n 0, 1) := by decide +kernel
theorem d4_94 : decode prog_47_method_5_code 94 = .ok (.getfield 17, 3) := by decide +kernel
theorem d4_97 : decode prog_47_method_5_code 97 = .ok (.if_icmp .ge 50, 3) := by decide +kernel
theorem d4_100 : decode prog_47_method_5_code 100 = .ok (.aload_n 0, 1) := by decide +kernel
theorem d4_101 : decode prog_47_method_5_code 101 = .ok (.getfield 7, 3) := by decide +kernel
theorem d4_104 : decode prog_47_method_5_code 104 = .ok (.iload 7, 2) := by decide +kernel
theorem d4_106 : decode prog_47_method_5_code 106 = .ok (.daload, 1) := by decide +kernel
theorem d4_107 : decode prog_47_method_5_code 107 = .ok (.dload_n 2, 1) := by decide +kernel
theorem d4_108 : decode prog_47_method_5_code 108 = .ok (.dcmp .l, 1) := by decide +kernel
theorem d4_109 : decode prog_47_method_5_code 109 = .ok (.ifCond .le 38, 3) := by decide +kernel
theorem d4_112 : decode prog_47_method_5_code 112 = .ok (.aload_n 0, 1) := by decide +kernel
theorem d4_113 : decode prog_47_method_5_code 113 = .ok (.getfield 7, 3) := by decide +kernel
theorem d4_116 : decode prog_47_method_5_code 116 = .ok (.iload 5, 2) := by decide +kernel
theorem d4_118 : decode prog_47_method_5_code 118 = .ok (.aload_n 0, 1) := by decide +kernel
theorem d4_119 : decode prog_47_method_5_code 119 = .ok (.getfield 7, 3) := by decide +kernel
theorem d4_122 : decode prog_47_method_5_code 122 = .ok (.iload 7, 2) := by decide +kernel
theorem d4_124 : decode prog_47_method_5_code 124 = .ok (.daload, 1) := by decide +kernel
theorem d4_125 : decode prog_47_method_5_code 125 = .ok (.dastore, 1) := by decide +kernel
theorem d4_126 : decode prog_47_method_5_code 126 = .ok (.aload_n 0, 1) := by decide +kernel
theorem d4_127 : decode prog_47_method_5_code 127 = .ok (.getfield 13, 3) := by decide +kernel
theorem d4_130 : decode prog_47_method_5_code 130 = .ok (.iload 5, 2) := by decide +kernel
theorem d4_132 : decode prog_47_method_5_code 132 = .ok (.aload_n 0, 1) := by decide +kernel
theorem d4_133 : decode prog_47_method_5_code 133 = .ok (.getfield 13, 3) := by decide +kernel
theorem d4_136 : decode prog_47_method_5_code 136 = .ok (.iload 7, 2) := by decide +kernel
theorem d4_138 : decode prog_47_method_5_code 138 = .ok (.iaload, 1) := by decide +kernel
theorem d4_139 : decode prog_47_method_5_code 139 = .ok (.iastore, 1) := by decide +kernel
theorem d4_140 : decode prog_47_method_5_code 140 = .ok (.iload 7, 2) := by decide +kernel
theorem d4_142 : decode prog_47_method_5_code 142 = .ok (.istore 5, 2) := by decide +kernel
theorem d4_144 : decode prog_47_method_5_code 144 = .ok (.goto 6, 3) := by decide +kernel
theorem d4_147 : decode prog_47_method_5_code 147 = .ok (.iconst 1, 1) := by decide +kernel
theorem d4_148 : decode prog_47_method_5_code 148 = .ok (.istore 6, 2) := by decide +kernel
theorem d4_150 : decode prog_47_method_5_code 150 = .ok (.goto (-106), 3) := by decide +kernel
theorem d4_153 : decode prog_47_method_5_code 153 = .ok (.aload_n 0, 1) := by decide +kernel
theorem d4_154 : decode prog_47_method_5_code 154 = .ok (.getfield 7, 3) := by decide +kernel
theorem d4_157 : decode prog_47_method_5_code 157 = .ok (.iload 5, 2) := by decide +kernel
theorem d4_159 : decode prog_47_method_5_code 159 = .ok (.dload_n 2, 1) := by decide +kernel
theorem d4_160 : decode prog_47_method_5_code 160 = .ok (.dastore, 1) := by decide +kernel
theorem d4_161 : decode prog_47_method_5_code 161 = .ok (.aload_n 0, 1) := by decide +kernel
theorem d4_162 : decode prog_47_method_5_code 162 = .ok (.getfield 13, 3) := by decide +kernel
theorem d4_165 : decode prog_47_method_5_code 165 = .ok (.iload 5, 2) := by decide +kernel
theorem d4_167 : decode prog_47_method_5_code 167 = .ok (.iload 4, 2) := by decide +kernel
theorem d4_169 : decode prog_47_method_5_code 169 = .ok (.iastore, 1) := by decide +kernel
theorem d4_170 : decode prog_47_method_5_code 170 = .ok (.iload_n 1, 1) := by decide +kernel
theorem d4_171 : decode prog_47_method_5_code 171 = .ok (.ireturn, 1) := by decide +kernel
theorem d5_0 : decode method_3_code 0 = .ok (.aload_n 0, 1) := by decide +kernel
theorem d5_1 : decode method_3_code 1 = .ok (.iload_n 1, 1) := by decide +kernel
theorem d5_2 : decode method_3_code 2 = .ok (.iaload, 1) := by decide +kernel
theorem d5_3 : decode method_3_code 3 = .ok (.aload_n 0, 1) := by decide +kernel
theorem d5_4 : decode method_3_code 4 = .ok (.iload_n 1, 1) := by decide +kernel
theorem d5_5 : decode method_3_code 5 = .ok (.iconst 1, 1) := by decide +kernel
theorem d5_6 : decode method_3_code 6 = .ok (.iadd, 1) := by decide +kernel
theorem d5_7 : decode method_3_code 7 = .ok (.iaload, 1) := by decide +kernel
theorem d5_8 : decode method_3_code 8 = .ok (.if_icmp .ge 21, 3) := by decide +kernel
theorem d5_11 : decode method_3_code 11 = .ok (.aload_n 0, 1) := by decide +kernel
theorem d5_12 : decode method_3_code 12 = .ok (.iload_n 1, 1) := by decide +kernel
theorem d5_13 : decode method_3_code 13 = .ok (.iaload, 1) := by decide +kernel
theorem d5_14 : decode method_3_code 14 = .ok (.istore_n 2, 1) := by decide +kernel
theorem d5_15 : decode method_3_code 15 = .ok (.aload_n 0, 1) := by decide +kernel
theorem d5_16 : decode method_3_code 16 = .ok (.iload_n 1, 1) := by decide +kernel
theorem d5_17 : decode method_3_code 17 = .ok (.aload_n 0, 1) := by decide +kernel
theorem d5_18 : decode method_3_code 18 = .ok (.iload_n 1, 1) := by decide +kernel
theorem d5_19 : decode method_3_code 19 = .ok (.iconst 1, 1) := by decide +kernel
theorem d5_20 : decode method_3_code 20 = .ok (.iadd, 1) := by decide +kernel
theorem d5_21 : decode method_3_code 21 = .ok (.iaload, 1) := by decide +kernel
theorem d5_22 : decode method_3_code 22 = .ok (.iastore, 1) := by decide +kernel
theorem d5_23 : decode method_3_code 23 = .ok (.aload_n 0, 1) := by decide +kernel
theorem d5_24 : decode method_3_code 24 = .ok (.iload_n 1, 1) := by decide +kernel
theorem d5_25 : decode method_3_code 25 = .ok (.iconst 1, 1) := by decide +kernel
theorem d5_26 : decode method_3_code 26 = .ok (.iadd, 1) := by decide +kernel
theorem d5_27 : decode method_3_code 27 = .ok (.iload_n 2, 1) := by decide +kernel
theorem d5_28 : decode method_3_code 28 = .ok (.iastore, 1) := by decide +kernel
theorem d5_29 : decode method_3_code 29 = .ok (.return_, 1) := by decide +kernel
theorem ef_1_A (x0 : Nat) (m : MethodId) : entryFrame m #[(.ref x0)] 1 = mkF m 0 #[.val (.ref x0)] [] := by first | (simp [entryFrame, mkF, argsToLocals, Value.category, maxLocals]; done) | rfl
theorem pn_1 : plainName "com/example/mardec/mardec/explicit/StateHeap" = true := by first | (simp [plainName, overriddenIn]; done) | decide +kernel
theorem pd_2 : parseMethodDescriptor "()V" = some ⟨[], none⟩ := by decide +kernel
theorem ef_3_ADI (x0 : Nat) (x1 : UInt64) (x2 : Int32) (m : MethodId) : entryFrame m #[(.ref x0), (.double x1), (.int x2)] 5 = mkF m 0 #[.val (.ref x0), .val (.double x1), .second, .val (.int x2), .unset] [] := by first | (simp [entryFrame, mkF, argsToLocals, Value.category, maxLocals]; done) | rfl
theorem pd_4 : parseMethodDescriptor "(DI)V" = some ⟨[.double, .int], none⟩ := by decide +kernel
theorem ef_4_A (x0 : Nat) (m : MethodId) : entryFrame m #[(.ref x0)] 8 = mkF m 0 #[.val (.ref x0), .unset, .unset, .unset, .unset, .unset, .unset, .unset] [] := by first | (simp [entryFrame, mkF, argsToLocals, Value.category, maxLocals]; done) | rfl
theorem pd_6 : parseMethodDescriptor "()I" = some ⟨[], some .int⟩ := by decide +kernel
theorem ef_5_AI (x0 : Nat) (x1 : Int32) (m : MethodId) : entryFrame m #[(.ref x0), (.int x1)] 3 = mkF m 0 #[.val (.ref x0), .val (.int x1), .unset] [] := by first | (simp [entryFrame, mkF, argsToLocals, Value.category, maxLocals]; done) | rfl
theorem pn_8 : plainName "com/example/mardec/mardec/explicit/StateHeapPopPinLaw" = true := by first | (simp [plainName, overriddenIn]; done) | decide +kernel
theorem pd_9 : parseMethodDescriptor "([II)V" = some ⟨[(.array .int), .int], none⟩ := by decide +kernel
theorem ef_0_IIIII (x0 : Int32) (x1 : Int32) (x2 : Int32) (x3 : Int32) (x4 : Int32) (m : MethodId) : entryFrame m #[(.int x0), (.int x1), (.int x2), (.int x3), (.int x4)] maxLocals = mkF m 0 #[.val (.int x0), .val (.int x1), .val (.int x2), .val (.int x3), .val (.int x4), .unset, .unset, .unset, .unset, .unset, .unset, .unset] [] := by first | (simp [entryFrame, mkF, argsToLocals, Value.category, maxLocals]; done) | rfl
theorem law_pn0 : plainName "com/example/mardec/mardec/explicit/StateHeapPopPinLaw" = true := by first | (simp [plainName, overriddenIn]; done) | decide +kernel
theorem law_pn : plainName x.cls = true := law_pn0
def Q1 (v : Option Value) (_ : Heap) : Prop := v = some (.int 1)
theorem in5 {α : Type} {a b c d e : α} {t : List α} {i : Nat} (h : i < 5) : i < ([a, b, c, d, e] ++ t).length := by
  simp only [List.length_append, List.length_cons, List.length_nil]; omega
def SH (Z : State) (n0 : Nat) (h : Heap) (a kb sb : Nat) (tD : List UInt64) (tI : List Int32) (n : Int32) (k0 k1 k2 k3 k4 x0 x1 x2 x3 x4 : Int32) : Prop :=
  (Exa Z h a "com/example/mardec/mardec/explicit/StateHeap" ∧ Fld Z h a "com/example/mardec/mardec/explicit/StateHeap" "keys" "[D" (.ref kb) ∧ Fld Z h a "com/example/mardec/mardec/explicit/StateHeap" "states" "[I" (.ref sb) ∧ Fld Z h a "com/example/mardec/mardec/explicit/StateHeap" "size" "I" (.int n)) ∧ ArD Z h kb ([FP.i2d k0, FP.i2d k1, FP.i2d k2, FP.i2d k3, FP.i2d k4] ++ tD) ∧ ArI Z h sb ([x0, x1, x2, x3, x4] ++ tI) ∧ (kb ≠ sb ∧ a ≠ kb ∧ a ≠ sb) ∧ n0 ≤ a ∧ n0 ≤ kb ∧ n0 ≤ sb ∧ tD.length = 59
theorem SH.kset {Z : State} {n0 : Nat} {h h' : Heap} {a kb sb : Nat} {tD : List UInt64} {tI : List Int32} {n : Int32} {k0 k1 k2 k3 k4 x0 x1 x2 x3 x4 : Int32} (H : SH Z n0 h a kb sb tD tI n k0 k1 k2 k3 k4 x0 x1 x2 x3 x4) (K : Keep h h' [kb]) {l0 l1 l2 l3 l4 : Int32} (A : ArD Z h' kb ([FP.i2d l0, FP.i2d l1, FP.i2d l2, FP.i2d l3, FP.i2d l4] ++ tD)) : SH Z n0 h' a kb sb tD tI n l0 l1 l2 l3 l4 x0 x1 x2 x3 x4 :=
  ⟨⟨H.1.1.keep K, H.1.2.1.keep K (ninS H.2.2.2.1.2.1 nin0), H.1.2.2.1.keep K (ninS H.2.2.2.1.2.1 nin0), H.1.2.2.2.keep K (ninS H.2.2.2.1.2.1 nin0)⟩, A, H.2.2.1.keep K (ninS (Ne.symm H.2.2.2.1.1) nin0), H.2.2.2⟩
theorem SH.sset {Z : State} {n0 : Nat} {h h' : Heap} {a kb sb : Nat} {tD : List UInt64} {tI : List Int32} {n : Int32} {k0 k1 k2 k3 k4 x0 x1 x2 x3 x4 : Int32} (H : SH Z n0 h a kb sb tD tI n k0 k1 k2 k3 k4 x0 x1 x2 x3 x4) (K : Keep h h' [sb]) {l0 l1 l2 l3 l4 : Int32} (A : ArI Z h' sb ([l0, l1, l2, l3, l4] ++ tI)) : SH Z n0 h' a kb sb tD tI n k0 k1 k2 k3 k4 l0 l1 l2 l3 l4 :=
  ⟨⟨H.1.1.keep K, H.1.2.1.keep K (ninS H.2.2.2.1.2.2 nin0), H.1.2.2.1.keep K (ninS H.2.2.2.1.2.2 nin0), H.1.2.2.2.keep K (ninS H.2.2.2.1.2.2 nin0)⟩, H.2.1.keep K (ninS H.2.2.2.1.1 nin0), A, H.2.2.2⟩
theorem SH.keep {Z : State} {n0 : Nat} {h h' : Heap} {a kb sb : Nat} {tD : List UInt64} {tI : List Int32} {n : Int32} {k0 k1 k2 k3 k4 x0 x1 x2 x3 x4 : Int32} {ws : List Nat} (H : SH Z n0 h a kb sb tD tI n k0 k1 k2 k3 k4 x0 x1 x2 x3 x4) (K : Keep h h' ws) (q1 : a ∉ ws) (q2 : kb ∉ ws) (q3 : sb ∉ ws) : SH Z n0 h' a kb sb tD tI n k0 k1 k2 k3 k4 x0 x1 x2 x3 x4 :=
  ⟨⟨H.1.1.keep K, H.1.2.1.keep K q1, H.1.2.2.1.keep K q1, H.1.2.2.2.keep K q1⟩, H.2.1.keep K q2, H.2.2.1.keep K q3, H.2.2.2⟩
theorem SH.nset {Z : State} {n0 : Nat} {h h' : Heap} {a kb sb : Nat} {tD : List UInt64} {tI : List Int32} {n m : Int32} {k0 k1 k2 k3 k4 x0 x1 x2 x3 x4 : Int32} (a0 : Array Value) (hw : ∀ d ∈ tables_1, d.before a0 Z = true) (H : SH Z n0 h a kb sb tD tI n k0 k1 k2 k3 k4 x0 x1 x2 x3 x4) (W : Wr h h' a (Jvm.RoadKit.slotOf Z "com/example/mardec/mardec/explicit/StateHeap" "size" "I") (.int m)) : SH Z n0 h' a kb sb tD tI m k0 k1 k2 k3 k4 x0 x1 x2 x3 x4 :=
  ⟨⟨H.1.1.wr W, H.1.2.1.other W (Or.inr (slot_ne (a0 := a0) (C := "com/example/mardec/mardec/explicit/StateHeap") (Or.inl (hw _ (List.mem_of_getElem? (i := 11) rfl))) (Or.inl (hw _ (List.mem_of_getElem? (i := 21) rfl))) (by decide) (t := .array .double) (t' := .int) (by decide) (by decide))), H.1.2.2.1.other W (Or.inr (slot_ne (a0 := a0) (C := "com/example/mardec/mardec/explicit/StateHeap") (Or.inl (hw _ (List.mem_of_getElem? (i := 14) rfl))) (Or.inl (hw _ (List.mem_of_getElem? (i := 21) rfl))) (by decide) (t := .array .int) (t' := .int) (by decide) (by decide))), H.1.2.2.2.same W⟩, H.2.1.other W (Ne.symm H.2.2.2.1.2.1), H.2.2.1.other W (Ne.symm H.2.2.2.1.2.2), H.2.2.2⟩
theorem i2d_zero : FP.i2d 0 = 0 := by decide +kernel
set_option maxRecDepth 65536 in
set_option maxHeartbeats 40000000 in
theorem init_go (l : Launch) (Z : State) (a0 : Array Value) (hw : ∀ d ∈ tables_1, d.before a0 Z = true) {n0 : Nat} {h : Heap} {a : Nat} (E : Exa Z h a "com/example/mardec/mardec/explicit/StateHeap") (F1 : Fld Z h a "com/example/mardec/mardec/explicit/StateHeap" "keys" "[D" .null) (F2 : Fld Z h a "com/example/mardec/mardec/explicit/StateHeap" "states" "[I" .null) (F3 : Fld Z h a "com/example/mardec/mardec/explicit/StateHeap" "size" "I" (.int 0)) (na : n0 ≤ a) :
    Go l Z ({ frames := 1, cells := 2, slots := 128, locals := 16 } : Room) ((⟨"com/example/mardec/mardec/explicit/StateHeap", "<init>", "()V"⟩ : MethodName), prog_47_method_1_code, 1, none) n0 (fun v h' => v = none ∧ ∃ kb sb tD tI, SH Z n0 h' a kb sb tD tI 0 0 0 0 0 0 0 0 0 0 0) h 0 0 0 #[.val (.ref a)] [] := by
  refine Go.aloadN 1 d1_0 rfl rfl rfl ?_
  refine Go.initO 4 (hw _ (List.mem_of_getElem? (i := 6) rfl)) (hw _ (List.mem_of_getElem? (i := 7) rfl)) (hw _ (List.mem_of_getElem? (i := 8) rfl)) rfl d1_1 rfl (by decide) (leB rfl) ?_
  refine Go.aloadN 5 d1_4 rfl rfl rfl ?_
  refine Go.bipush 7 (64 : Int32) d1_5 rfl (by decide) ?_
  refine Go.newD 9 64 (hw _ (List.mem_of_getElem? (i := 9) rfl)) (i := 64) (by decide) (by decide) (by decide) d1_7 rfl (by decide) (by decide) ?_
  intro h1 kb E1 g1 nk A1
  have hak : a ≠ kb := Nat.ne_of_lt (Nat.lt_of_lt_of_le E.lt g1)
  refine Go.putF 12 (hw _ (List.mem_of_getElem? (i := 10) rfl)) (F1.ext E1) (E.ext E1) (Or.inl (hw _ (List.mem_of_getElem? (i := 11) rfl))) (hw _ (List.mem_of_getElem? (i := 1) rfl)) (ty := (.array .double)) (by decide) rfl rfl na d1_9 rfl ?_
  intro h2 W2
  have F1b := (F1.ext E1).same W2
  have F2b := (F2.ext E1).other W2 (Or.inr (slot_ne (a0 := a0) (C := "com/example/mardec/mardec/explicit/StateHeap") (Or.inl (hw _ (List.mem_of_getElem? (i := 14) rfl))) (Or.inl (hw _ (List.mem_of_getElem? (i := 11) rfl))) (by decide) (t := .array .int) (t' := .array .double) (by decide) (by decide)))
  have F3b := (F3.ext E1).other W2 (Or.inr (slot_ne (a0 := a0) (C := "com/example/mardec/mardec/explicit/StateHeap") (Or.inl (hw _ (List.mem_of_getElem? (i := 21) rfl))) (Or.inl (hw _ (List.mem_of_getElem? (i := 11) rfl))) (by decide) (t := .int) (t' := .array .double) (by decide) (by decide)))
  have A2 := A1.other W2 (Ne.symm hak)
  have X2 := (E.ext E1).wr W2
  refine Go.aloadN 13 d1_12 rfl rfl rfl ?_
  refine Go.bipush 15 (64 : Int32) d1_13 rfl (by decide) ?_
  refine Go.newI 17 64 (hw _ (List.mem_of_getElem? (i := 12) rfl)) (i := 64) (by decide) (by decide) (by decide) d1_15 rfl (by decide) (by decide) ?_
  intro h3 sb E3 g3 ns A3
  have has : a ≠ sb := Nat.ne_of_lt (Nat.lt_of_lt_of_le X2.lt g3)
  have hks : kb ≠ sb := Nat.ne_of_lt (Nat.lt_of_lt_of_le A2.lt g3)
  refine Go.putF 20 (hw _ (List.mem_of_getElem? (i := 13) rfl)) (F2b.ext E3) (X2.ext E3) (Or.inl (hw _ (List.mem_of_getElem? (i := 14) rfl))) (hw _ (List.mem_of_getElem? (i := 1) rfl)) (ty := (.array .int)) (by decide) rfl rfl na d1_17 rfl ?_
  intro h4 W4
  refine Go.ret d1_20 rfl (by decide) (by decide) ⟨rfl, kb, sb, List.replicate 59 0, List.replicate 59 0, ⟨⟨(X2.ext E3).wr W4, (F1b.ext E3).other W4 (Or.inr (slot_ne (a0 := a0) (C := "com/example/mardec/mardec/explicit/StateHeap") (Or.inl (hw _ (List.mem_of_getElem? (i := 11) rfl))) (Or.inl (hw _ (List.mem_of_getElem? (i := 14) rfl))) (by decide) (t := .array .double) (t' := .array .int) (by decide) (by decide))), (F2b.ext E3).same W4, (F3b.ext E3).other W4 (Or.inr (slot_ne (a0 := a0) (C := "com/example/mardec/mardec/explicit/StateHeap") (Or.inl (hw _ (List.mem_of_getElem? (i := 21) rfl))) (Or.inl (hw _ (List.mem_of_getElem? (i := 14) rfl))) (by decide) (t := .int) (t' := .array .int) (by decide) (by decide)))⟩, ?_, ?_, ⟨hks, hak, has⟩, na, nk, ns, by simp⟩⟩
  · rw [i2d_zero]; exact (A2.ext E3).other W4 (Ne.symm hak)
  · exact A3.other W4 (Ne.symm has)
set_option maxRecDepth 65536 in
set_option maxHeartbeats 40000000 in
theorem push_0 (l : Launch) (Z : State) (a0 : Array Value) (hw : ∀ d ∈ tables_1, d.before a0 Z = true) {n0 : Nat} {h : Heap} {a kb sb : Nat} {tD : List UInt64} {tI : List Int32} {x0 x1 x2 x3 x4 : Int32} (x : Int32) (H : SH Z n0 h a kb sb tD tI (0 : Int32) x0 x1 x2 x3 x4 x0 x1 x2 x3 x4) :
    Go l Z ({ frames := 0, cells := 0, slots := 0, locals := 0 } : Room) ((⟨"com/example/mardec/mardec/explicit/StateHeap", "push", "(DI)V"⟩ : MethodName), prog_47_method_3_code, 5, none) n0 (fun v h' => v = none ∧ ∃ y0 y1 y2 y3 y4, SH Z n0 h' a kb sb tD tI (1 : Int32) y0 y1 y2 y3 y4 y0 y1 y2 y3 y4 ∧ ∀ f : Int32 → Nat, f y0 = f x) h 0 0 0 #[.val (.ref a), .val (.double (FP.i2d x)), .second, .val (.int x), .unset] [] := by
  refine Go.aloadN 1 d3_0 rfl rfl rfl ?_
  refine Go.getf 4 (hw _ (List.mem_of_getElem? (i := 20) rfl)) H.1.2.2.2 d3_1 rfl ?_
  refine Go.aloadN 5 d3_4 rfl rfl rfl ?_
  refine Go.getf 8 (hw _ (List.mem_of_getElem? (i := 10) rfl)) H.1.2.1 d3_5 rfl ?_
  refine Go.alen 9 64 H.2.1 (by rw [List.length_map, List.length_append, H.2.2.2.2.2.2.2]; rfl) d3_8 rfl ?_
  refine Go.icmpT 46 d3_9 (by decide) (by decide) (show (0 : Int) ≠ (64 : Int) from by decide) ?_
  refine Go.aloadN 47 d3_46 rfl rfl rfl ?_
  refine Go.dup 48 d3_47 rfl rfl ?_
  refine Go.getf 51 (hw _ (List.mem_of_getElem? (i := 20) rfl)) H.1.2.2.2 d3_48 rfl ?_
  refine Go.dupX1 52 d3_51 rfl rfl rfl ?_
  refine Go.iconst 53 (1 : Int32) d3_52 rfl (by decide) ?_
  refine Go.iadd 54 (1 : Int32) d3_53 rfl (by decide) ?_
  refine Go.putF 57 (hw _ (List.mem_of_getElem? (i := 20) rfl)) H.1.2.2.2 H.1.1 (Or.inl (hw _ (List.mem_of_getElem? (i := 21) rfl))) (hw _ (List.mem_of_getElem? (i := 1) rfl)) (ty := .int) (by decide) rfl rfl H.2.2.2.2.1 d3_54 rfl ?_
  intro h0 W0
  have H0 := H.nset a0 hw W0
  refine Go.istore 59 #[.val (.ref a), .val (.double (FP.i2d x)), .second, .val (.int x), .val (.int (0 : Int32))] d3_57 rfl rfl ?_
  refine Go.iload 61 d3_59 rfl rfl ?_
  refine Go.ifCT 127 d3_61 (by decide) (by decide) (show (0 : Int) ≤ 0 from by decide) ?_
  refine Go.aloadN 128 d3_127 rfl rfl rfl ?_
  refine Go.getf 131 (hw _ (List.mem_of_getElem? (i := 10) rfl)) H0.1.2.1 d3_128 rfl ?_
  refine Go.iload 133 d3_131 rfl rfl ?_
  refine Go.dloadN 134 d3_133 rfl rfl ?_
  refine Go.dastore 135 H0.2.1 (i := 0) (by decide) (in5 (by decide)) H0.2.2.2.2.2.1 d3_134 rfl ?_
  intro h1 K1 A1
  have H1 : SH Z n0 h1 a kb sb tD tI (1 : Int32) x x1 x2 x3 x4 x0 x1 x2 x3 x4 := H0.kset K1 A1
  refine Go.aloadN 136 d3_135 rfl rfl rfl ?_
  refine Go.getf 139 (hw _ (List.mem_of_getElem? (i := 13) rfl)) H1.1.2.2.1 d3_136 rfl ?_
  refine Go.iload 141 d3_139 rfl rfl ?_
  refine Go.iloadN 142 d3_141 rfl rfl ?_
  refine Go.iastore 143 H1.2.2.1 (i := 0) (by decide) (in5 (by decide)) H1.2.2.2.2.2.2.1 d3_142 rfl ?_
  intro h2 K2 A2
  have H2 : SH Z n0 h2 a kb sb tD tI (1 : Int32) x x1 x2 x3 x4 x x1 x2 x3 x4 := H1.sset K2 A2
  exact Go.ret d3_143 rfl (by decide) (by decide) ⟨rfl, x, x1, x2, x3, x4, H2, fun f => by omega⟩
set_option maxRecDepth 65536 in
set_option maxHeartbeats 40000000 in
theorem push_1 (l : Launch) (Z : State) (a0 : Array Value) (hw : ∀ d ∈ tables_1, d.before a0 Z = true) {n0 : Nat} {h : Heap} {a kb sb : Nat} {tD : List UInt64} {tI : List Int32} {x0 x1 x2 x3 x4 : Int32} (x : Int32) (H : SH Z n0 h a kb sb tD tI (1 : Int32) x0 x1 x2 x3 x4 x0 x1 x2 x3 x4) :
    Go l Z ({ frames := 0, cells := 0, slots := 0, locals := 0 } : Room) ((⟨"com/example/mardec/mardec/explicit/StateHeap", "push", "(DI)V"⟩ : MethodName), prog_47_method_3_code, 5, none) n0 (fun v h' => v = none ∧ ∃ y0 y1 y2 y3 y4, SH Z n0 h' a kb sb tD tI (2 : Int32) y0 y1 y2 y3 y4 y0 y1 y2 y3 y4 ∧ y1.toInt ≤ y0.toInt ∧ ∀ f : Int32 → Nat, f y0 + f y1 = f x0 + f x) h 0 0 0 #[.val (.ref a), .val (.double (FP.i2d x)), .second, .val (.int x), .unset] [] := by
  refine Go.aloadN 1 d3_0 rfl rfl rfl ?_
  refine Go.getf 4 (hw _ (List.mem_of_getElem? (i := 20) rfl)) H.1.2.2.2 d3_1 rfl ?_
  refine Go.aloadN 5 d3_4 rfl rfl rfl ?_
  refine Go.getf 8 (hw _ (List.mem_of_getElem? (i := 10) rfl)) H.1.2.1 d3_5 rfl ?_
  refine Go.alen 9 64 H.2.1 (by rw [List.length_map, List.length_append, H.2.2.2.2.2.2.2]; rfl) d3_8 rfl ?_
  refine Go.icmpT 46 d3_9 (by decide) (by decide) (show (1 : Int) ≠ (64 : Int) from by decide) ?_
  refine Go.aloadN 47 d3_46 rfl rfl rfl ?_
  refine Go.dup 48 d3_47 rfl rfl ?_
  refine Go.getf 51 (hw _ (List.mem_of_getElem? (i := 20) rfl)) H.1.2.2.2 d3_48 rfl ?_
  refine Go.dupX1 52 d3_51 rfl rfl rfl ?_
  refine Go.iconst 53 (1 : Int32) d3_52 rfl (by decide) ?_
  refine Go.iadd 54 (2 : Int32) d3_53 rfl (by decide) ?_
  refine Go.putF 57 (hw _ (List.mem_of_getElem? (i := 20) rfl)) H.1.2.2.2 H.1.1 (Or.inl (hw _ (List.mem_of_getElem? (i := 21) rfl))) (hw _ (List.mem_of_getElem? (i := 1) rfl)) (ty := .int) (by decide) rfl rfl H.2.2.2.2.1 d3_54 rfl ?_
  intro h0 W0
  have H0 := H.nset a0 hw W0
  refine Go.istore 59 #[.val (.ref a), .val (.double (FP.i2d x)), .second, .val (.int x), .val (.int (1 : Int32))] d3_57 rfl rfl ?_
  refine Go.iload 61 d3_59 rfl rfl ?_
  refine Go.ifCF 64 d3_61 rfl (show 0 < (1 : Int) from by decide) ?_
  refine Go.aloadN 65 d3_64 rfl rfl rfl ?_
  refine Go.getf 68 (hw _ (List.mem_of_getElem? (i := 10) rfl)) H0.1.2.1 d3_65 rfl ?_
  refine Go.iload 70 d3_68 rfl rfl ?_
  refine Go.iconst 71 (1 : Int32) d3_70 rfl (by decide) ?_
  refine Go.isub 72 (0 : Int32) d3_71 rfl (by decide) ?_
  refine Go.iconst 73 (2 : Int32) d3_72 rfl (by decide) ?_
  refine Go.idiv 74 (0 : Int32) d3_73 rfl (by decide) (by decide) ?_
  refine Go.daload 75 H0.2.1 (i := 0) (by decide) rfl d3_74 rfl ?_
  refine Go.dloadN 76 d3_75 rfl rfl ?_
  refine Go.dcmp 77 (sg x0.toInt x.toInt) d3_76 rfl (cmpI (FP.Core.i2d_int _) (FP.Core.i2d_int _) _) ?_
  refine Go.ifCB 127 80 d3_77 (by decide) (by decide) rfl (fun (hc : 0 ≤ ((sg x0.toInt x.toInt)).toInt) => ?_) (fun (hc : ((sg x0.toInt x.toInt)).toInt < 0) => ?_)
  · have := sg_cases x0.toInt x.toInt
    refine Go.aloadN 128 d3_127 rfl rfl rfl ?_
    refine Go.getf 131 (hw _ (List.mem_of_getElem? (i := 10) rfl)) H0.1.2.1 d3_128 rfl ?_
    refine Go.iload 133 d3_131 rfl rfl ?_
    refine Go.dloadN 134 d3_133 rfl rfl ?_
    refine Go.dastore 135 H0.2.1 (i := 1) (by decide) (in5 (by decide)) H0.2.2.2.2.2.1 d3_134 rfl ?_
    intro h3 K3 A3
    have H3 : SH Z n0 h3 a kb sb tD tI (2 : Int32) x0 x x2 x3 x4 x0 x1 x2 x3 x4 := H0.kset K3 A3
    refine Go.aloadN 136 d3_135 rfl rfl rfl ?_
    refine Go.getf 139 (hw _ (List.mem_of_getElem? (i := 13) rfl)) H3.1.2.2.1 d3_136 rfl ?_
    refine Go.iload 141 d3_139 rfl rfl ?_
    refine Go.iloadN 142 d3_141 rfl rfl ?_
    refine Go.iastore 143 H3.2.2.1 (i := 1) (by decide) (in5 (by decide)) H3.2.2.2.2.2.2.1 d3_142 rfl ?_
    intro h4 K4 A4
    have H4 : SH Z n0 h4 a kb sb tD tI (2 : Int32) x0 x x2 x3 x4 x0 x x2 x3 x4 := H3.sset K4 A4
    exact Go.ret d3_143 rfl (by decide) (by decide) ⟨rfl, x0, x, x2, x3, x4, H4, by omega, fun f => by omega⟩
  · have := sg_cases x0.toInt x.toInt
    refine Go.aloadN 81 d3_80 rfl rfl rfl ?_
    refine Go.getf 84 (hw _ (List.mem_of_getElem? (i := 10) rfl)) H0.1.2.1 d3_81 rfl ?_
    refine Go.iload 86 d3_84 rfl rfl ?_
    refine Go.aloadN 87 d3_86 rfl rfl rfl ?_
    refine Go.getf 90 (hw _ (List.mem_of_getElem? (i := 10) rfl)) H0.1.2.1 d3_87 rfl ?_
    refine Go.iload 92 d3_90 rfl rfl ?_
    refine Go.iconst 93 (1 : Int32) d3_92 rfl (by decide) ?_
    refine Go.isub 94 (0 : Int32) d3_93 rfl (by decide) ?_
    refine Go.iconst 95 (2 : Int32) d3_94 rfl (by decide) ?_
    refine Go.idiv 96 (0 : Int32) d3_95 rfl (by decide) (by decide) ?_
    refine Go.daload 97 H0.2.1 (i := 0) (by decide) rfl d3_96 rfl ?_
    refine Go.dastore 98 H0.2.1 (i := 1) (by decide) (in5 (by decide)) H0.2.2.2.2.2.1 d3_97 rfl ?_
    intro h5 K5 A5
    have H5 : SH Z n0 h5 a kb sb tD tI (2 : Int32) x0 x0 x2 x3 x4 x0 x1 x2 x3 x4 := H0.kset K5 A5
    refine Go.aloadN 99 d3_98 rfl rfl rfl ?_
    refine Go.getf 102 (hw _ (List.mem_of_getElem? (i := 13) rfl)) H5.1.2.2.1 d3_99 rfl ?_
    refine Go.iload 104 d3_102 rfl rfl ?_
    refine Go.aloadN 105 d3_104 rfl rfl rfl ?_
    refine Go.getf 108 (hw _ (List.mem_of_getElem? (i := 13) rfl)) H5.1.2.2.1 d3_105 rfl ?_
    refine Go.iload 110 d3_108 rfl rfl ?_
    refine Go.iconst 111 (1 : Int32) d3_110 rfl (by decide) ?_
    refine Go.isub 112 (0 : Int32) d3_111 rfl (by decide) ?_
    refine Go.iconst 113 (2 : Int32) d3_112 rfl (by decide) ?_
    refine Go.idiv 114 (0 : Int32) d3_113 rfl (by decide) (by decide) ?_
    refine Go.iaload 115 H5.2.2.1 (i := 0) (by decide) rfl d3_114 rfl ?_
    refine Go.iastore 116 H5.2.2.1 (i := 1) (by decide) (in5 (by decide)) H5.2.2.2.2.2.2.1 d3_115 rfl ?_
    intro h6 K6 A6
    have H6 : SH Z n0 h6 a kb sb tD tI (2 : Int32) x0 x0 x2 x3 x4 x0 x0 x2 x3 x4 := H5.sset K6 A6
    refine Go.iload 118 d3_116 rfl rfl ?_
    refine Go.iconst 119 (1 : Int32) d3_118 rfl (by decide) ?_
    refine Go.isub 120 (0 : Int32) d3_119 rfl (by decide) ?_
    refine Go.iconst 121 (2 : Int32) d3_120 rfl (by decide) ?_
    refine Go.idiv 122 (0 : Int32) d3_121 rfl (by decide) (by decide) ?_
    refine Go.istore 124 #[.val (.ref a), .val (.double (FP.i2d x)), .second, .val (.int x), .val (.int (0 : Int32))] d3_122 rfl rfl ?_
    refine Go.goto 59 d3_124 (by decide) (by decide) ?_
    refine Go.iload 61 d3_59 rfl rfl ?_
    refine Go.ifCT 127 d3_61 (by decide) (by decide) (show (0 : Int) ≤ 0 from by decide) ?_
    refine Go.aloadN 128 d3_127 rfl rfl rfl ?_
    refine Go.getf 131 (hw _ (List.mem_of_getElem? (i := 10) rfl)) H6.1.2.1 d3_128 rfl ?_
    refine Go.iload 133 d3_131 rfl rfl ?_
    refine Go.dloadN 134 d3_133 rfl rfl ?_
    refine Go.dastore 135 H6.2.1 (i := 0) (by decide) (in5 (by decide)) H6.2.2.2.2.2.1 d3_134 rfl ?_
    intro h7 K7 A7
    have H7 : SH Z n0 h7 a kb sb tD tI (2 : Int32) x x0 x2 x3 x4 x0 x0 x2 x3 x4 := H6.kset K7 A7
    refine Go.aloadN 136 d3_135 rfl rfl rfl ?_
    refine Go.getf 139 (hw _ (List.mem_of_getElem? (i := 13) rfl)) H7.1.2.2.1 d3_136 rfl ?_
    refine Go.iload 141 d3_139 rfl rfl ?_
    refine Go.iloadN 142 d3_141 rfl rfl ?_
    refine Go.iastore 143 H7.2.2.1 (i := 0) (by decide) (in5 (by decide)) H7.2.2.2.2.2.2.1 d3_142 rfl ?_
    intro h8 K8 A8
    have H8 : SH Z n0 h8 a kb sb tD tI (2 : Int32) x x0 x2 x3 x4 x x0 x2 x3 x4 := H7.sset K8 A8
    exact Go.ret d3_143 rfl (by decide) (by decide) ⟨rfl, x, x0, x2, x3, x4, H8, by omega, fun f => by omega⟩
set_option maxRecDepth 65536 in
set_option maxHeartbeats 40000000 in
theorem push_2 (l : Launch) (Z : State) (a0 : Array Value) (hw : ∀ d ∈ tables_1, d.before a0 Z = true) {n0 : Nat} {h : Heap} {a kb sb : Nat} {tD : List UInt64} {tI : List Int32} {x0 x1 x2 x3 x4 : Int32} (x : Int32) (H : SH Z n0 h a kb sb tD tI (2 : Int32) x0 x1 x2 x3 x4 x0 x1 x2 x3 x4) (p0 : x1.toInt ≤ x0.toInt) :
    Go l Z ({ frames := 0, cells := 0, slots := 0, locals := 0 } : Room) ((⟨"com/example/mardec/mardec/explicit/StateHeap", "push", "(DI)V"⟩ : MethodName), prog_47_method_3_code, 5, none) n0 (fun v h' => v = none ∧ ∃ y0 y1 y2 y3 y4, SH Z n0 h' a kb sb tD tI (3 : Int32) y0 y1 y2 y3 y4 y0 y1 y2 y3 y4 ∧ y1.toInt ≤ y0.toInt ∧ y2.toInt ≤ y0.toInt ∧ ∀ f : Int32 → Nat, f y0 + f y1 + f y2 = f x0 + f x1 + f x) h 0 0 0 #[.val (.ref a), .val (.double (FP.i2d x)), .second, .val (.int x), .unset] [] := by
  refine Go.aloadN 1 d3_0 rfl rfl rfl ?_
  refine Go.getf 4 (hw _ (List.mem_of_getElem? (i := 20) rfl)) H.1.2.2.2 d3_1 rfl ?_
  refine Go.aloadN 5 d3_4 rfl rfl rfl ?_
  refine Go.getf 8 (hw _ (List.mem_of_getElem? (i := 10) rfl)) H.1.2.1 d3_5 rfl ?_
  refine Go.alen 9 64 H.2.1 (by rw [List.length_map, List.length_append, H.2.2.2.2.2.2.2]; rfl) d3_8 rfl ?_
  refine Go.icmpT 46 d3_9 (by decide) (by decide) (show (2 : Int) ≠ (64 : Int) from by decide) ?_
  refine Go.aloadN 47 d3_46 rfl rfl rfl ?_
  refine Go.dup 48 d3_47 rfl rfl ?_
  refine Go.getf 51 (hw _ (List.mem_of_getElem? (i := 20) rfl)) H.1.2.2.2 d3_48 rfl ?_
  refine Go.dupX1 52 d3_51 rfl rfl rfl ?_
  refine Go.iconst 53 (1 : Int32) d3_52 rfl (by decide) ?_
  refine Go.iadd 54 (3 : Int32) d3_53 rfl (by decide) ?_
  refine Go.putF 57 (hw _ (List.mem_of_getElem? (i := 20) rfl)) H.1.2.2.2 H.1.1 (Or.inl (hw _ (List.mem_of_getElem? (i := 21) rfl))) (hw _ (List.mem_of_getElem? (i := 1) rfl)) (ty := .int) (by decide) rfl rfl H.2.2.2.2.1 d3_54 rfl ?_
  intro h0 W0
  have H0 := H.nset a0 hw W0
  refine Go.istore 59 #[.val (.ref a), .val (.double (FP.i2d x)), .second, .val (.int x), .val (.int (2 : Int32))] d3_57 rfl rfl ?_
  refine Go.iload 61 d3_59 rfl rfl ?_
  refine Go.ifCF 64 d3_61 rfl (show 0 < (2 : Int) from by decide) ?_
  refine Go.aloadN 65 d3_64 rfl rfl rfl ?_
  refine Go.getf 68 (hw _ (List.mem_of_getElem? (i := 10) rfl)) H0.1.2.1 d3_65 rfl ?_
  refine Go.iload 70 d3_68 rfl rfl ?_
  refine Go.iconst 71 (1 : Int32) d3_70 rfl (by decide) ?_
  refine Go.isub 72 (1 : Int32) d3_71 rfl (by decide) ?_
  refine Go.iconst 73 (2 : Int32) d3_72 rfl (by decide) ?_
  refine Go.idiv 74 (0 : Int32) d3_73 rfl (by decide) (by decide) ?_
  refine Go.daload 75 H0.2.1 (i := 0) (by decide) rfl d3_74 rfl ?_
  refine Go.dloadN 76 d3_75 rfl rfl ?_
  refine Go.dcmp 77 (sg x0.toInt x.toInt) d3_76 rfl (cmpI (FP.Core.i2d_int _) (FP.Core.i2d_int _) _) ?_
  refine Go.ifCB 127 80 d3_77 (by decide) (by decide) rfl (fun (hc : 0 ≤ ((sg x0.toInt x.toInt)).toInt) => ?_) (fun (hc : ((sg x0.toInt x.toInt)).toInt < 0) => ?_)
  · have := sg_cases x0.toInt x.toInt
    refine Go.aloadN 128 d3_127 rfl rfl rfl ?_
    refine Go.getf 131 (hw _ (List.mem_of_getElem? (i := 10) rfl)) H0.1.2.1 d3_128 rfl ?_
    refine Go.iload 133 d3_131 rfl rfl ?_
    refine Go.dloadN 134 d3_133 rfl rfl ?_
    refine Go.dastore 135 H0.2.1 (i := 2) (by decide) (in5 (by decide)) H0.2.2.2.2.2.1 d3_134 rfl ?_
    intro h9 K9 A9
    have H9 : SH Z n0 h9 a kb sb tD tI (3 : Int32) x0 x1 x x3 x4 x0 x1 x2 x3 x4 := H0.kset K9 A9
    refine Go.aloadN 136 d3_135 rfl rfl rfl ?_
    refine Go.getf 139 (hw _ (List.mem_of_getElem? (i := 13) rfl)) H9.1.2.2.1 d3_136 rfl ?_
    refine Go.iload 141 d3_139 rfl rfl ?_
    refine Go.iloadN 142 d3_141 rfl rfl ?_
    refine Go.iastore 143 H9.2.2.1 (i := 2) (by decide) (in5 (by decide)) H9.2.2.2.2.2.2.1 d3_142 rfl ?_
    intro h10 K10 A10
    have H10 : SH Z n0 h10 a kb sb tD tI (3 : Int32) x0 x1 x x3 x4 x0 x1 x x3 x4 := H9.sset K10 A10
    exact Go.ret d3_143 rfl (by decide) (by decide) ⟨rfl, x0, x1, x, x3, x4, H10, by omega, by omega, fun f => by omega⟩
  · have := sg_cases x0.toInt x.toInt
    refine Go.aloadN 81 d3_80 rfl rfl rfl ?_
    refine Go.getf 84 (hw _ (List.mem_of_getElem? (i := 10) rfl)) H0.1.2.1 d3_81 rfl ?_
    refine Go.iload 86 d3_84 rfl rfl ?_
    refine Go.aloadN 87 d3_86 rfl rfl rfl ?_
    refine Go.getf 90 (hw _ (List.mem_of_getElem? (i := 10) rfl)) H0.1.2.1 d3_87 rfl ?_
    refine Go.iload 92 d3_90 rfl rfl ?_
    refine Go.iconst 93 (1 : Int32) d3_92 rfl (by decide) ?_
    refine Go.isub 94 (1 : Int32) d3_93 rfl (by decide) ?_
    refine Go.iconst 95 (2 : Int32) d3_94 rfl (by decide) ?_
    refine Go.idiv 96 (0 : Int32) d3_95 rfl (by decide) (by decide) ?_
    refine Go.daload 97 H0.2.1 (i := 0) (by decide) rfl d3_96 rfl ?_
    refine Go.dastore 98 H0.2.1 (i := 2) (by decide) (in5 (by decide)) H0.2.2.2.2.2.1 d3_97 rfl ?_
    intro h11 K11 A11
    have H11 : SH Z n0 h11 a kb sb tD tI (3 : Int32) x0 x1 x0 x3 x4 x0 x1 x2 x3 x4 := H0.kset K11 A11
    refine Go.aloadN 99 d3_98 rfl rfl rfl ?_
    refine Go.getf 102 (hw _ (List.mem_of_getElem? (i := 13) rfl)) H11.1.2.2.1 d3_99 rfl ?_
    refine Go.iload 104 d3_102 rfl rfl ?_
    refine Go.aloadN 105 d3_104 rfl rfl rfl ?_
    refine Go.getf 108 (hw _ (List.mem_of_getElem? (i := 13) rfl)) H11.1.2.2.1 d3_105 rfl ?_
    refine Go.iload 110 d3_108 rfl rfl ?_
    refine Go.iconst 111 (1 : Int32) d3_110 rfl (by decide) ?_
    refine Go.isub 112 (1 : Int32) d3_111 rfl (by decide) ?_
    refine Go.iconst 113 (2 : Int32) d3_112 rfl (by decide) ?_
    refine Go.idiv 114 (0 : Int32) d3_113 rfl (by decide) (by decide) ?_
    refine Go.iaload 115 H11.2.2.1 (i := 0) (by decide) rfl d3_114 rfl ?_
    refine Go.iastore 116 H11.2.2.1 (i := 2) (by decide) (in5 (by decide)) H11.2.2.2.2.2.2.1 d3_115 rfl ?_
    intro h12 K12 A12
    have H12 : SH Z n0 h12 a kb sb tD tI (3 : Int32) x0 x1 x0 x3 x4 x0 x1 x0 x3 x4 := H11.sset K12 A12
    refine Go.iload 118 d3_116 rfl rfl ?_
    refine Go.iconst 119 (1 : Int32) d3_118 rfl (by decide) ?_
    refine Go.isub 120 (1 : Int32) d3_119 rfl (by decide) ?_
    refine Go.iconst 121 (2 : Int32) d3_120 rfl (by decide) ?_
    refine Go.idiv 122 (0 : Int32) d3_121 rfl (by decide) (by decide) ?_
    refine Go.istore 124 #[.val (.ref a), .val (.double (FP.i2d x)), .second, .val (.int x), .val (.int (0 : Int32))] d3_122 rfl rfl ?_
    refine Go.goto 59 d3_124 (by decide) (by decide) ?_
    refine Go.iload 61 d3_59 rfl rfl ?_
    refine Go.ifCT 127 d3_61 (by decide) (by decide) (show (0 : Int) ≤ 0 from by decide) ?_
    refine Go.aloadN 128 d3_127 rfl rfl rfl ?_
    refine Go.getf 131 (hw _ (List.mem_of_getElem? (i := 10) rfl)) H12.1.2.1 d3_128 rfl ?_
    refine Go.iload 133 d3_131 rfl rfl ?_
    refine Go.dloadN 134 d3_133 rfl rfl ?_
    refine Go.dastore 135 H12.2.1 (i := 0) (by decide) (in5 (by decide)) H12.2.2.2.2.2.1 d3_134 rfl ?_
    intro h13 K13 A13
    have H13 : SH Z n0 h13 a kb sb tD tI (3 : Int32) x x1 x0 x3 x4 x0 x1 x0 x3 x4 := H12.kset K13 A13
    refine Go.aloadN 136 d3_135 rfl rfl rfl ?_
    refine Go.getf 139 (hw _ (List.mem_of_getElem? (i := 13) rfl)) H13.1.2.2.1 d3_136 rfl ?_
    refine Go.iload 141 d3_139 rfl rfl ?_
    refine Go.iloadN 142 d3_141 rfl rfl ?_
    refine Go.iastore 143 H13.2.2.1 (i := 0) (by decide) (in5 (by decide)) H13.2.2.2.2.2.2.1 d3_142 rfl ?_
    intro h14 K14 A14
    have H14 : SH Z n0 h14 a kb sb tD tI (3 : Int32) x x1 x0 x3 x4 x x1 x0 x3 x4 := H13.sset K14 A14
    exact Go.ret d3_143 rfl (by decide) (by decide) ⟨rfl, x, x1, x0, x3, x4, H14, by omega, by omega, fun f => by omega⟩
set_option maxRecDepth 65536 in
set_option maxHeartbeats 40000000 in
theorem push_3 (l : Launch) (Z : State) (a0 : Array Value) (hw : ∀ d ∈ tables_1, d.before a0 Z = true) {n0 : Nat} {h : Heap} {a kb sb : Nat} {tD : List UInt64} {tI : List Int32} {x0 x1 x2 x3 x4 : Int32} (x : Int32) (H : SH Z n0 h a kb sb tD tI (3 : Int32) x0 x1 x2 x3 x4 x0 x1 x2 x3 x4) (p0 : x1.toInt ≤ x0.toInt) (p1 : x2.toInt ≤ x0.toInt) :
    Go l Z ({ frames := 0, cells := 0, slots := 0, locals := 0 } : Room) ((⟨"com/example/mardec/mardec/explicit/StateHeap", "push", "(DI)V"⟩ : MethodName), prog_47_method_3_code, 5, none) n0 (fun v h' => v = none ∧ ∃ y0 y1 y2 y3 y4, SH Z n0 h' a kb sb tD tI (4 : Int32) y0 y1 y2 y3 y4 y0 y1 y2 y3 y4 ∧ y1.toInt ≤ y0.toInt ∧ y2.toInt ≤ y0.toInt ∧ y3.toInt ≤ y1.toInt ∧ ∀ f : Int32 → Nat, f y0 + f y1 + f y2 + f y3 = f x0 + f x1 + f x2 + f x) h 0 0 0 #[.val (.ref a), .val (.double (FP.i2d x)), .second, .val (.int x), .unset] [] := by
  refine Go.aloadN 1 d3_0 rfl rfl rfl ?_
  refine Go.getf 4 (hw _ (List.mem_of_getElem? (i := 20) rfl)) H.1.2.2.2 d3_1 rfl ?_
  refine Go.aloadN 5 d3_4 rfl rfl rfl ?_
  refine Go.getf 8 (hw _ (List.mem_of_getElem? (i := 10) rfl)) H.1.2.1 d3_5 rfl ?_
  refine Go.alen 9 64 H.2.1 (by rw [List.length_map, List.length_append, H.2.2.2.2.2.2.2]; rfl) d3_8 rfl ?_
  refine Go.icmpT 46 d3_9 (by decide) (by decide) (show (3 : Int) ≠ (64 : Int) from by decide) ?_
  refine Go.aloadN 47 d3_46 rfl rfl rfl ?_
  refine Go.dup 48 d3_47 rfl rfl ?_
  refine Go.getf 51 (hw _ (List.mem_of_getElem? (i := 20) rfl)) H.1.2.2.2 d3_48 rfl ?_
  refine Go.dupX1 52 d3_51 rfl rfl rfl ?_
  refine Go.iconst 53 (1 : Int32) d3_52 rfl (by decide) ?_
  refine Go.iadd 54 (4 : Int32) d3_53 rfl (by decide) ?_
  refine Go.putF 57 (hw _ (List.mem_of_getElem? (i := 20) rfl)) H.1.2.2.2 H.1.1 (Or.inl (hw _ (List.mem_of_getElem? (i := 21) rfl))) (hw _ (List.mem_of_getElem? (i := 1) rfl)) (ty := .int) (by decide) rfl rfl H.2.2.2.2.1 d3_54 rfl ?_
  intro h0 W0
  have H0 := H.nset a0 hw W0
  refine Go.istore 59 #[.val (.ref a), .val (.double (FP.i2d x)), .second, .val (.int x), .val (.int (3 : Int32))] d3_57 rfl rfl ?_
  refine Go.iload 61 d3_59 rfl rfl ?_
  refine Go.ifCF 64 d3_61 rfl (show 0 < (3 : Int) from by decide) ?_
  refine Go.aloadN 65 d3_64 rfl rfl rfl ?_
  refine Go.getf 68 (hw _ (List.mem_of_getElem? (i := 10) rfl)) H0.1.2.1 d3_65 rfl ?_
  refine Go.iload 70 d3_68 rfl rfl ?_
  refine Go.iconst 71 (1 : Int32) d3_70 rfl (by decide) ?_
  refine Go.isub 72 (2 : Int32) d3_71 rfl (by decide) ?_
  refine Go.iconst 73 (2 : Int32) d3_72 rfl (by decide) ?_
  refine Go.idiv 74 (1 : Int32) d3_73 rfl (by decide) (by decide) ?_
  refine Go.daload 75 H0.2.1 (i := 1) (by decide) rfl d3_74 rfl ?_
  refine Go.dloadN 76 d3_75 rfl rfl ?_
  refine Go.dcmp 77 (sg x1.toInt x.toInt) d3_76 rfl (cmpI (FP.Core.i2d_int _) (FP.Core.i2d_int _) _) ?_
  refine Go.ifCB 127 80 d3_77 (by decide) (by decide) rfl (fun (hc : 0 ≤ ((sg x1.toInt x.toInt)).toInt) => ?_) (fun (hc : ((sg x1.toInt x.toInt)).toInt < 0) => ?_)
  · have := sg_cases x1.toInt x.toInt
    refine Go.aloadN 128 d3_127 rfl rfl rfl ?_
    refine Go.getf 131 (hw _ (List.mem_of_getElem? (i := 10) rfl)) H0.1.2.1 d3_128 rfl ?_
    refine Go.iload 133 d3_131 rfl rfl ?_
    refine Go.dloadN 134 d3_133 rfl rfl ?_
    refine Go.dastore 135 H0.2.1 (i := 3) (by decide) (in5 (by decide)) H0.2.2.2.2.2.1 d3_134 rfl ?_
    intro h15 K15 A15
    have H15 : SH Z n0 h15 a kb sb tD tI (4 : Int32) x0 x1 x2 x x4 x0 x1 x2 x3 x4 := H0.kset K15 A15
    refine Go.aloadN 136 d3_135 rfl rfl rfl ?_
    refine Go.getf 139 (hw _ (List.mem_of_getElem? (i := 13) rfl)) H15.1.2.2.1 d3_136 rfl ?_
    refine Go.iload 141 d3_139 rfl rfl ?_
    refine Go.iloadN 142 d3_141 rfl rfl ?_
    refine Go.iastore 143 H15.2.2.1 (i := 3) (by decide) (in5 (by decide)) H15.2.2.2.2.2.2.1 d3_142 rfl ?_
    intro h16 K16 A16
    have H16 : SH Z n0 h16 a kb sb tD tI (4 : Int32) x0 x1 x2 x x4 x0 x1 x2 x x4 := H15.sset K16 A16
    exact Go.ret d3_143 rfl (by decide) (by decide) ⟨rfl, x0, x1, x2, x, x4, H16, by omega, by omega, by omega, fun f => by omega⟩
  · have := sg_cases x1.toInt x.toInt
    refine Go.aloadN 81 d3_80 rfl rfl rfl ?_
    refine Go.getf 84 (hw _ (List.mem_of_getElem? (i := 10) rfl)) H0.1.2.1 d3_81 rfl ?_
    refine Go.iload 86 d3_84 rfl rfl ?_
    refine Go.aloadN 87 d3_86 rfl rfl rfl ?_
    refine Go.getf 90 (hw _ (List.mem_of_getElem? (i := 10) rfl)) H0.1.2.1 d3_87 rfl ?_
    refine Go.iload 92 d3_90 rfl rfl ?_
    refine Go.iconst 93 (1 : Int32) d3_92 rfl (by decide) ?_
    refine Go.isub 94 (2 : Int32) d3_93 rfl (by decide) ?_
    refine Go.iconst 95 (2 : Int32) d3_94 rfl (by decide) ?_
    refine Go.idiv 96 (1 : Int32) d3_95 rfl (by decide) (by decide) ?_
    refine Go.daload 97 H0.2.1 (i := 1) (by decide) rfl d3_96 rfl ?_
    refine Go.dastore 98 H0.2.1 (i := 3) (by decide) (in5 (by decide)) H0.2.2.2.2.2.1 d3_97 rfl ?_
    intro h17 K17 A17
    have H17 : SH Z n0 h17 a kb sb tD tI (4 : Int32) x0 x1 x2 x1 x4 x0 x1 x2 x3 x4 := H0.kset K17 A17
    refine Go.aloadN 99 d3_98 rfl rfl rfl ?_
    refine Go.getf 102 (hw _ (List.mem_of_getElem? (i := 13) rfl)) H17.1.2.2.1 d3_99 rfl ?_
    refine Go.iload 104 d3_102 rfl rfl ?_
    refine Go.aloadN 105 d3_104 rfl rfl rfl ?_
    refine Go.getf 108 (hw _ (List.mem_of_getElem? (i := 13) rfl)) H17.1.2.2.1 d3_105 rfl ?_
    refine Go.iload 110 d3_108 rfl rfl ?_
    refine Go.iconst 111 (1 : Int32) d3_110 rfl (by decide) ?_
    refine Go.isub 112 (2 : Int32) d3_111 rfl (by decide) ?_
    refine Go.iconst 113 (2 : Int32) d3_112 rfl (by decide) ?_
    refine Go.idiv 114 (1 : Int32) d3_113 rfl (by decide) (by decide) ?_
    refine Go.iaload 115 H17.2.2.1 (i := 1) (by decide) rfl d3_114 rfl ?_
    refine Go.iastore 116 H17.2.2.1 (i := 3) (by decide) (in5 (by decide)) H17.2.2.2.2.2.2.1 d3_115 rfl ?_
    intro h18 K18 A18
    have H18 : SH Z n0 h18 a kb sb tD tI (4 : Int32) x0 x1 x2 x1 x4 x0 x1 x2 x1 x4 := H17.sset K18 A18
    refine Go.iload 118 d3_116 rfl rfl ?_
    refine Go.iconst 119 (1 : Int32) d3_118 rfl (by decide) ?_
    refine Go.isub 120 (2 : Int32) d3_119 rfl (by decide) ?_
    refine Go.iconst 121 (2 : Int32) d3_120 rfl (by decide) ?_
    refine Go.idiv 122 (1 : Int32) d3_121 rfl (by decide) (by decide) ?_
    refine Go.istore 124 #[.val (.ref a), .val (.double (FP.i2d x)), .second, .val (.int x), .val (.int (1 : Int32))] d3_122 rfl rfl ?_
    refine Go.goto 59 d3_124 (by decide) (by decide) ?_
    refine Go.iload 61 d3_59 rfl rfl ?_
    refine Go.ifCF 64 d3_61 rfl (show 0 < (1 : Int) from by decide) ?_
    refine Go.aloadN 65 d3_64 rfl rfl rfl ?_
    refine Go.getf 68 (hw _ (List.mem_of_getElem? (i := 10) rfl)) H18.1.2.1 d3_65 rfl ?_
    refine Go.iload 70 d3_68 rfl rfl ?_
    refine Go.iconst 71 (1 : Int32) d3_70 rfl (by decide) ?_
    refine Go.isub 72 (0 : Int32) d3_71 rfl (by decide) ?_
    refine Go.iconst 73 (2 : Int32) d3_72 rfl (by decide) ?_
    refine Go.idiv 74 (0 : Int32) d3_73 rfl (by decide) (by decide) ?_
    refine Go.daload 75 H18.2.1 (i := 0) (by decide) rfl d3_74 rfl ?_
    refine Go.dloadN 76 d3_75 rfl rfl ?_
    refine Go.dcmp 77 (sg x0.toInt x.toInt) d3_76 rfl (cmpI (FP.Core.i2d_int _) (FP.Core.i2d_int _) _) ?_
    refine Go.ifCB 127 80 d3_77 (by decide) (by decide) rfl (fun (hc : 0 ≤ ((sg x0.toInt x.toInt)).toInt) => ?_) (fun (hc : ((sg x0.toInt x.toInt)).toInt < 0) => ?_)
    · have := sg_cases x0.toInt x.toInt
      refine Go.aloadN 128 d3_127 rfl rfl rfl ?_
      refine Go.getf 131 (hw _ (List.mem_of_getElem? (i := 10) rfl)) H18.1.2.1 d3_128 rfl ?_
      refine Go.iload 133 d3_131 rfl rfl ?_
      refine Go.dloadN 134 d3_133 rfl rfl ?_
      refine Go.dastore 135 H18.2.1 (i := 1) (by decide) (in5 (by decide)) H18.2.2.2.2.2.1 d3_134 rfl ?_
      intro h19 K19 A19
      have H19 : SH Z n0 h19 a kb sb tD tI (4 : Int32) x0 x x2 x1 x4 x0 x1 x2 x1 x4 := H18.kset K19 A19
      refine Go.aloadN 136 d3_135 rfl rfl rfl ?_
      refine Go.getf 139 (hw _ (List.mem_of_getElem? (i := 13) rfl)) H19.1.2.2.1 d3_136 rfl ?_
      refine Go.iload 141 d3_139 rfl rfl ?_
      refine Go.iloadN 142 d3_141 rfl rfl ?_
      refine Go.iastore 143 H19.2.2.1 (i := 1) (by decide) (in5 (by decide)) H19.2.2.2.2.2.2.1 d3_142 rfl ?_
      intro h20 K20 A20
      have H20 : SH Z n0 h20 a kb sb tD tI (4 : Int32) x0 x x2 x1 x4 x0 x x2 x1 x4 := H19.sset K20 A20
      exact Go.ret d3_143 rfl (by decide) (by decide) ⟨rfl, x0, x, x2, x1, x4, H20, by omega, by omega, by omega, fun f => by omega⟩
    · have := sg_cases x0.toInt x.toInt
      refine Go.aloadN 81 d3_80 rfl rfl rfl ?_
      refine Go.getf 84 (hw _ (List.mem_of_getElem? (i := 10) rfl)) H18.1.2.1 d3_81 rfl ?_
      refine Go.iload 86 d3_84 rfl rfl ?_
      refine Go.aloadN 87 d3_86 rfl rfl rfl ?_
      refine Go.getf 90 (hw _ (List.mem_of_getElem? (i := 10) rfl)) H18.1.2.1 d3_87 rfl ?_
      refine Go.iload 92 d3_90 rfl rfl ?_
      refine Go.iconst 93 (1 : Int32) d3_92 rfl (by decide) ?_
      refine Go.isub 94 (0 : Int32) d3_93 rfl (by decide) ?_
      refine Go.iconst 95 (2 : Int32) d3_94 rfl (by decide) ?_
      refine Go.idiv 96 (0 : Int32) d3_95 rfl (by decide) (by decide) ?_
      refine Go.daload 97 H18.2.1 (i := 0) (by decide) rfl d3_96 rfl ?_
      refine Go.dastore 98 H18.2.1 (i := 1) (by decide) (in5 (by decide)) H18.2.2.2.2.2.1 d3_97 rfl ?_
      intro h21 K21 A21
      have H21 : SH Z n0 h21 a kb sb tD tI (4 : Int32) x0 x0 x2 x1 x4 x0 x1 x2 x1 x4 := H18.kset K21 A21
      refine Go.aloadN 99 d3_98 rfl rfl rfl ?_
      refine Go.getf 102 (hw _ (List.mem_of_getElem? (i := 13) rfl)) H21.1.2.2.1 d3_99 rfl ?_
      refine Go.iload 104 d3_102 rfl rfl ?_
      refine Go.aloadN 105 d3_104 rfl rfl rfl ?_
      refine Go.getf 108 (hw _ (List.mem_of_getElem? (i := 13) rfl)) H21.1.2.2.1 d3_105 rfl ?_
      refine Go.iload 110 d3_108 rfl rfl ?_
      refine Go.iconst 111 (1 : Int32) d3_110 rfl (by decide) ?_
      refine Go.isub 112 (0 : Int32) d3_111 rfl (by decide) ?_
      refine Go.iconst 113 (2 : Int32) d3_112 rfl (by decide) ?_
      refine Go.idiv 114 (0 : Int32) d3_113 rfl (by decide) (by decide) ?_
      refine Go.iaload 115 H21.2.2.1 (i := 0) (by decide) rfl d3_114 rfl ?_
      refine Go.iastore 116 H21.2.2.1 (i := 1) (by decide) (in5 (by decide)) H21.2.2.2.2.2.2.1 d3_115 rfl ?_
      intro h22 K22 A22
      have H22 : SH Z n0 h22 a kb sb tD tI (4 : Int32) x0 x0 x2 x1 x4 x0 x0 x2 x1 x4 := H21.sset K22 A22
      refine Go.iload 118 d3_116 rfl rfl ?_
      refine Go.iconst 119 (1 : Int32) d3_118 rfl (by decide) ?_
      refine Go.isub 120 (0 : Int32) d3_119 rfl (by decide) ?_
      refine Go.iconst 121 (2 : Int32) d3_120 rfl (by decide) ?_
      refine Go.idiv 122 (0 : Int32) d3_121 rfl (by decide) (by decide) ?_
      refine Go.istore 124 #[.val (.ref a), .val (.double (FP.i2d x)), .second, .val (.int x), .val (.int (0 : Int32))] d3_122 rfl rfl ?_
      refine Go.goto 59 d3_124 (by decide) (by decide) ?_
      refine Go.iload 61 d3_59 rfl rfl ?_
      refine Go.ifCT 127 d3_61 (by decide) (by decide) (show (0 : Int) ≤ 0 from by decide) ?_
      refine Go.aloadN 128 d3_127 rfl rfl rfl ?_
      refine Go.getf 131 (hw _ (List.mem_of_getElem? (i := 10) rfl)) H22.1.2.1 d3_128 rfl ?_
      refine Go.iload 133 d3_131 rfl rfl ?_
      refine Go.dloadN 134 d3_133 rfl rfl ?_
      refine Go.dastore 135 H22.2.1 (i := 0) (by decide) (in5 (by decide)) H22.2.2.2.2.2.1 d3_134 rfl ?_
      intro h23 K23 A23
      have H23 : SH Z n0 h23 a kb sb tD tI (4 : Int32) x x0 x2 x1 x4 x0 x0 x2 x1 x4 := H22.kset K23 A23
      refine Go.aloadN 136 d3_135 rfl rfl rfl ?_
      refine Go.getf 139 (hw _ (List.mem_of_getElem? (i := 13) rfl)) H23.1.2.2.1 d3_136 rfl ?_
      refine Go.iload 141 d3_139 rfl rfl ?_
      refine Go.iloadN 142 d3_141 rfl rfl ?_
      refine Go.iastore 143 H23.2.2.1 (i := 0) (by decide) (in5 (by decide)) H23.2.2.2.2.2.2.1 d3_142 rfl ?_
      intro h24 K24 A24
      have H24 : SH Z n0 h24 a kb sb tD tI (4 : Int32) x x0 x2 x1 x4 x x0 x2 x1 x4 := H23.sset K24 A24
      exact Go.ret d3_143 rfl (by decide) (by decide) ⟨rfl, x, x0, x2, x1, x4, H24, by omega, by omega, by omega, fun f => by omega⟩
set_option maxRecDepth 65536 in
set_option maxHeartbeats 40000000 in
theorem push_4 (l : Launch) (Z : State) (a0 : Array Value) (hw : ∀ d ∈ tables_1, d.before a0 Z = true) {n0 : Nat} {h : Heap} {a kb sb : Nat} {tD : List UInt64} {tI : List Int32} {x0 x1 x2 x3 x4 : Int32} (x : Int32) (H : SH Z n0 h a kb sb tD tI (4 : Int32) x0 x1 x2 x3 x4 x0 x1 x2 x3 x4) (p0 : x1.toInt ≤ x0.toInt) (p1 : x2.toInt ≤ x0.toInt) (p2 : x3.toInt ≤ x1.toInt) :
    Go l Z ({ frames := 0, cells := 0, slots := 0, locals := 0 } : Room) ((⟨"com/example/mardec/mardec/explicit/StateHeap", "push", "(DI)V"⟩ : MethodName), prog_47_method_3_code, 5, none) n0 (fun v h' => v = none ∧ ∃ y0 y1 y2 y3 y4, SH Z n0 h' a kb sb tD tI (5 : Int32) y0 y1 y2 y3 y4 y0 y1 y2 y3 y4 ∧ y1.toInt ≤ y0.toInt ∧ y2.toInt ≤ y0.toInt ∧ y3.toInt ≤ y1.toInt ∧ y4.toInt ≤ y1.toInt ∧ ∀ f : Int32 → Nat, f y0 + f y1 + f y2 + f y3 + f y4 = f x0 + f x1 + f x2 + f x3 + f x) h 0 0 0 #[.val (.ref a), .val (.double (FP.i2d x)), .second, .val (.int x), .unset] [] := by
  refine Go.aloadN 1 d3_0 rfl rfl rfl ?_
  refine Go.getf 4 (hw _ (List.mem_of_getElem? (i := 20) rfl)) H.1.2.2.2 d3_1 rfl ?_
  refine Go.aloadN 5 d3_4 rfl rfl rfl ?_
  refine Go.getf 8 (hw _ (List.mem_of_getElem? (i := 10) rfl)) H.1.2.1 d3_5 rfl ?_
  refine Go.alen 9 64 H.2.1 (by rw [List.length_map, List.length_append, H.2.2.2.2.2.2.2]; rfl) d3_8 rfl ?_
  refine Go.icmpT 46 d3_9 (by decide) (by decide) (show (4 : Int) ≠ (64 : Int) from by decide) ?_
  refine Go.aloadN 47 d3_46 rfl rfl rfl ?_
  refine Go.dup 48 d3_47 rfl rfl ?_
  refine Go.getf 51 (hw _ (List.mem_of_getElem? (i := 20) rfl)) H.1.2.2.2 d3_48 rfl ?_
  refine Go.dupX1 52 d3_51 rfl rfl rfl ?_
  refine Go.iconst 53 (1 : Int32) d3_52 rfl (by decide) ?_
  refine Go.iadd 54 (5 : Int32) d3_53 rfl (by decide) ?_
  refine Go.putF 57 (hw _ (List.mem_of_getElem? (i := 20) rfl)) H.1.2.2.2 H.1.1 (Or.inl (hw _ (List.mem_of_getElem? (i := 21) rfl))) (hw _ (List.mem_of_getElem? (i := 1) rfl)) (ty := .int) (by decide) rfl rfl H.2.2.2.2.1 d3_54 rfl ?_
  intro h0 W0
  have H0 := H.nset a0 hw W0
  refine Go.istore 59 #[.val (.ref a), .val (.double (FP.i2d x)), .second, .val (.int x), .val (.int (4 : Int32))] d3_57 rfl rfl ?_
  refine Go.iload 61 d3_59 rfl rfl ?_
  refine Go.ifCF 64 d3_61 rfl (show 0 < (4 : Int) from by decide) ?_
  refine Go.aloadN 65 d3_64 rfl rfl rfl ?_
  refine Go.getf 68 (hw _ (List.mem_of_getElem? (i := 10) rfl)) H0.1.2.1 d3_65 rfl ?_
  refine Go.iload 70 d3_68 rfl rfl ?_
  refine Go.iconst 71 (1 : Int32) d3_70 rfl (by decide) ?_
  refine Go.isub 72 (3 : Int32) d3_71 rfl (by decide) ?_
  refine Go.iconst 73 (2 : Int32) d3_72 rfl (by decide) ?_
  refine Go.idiv 74 (1 : Int32) d3_73 rfl (by decide) (by decide) ?_
  refine Go.daload 75 H0.2.1 (i := 1) (by decide) rfl d3_74 rfl ?_
  refine Go.dloadN 76 d3_75 rfl rfl ?_
  refine Go.dcmp 77 (sg x1.toInt x.toInt) d3_76 rfl (cmpI (FP.Core.i2d_int _) (FP.Core.i2d_int _) _) ?_
  refine Go.ifCB 127 80 d3_77 (by decide) (by decide) rfl (fun (hc : 0 ≤ ((sg x1.toInt x.toInt)).toInt) => ?_) (fun (hc : ((sg x1.toInt x.toInt)).toInt < 0) => ?_)
  · have := sg_cases x1.toInt x.toInt
    refine Go.aloadN 128 d3_127 rfl rfl rfl ?_
    refine Go.getf 131 (hw _ (List.mem_of_getElem? (i := 10) rfl)) H0.1.2.1 d3_128 rfl ?_
    refine Go.iload 133 d3_131 rfl rfl ?_
    refine Go.dloadN 134 d3_133 rfl rfl ?_
    refine Go.dastore 135 H0.2.1 (i := 4) (by decide) (in5 (by decide)) H0.2.2.2.2.2.1 d3_134 rfl ?_
    intro h25 K25 A25
    have H25 : SH Z n0 h25 a kb sb tD tI (5 : Int32) x0 x1 x2 x3 x x0 x1 x2 x3 x4 := H0.kset K25 A25
    refine Go.aloadN 136 d3_135 rfl rfl rfl ?_
    refine Go.getf 139 (hw _ (List.mem_of_getElem? (i := 13) rfl)) H25.1.2.2.1 d3_136 rfl ?_
    refine Go.iload 141 d3_139 rfl rfl ?_
    refine Go.iloadN 142 d3_141 rfl rfl ?_
    refine Go.iastore 143 H25.2.2.1 (i := 4) (by decide) (in5 (by decide)) H25.2.2.2.2.2.2.1 d3_142 rfl ?_
    intro h26 K26 A26
    have H26 : SH Z n0 h26 a kb sb tD tI (5 : Int32) x0 x1 x2 x3 x x0 x1 x2 x3 x := H25.sset K26 A26
    exact Go.ret d3_143 rfl (by decide) (by decide) ⟨rfl, x0, x1, x2, x3, x, H26, by omega, by omega, by omega, by omega, fun f => by omega⟩
  · have := sg_cases x1.toInt x.toInt
    refine Go.aloadN 81 d3_80 rfl rfl rfl ?_
    refine Go.getf 84 (hw _ (List.mem_of_getElem? (i := 10) rfl)) H0.1.2.1 d3_81 rfl ?_
    refine Go.iload 86 d3_84 rfl rfl ?_
    refine Go.aloadN 87 d3_86 rfl rfl rfl ?_
    refine Go.getf 90 (hw _ (List.mem_of_getElem? (i := 10) rfl)) H0.1.2.1 d3_87 rfl ?_
    refine Go.iload 92 d3_90 rfl rfl ?_
    refine Go.iconst 93 (1 : Int32) d3_92 rfl (by decide) ?_
    refine Go.isub 94 (3 : Int32) d3_93 rfl (by decide) ?_
    refine Go.iconst 95 (2 : Int32) d3_94 rfl (by decide) ?_
    refine Go.idiv 96 (1 : Int32) d3_95 rfl (by decide) (by decide) ?_
    refine Go.daload 97 H0.2.1 (i := 1) (by decide) rfl d3_96 rfl ?_
    refine Go.dastore 98 H0.2.1 (i := 4) (by decide) (in5 (by decide)) H0.2.2.2.2.2.1 d3_97 rfl ?_
    intro h27 K27 A27
    have H27 : SH Z n0 h27 a kb sb tD tI (5 : Int32) x0 x1 x2 x3 x1 x0 x1 x2 x3 x4 := H0.kset K27 A27
    refine Go.aloadN 99 d3_98 rfl rfl rfl ?_
    refine Go.getf 102 (hw _ (List.mem_of_getElem? (i := 13) rfl)) H27.1.2.2.1 d3_99 rfl ?_
    refine Go.iload 104 d3_102 rfl rfl ?_
    refine Go.aloadN 105 d3_104 rfl rfl rfl ?_
    refine Go.getf 108 (hw _ (List.mem_of_getElem? (i := 13) rfl)) H27.1.2.2.1 d3_105 rfl ?_
    refine Go.iload 110 d3_108 rfl rfl ?_
    refine Go.iconst 111 (1 : Int32) d3_110 rfl (by decide) ?_
    refine Go.isub 112 (3 : Int32) d3_111 rfl (by decide) ?_
    refine Go.iconst 113 (2 : Int32) d3_112 rfl (by decide) ?_
    refine Go.idiv 114 (1 : Int32) d3_113 rfl (by decide) (by decide) ?_
    refine Go.iaload 115 H27.2.2.1 (i := 1) (by decide) rfl d3_114 rfl ?_
    refine Go.iastore 116 H27.2.2.1 (i := 4) (by decide) (in5 (by decide)) H27.2.2.2.2.2.2.1 d3_115 rfl ?_
    intro h28 K28 A28
    have H28 : SH Z n0 h28 a kb sb tD tI (5 : Int32) x0 x1 x2 x3 x1 x0 x1 x2 x3 x1 := H27.sset K28 A28
    refine Go.iload 118 d3_116 rfl rfl ?_
    refine Go.iconst 119 (1 : Int32) d3_118 rfl (by decide) ?_
    refine Go.isub 120 (3 : Int32) d3_119 rfl (by decide) ?_
    refine Go.iconst 121 (2 : Int32) d3_120 rfl (by decide) ?_
    refine Go.idiv 122 (1 : Int32) d3_121 rfl (by decide) (by decide) ?_
    refine Go.istore 124 #[.val (.ref a), .val (.double (FP.i2d x)), .second, .val (.int x), .val (.int (1 : Int32))] d3_122 rfl rfl ?_
    refine Go.goto 59 d3_124 (by decide) (by decide) ?_
    refine Go.iload 61 d3_59 rfl rfl ?_
    refine Go.ifCF 64 d3_61 rfl (show 0 < (1 : Int) from by decide) ?_
    refine Go.aloadN 65 d3_64 rfl rfl rfl ?_
    refine Go.getf 68 (hw _ (List.mem_of_getElem? (i := 10) rfl)) H28.1.2.1 d3_65 rfl ?_
    refine Go.iload 70 d3_68 rfl rfl ?_
    refine Go.iconst 71 (1 : Int32) d3_70 rfl (by decide) ?_
    refine Go.isub 72 (0 : Int32) d3_71 rfl (by decide) ?_
    refine Go.iconst 73 (2 : Int32) d3_72 rfl (by decide) ?_
    refine Go.idiv 74 (0 : Int32) d3_73 rfl (by decide) (by decide) ?_
    refine Go.daload 75 H28.2.1 (i := 0) (by decide) rfl d3_74 rfl ?_
    refine Go.dloadN 76 d3_75 rfl rfl ?_
    refine Go.dcmp 77 (sg x0.toInt x.toInt) d3_76 rfl (cmpI (FP.Core.i2d_int _) (FP.Core.i2d_int _) _) ?_
    refine Go.ifCB 127 80 d3_77 (by decide) (by decide) rfl (fun (hc : 0 ≤ ((sg x0.toInt x.toInt)).toInt) => ?_) (fun (hc : ((sg x0.toInt x.toInt)).toInt < 0) => ?_)
    · have := sg_cases x0.toInt x.toInt
      refine Go.aloadN 128 d3_127 rfl rfl rfl ?_
      refine Go.getf 131 (hw _ (List.mem_of_getElem? (i := 10) rfl)) H28.1.2.1 d3_128 rfl ?_
      refine Go.iload 133 d3_131 rfl rfl ?_
      refine Go.dloadN 134 d3_133 rfl rfl ?_
      refine Go.dastore 135 H28.2.1 (i := 1) (by decide) (in5 (by decide)) H28.2.2.2.2.2.1 d3_134 rfl ?_
      intro h29 K29 A29
      have H29 : SH Z n0 h29 a kb sb tD tI (5 : Int32) x0 x x2 x3 x1 x0 x1 x2 x3 x1 := H28.kset K29 A29
      refine Go.aloadN 136 d3_135 rfl rfl rfl ?_
      refine Go.getf 139 (hw _ (List.mem_of_getElem? (i := 13) rfl)) H29.1.2.2.1 d3_136 rfl ?_
      refine Go.iload 141 d3_139 rfl rfl ?_
      refine Go.iloadN 142 d3_141 rfl rfl ?_
      refine Go.iastore 143 H29.2.2.1 (i := 1) (by decide) (in5 (by decide)) H29.2.2.2.2.2.2.1 d3_142 rfl ?_
      intro h30 K30 A30
      have H30 : SH Z n0 h30 a kb sb tD tI (5 : Int32) x0 x x2 x3 x1 x0 x x2 x3 x1 := H29.sset K30 A30
      exact Go.ret d3_143 rfl (by decide) (by decide) ⟨rfl, x0, x, x2, x3, x1, H30, by omega, by omega, by omega, by omega, fun f => by omega⟩
    · have := sg_cases x0.toInt x.toInt
      refine Go.aloadN 81 d3_80 rfl rfl rfl ?_
      refine Go.getf 84 (hw _ (List.mem_of_getElem? (i := 10) rfl)) H28.1.2.1 d3_81 rfl ?_
      refine Go.iload 86 d3_84 rfl rfl ?_
      refine Go.aloadN 87 d3_86 rfl rfl rfl ?_
      refine Go.getf 90 (hw _ (List.mem_of_getElem? (i := 10) rfl)) H28.1.2.1 d3_87 rfl ?_
      refine Go.iload 92 d3_90 rfl rfl ?_
      refine Go.iconst 93 (1 : Int32) d3_92 rfl (by decide) ?_
      refine Go.isub 94 (0 : Int32) d3_93 rfl (by decide) ?_
      refine Go.iconst 95 (2 : Int32) d3_94 rfl (by decide) ?_
      refine Go.idiv 96 (0 : Int32) d3_95 rfl (by decide) (by decide) ?_
      refine Go.daload 97 H28.2.1 (i := 0) (by decide) rfl d3_96 rfl ?_
      refine Go.dastore 98 H28.2.1 (i := 1) (by decide) (in5 (by decide)) H28.2.2.2.2.2.1 d3_97 rfl ?_
      intro h31 K31 A31
      have H31 : SH Z n0 h31 a kb sb tD tI (5 : Int32) x0 x0 x2 x3 x1 x0 x1 x2 x3 x1 := H28.kset K31 A31
      refine Go.aloadN 99 d3_98 rfl rfl rfl ?_
      refine Go.getf 102 (hw _ (List.mem_of_getElem? (i := 13) rfl)) H31.1.2.2.1 d3_99 rfl ?_
      refine Go.iload 104 d3_102 rfl rfl ?_
      refine Go.aloadN 105 d3_104 rfl rfl rfl ?_
      refine Go.getf 108 (hw _ (List.mem_of_getElem? (i := 13) rfl)) H31.1.2.2.1 d3_105 rfl ?_
      refine Go.iload 110 d3_108 rfl rfl ?_
      refine Go.iconst 111 (1 : Int32) d3_110 rfl (by decide) ?_
      refine Go.isub 112 (0 : Int32) d3_111 rfl (by decide) ?_
      refine Go.iconst 113 (2 : Int32) d3_112 rfl (by decide) ?_
      refine Go.idiv 114 (0 : Int32) d3_113 rfl (by decide) (by decide) ?_
      refine Go.iaload 115 H31.2.2.1 (i := 0) (by decide) rfl d3_114 rfl ?_
      refine Go.iastore 116 H31.2.2.1 (i := 1) (by decide) (in5 (by decide)) H31.2.2.2.2.2.2.1 d3_115 rfl ?_
      intro h32 K32 A32
      have H32 : SH Z n0 h32 a kb sb tD tI (5 : Int32) x0 x0 x2 x3 x1 x0 x0 x2 x3 x1 := H31.sset K32 A32
      refine Go.iload 118 d3_116 rfl rfl ?_
      refine Go.iconst 119 (1 : Int32) d3_118 rfl (by decide) ?_
      refine Go.isub 120 (0 : Int32) d3_119 rfl (by decide) ?_
      refine Go.iconst 121 (2 : Int32) d3_120 rfl (by decide) ?_
      refine Go.idiv 122 (0 : Int32) d3_121 rfl (by decide) (by decide) ?_
      refine Go.istore 124 #[.val (.ref a), .val (.double (FP.i2d x)), .second, .val (.int x), .val (.int (0 : Int32))] d3_122 rfl rfl ?_
      refine Go.goto 59 d3_124 (by decide) (by decide) ?_
      refine Go.iload 61 d3_59 rfl rfl ?_
      refine Go.ifCT 127 d3_61 (by decide) (by decide) (show (0 : Int) ≤ 0 from by decide) ?_
      refine Go.aloadN 128 d3_127 rfl rfl rfl ?_
      refine Go.getf 131 (hw _ (List.mem_of_getElem? (i := 10) rfl)) H32.1.2.1 d3_128 rfl ?_
      refine Go.iload 133 d3_131 rfl rfl ?_
      refine Go.dloadN 134 d3_133 rfl rfl ?_
      refine Go.dastore 135 H32.2.1 (i := 0) (by decide) (in5 (by decide)) H32.2.2.2.2.2.1 d3_134 rfl ?_
      intro h33 K33 A33
      have H33 : SH Z n0 h33 a kb sb tD tI (5 : Int32) x x0 x2 x3 x1 x0 x0 x2 x3 x1 := H32.kset K33 A33
      refine Go.aloadN 136 d3_135 rfl rfl rfl ?_
      refine Go.getf 139 (hw _ (List.mem_of_getElem? (i := 13) rfl)) H33.1.2.2.1 d3_136 rfl ?_
      refine Go.iload 141 d3_139 rfl rfl ?_
      refine Go.iloadN 142 d3_141 rfl rfl ?_
      refine Go.iastore 143 H33.2.2.1 (i := 0) (by decide) (in5 (by decide)) H33.2.2.2.2.2.2.1 d3_142 rfl ?_
      intro h34 K34 A34
      have H34 : SH Z n0 h34 a kb sb tD tI (5 : Int32) x x0 x2 x3 x1 x x0 x2 x3 x1 := H33.sset K34 A34
      exact Go.ret d3_143 rfl (by decide) (by decide) ⟨rfl, x, x0, x2, x3, x1, H34, by omega, by omega, by omega, by omega, fun f => by omega⟩
set_option maxRecDepth 65536 in
set_option maxHeartbeats 40000000 in
theorem pop_5 (l : Launch) (Z : State) (a0 : Array Value) (hw : ∀ d ∈ tables_1, d.before a0 Z = true) {n0 : Nat} {h : Heap} {a kb sb : Nat} {tD : List UInt64} {tI : List Int32} {x0 x1 x2 x3 x4 : Int32} (H : SH Z n0 h a kb sb tD tI (5 : Int32) x0 x1 x2 x3 x4 x0 x1 x2 x3 x4) (p0 : x1.toInt ≤ x0.toInt) (p1 : x2.toInt ≤ x0.toInt) (p2 : x3.toInt ≤ x1.toInt) (p3 : x4.toInt ≤ x1.toInt) :
    Go l Z ({ frames := 0, cells := 0, slots := 0, locals := 0 } : Room) ((⟨"com/example/mardec/mardec/explicit/StateHeap", "pop", "()I"⟩ : MethodName), prog_47_method_5_code, 8, some .int) n0 (fun v h' => v = some (.int x0) ∧ ∃ y0 y1 y2 y3 y4, SH Z n0 h' a kb sb tD tI (4 : Int32) y0 y1 y2 y3 y4 y0 y1 y2 y3 y4 ∧ y1.toInt ≤ y0.toInt ∧ y2.toInt ≤ y0.toInt ∧ y3.toInt ≤ y1.toInt ∧ (∀ f : Int32 → Nat, f y0 + f y1 + f y2 + f y3 + f x0 = f x0 + f x1 + f x2 + f x3 + f x4) ∧ y0.toInt ≤ x0.toInt ∧ y1.toInt ≤ x0.toInt ∧ y2.toInt ≤ x0.toInt ∧ y3.toInt ≤ x0.toInt ∧ True) h 0 0 0 #[.val (.ref a), .unset, .unset, .unset, .unset, .unset, .unset, .unset] [] := by
  refine Go.aloadN 1 d4_0 rfl rfl rfl ?_
  refine Go.getf 4 (hw _ (List.mem_of_getElem? (i := 13) rfl)) H.1.2.2.1 d4_1 rfl ?_
  refine Go.iconst 5 (0 : Int32) d4_4 rfl (by decide) ?_
  refine Go.iaload 6 H.2.2.1 (i := 0) (by decide) rfl d4_5 rfl ?_
  refine Go.istoreN 7 #[.val (.ref a), .val (.int x0), .unset, .unset, .unset, .unset, .unset, .unset] d4_6 rfl rfl ?_
  refine Go.aloadN 8 d4_7 rfl rfl rfl ?_
  refine Go.dup 9 d4_8 rfl rfl ?_
  refine Go.getf 12 (hw _ (List.mem_of_getElem? (i := 20) rfl)) H.1.2.2.2 d4_9 rfl ?_
  refine Go.iconst 13 (1 : Int32) d4_12 rfl (by decide) ?_
  refine Go.isub 14 (4 : Int32) d4_13 rfl (by decide) ?_
  refine Go.putF 17 (hw _ (List.mem_of_getElem? (i := 20) rfl)) H.1.2.2.2 H.1.1 (Or.inl (hw _ (List.mem_of_getElem? (i := 21) rfl))) (hw _ (List.mem_of_getElem? (i := 1) rfl)) (ty := .int) (by decide) rfl rfl H.2.2.2.2.1 d4_14 rfl ?_
  intro h0 W0
  have H0 := H.nset a0 hw W0
  refine Go.aloadN 18 d4_17 rfl rfl rfl ?_
  refine Go.getf 21 (hw _ (List.mem_of_getElem? (i := 10) rfl)) H0.1.2.1 d4_18 rfl ?_
  refine Go.aloadN 22 d4_21 rfl rfl rfl ?_
  refine Go.getf 25 (hw _ (List.mem_of_getElem? (i := 20) rfl)) H0.1.2.2.2 d4_22 rfl ?_
  refine Go.daload 26 H0.2.1 (i := 4) (by decide) rfl d4_25 rfl ?_
  refine Go.dstoreN 27 #[.val (.ref a), .val (.int x0), .val (.double (FP.i2d x4)), .second, .unset, .unset, .unset, .unset] d4_26 rfl rfl ?_
  refine Go.aloadN 28 d4_27 rfl rfl rfl ?_
  refine Go.getf 31 (hw _ (List.mem_of_getElem? (i := 13) rfl)) H0.1.2.2.1 d4_28 rfl ?_
  refine Go.aloadN 32 d4_31 rfl rfl rfl ?_
  refine Go.getf 35 (hw _ (List.mem_of_getElem? (i := 20) rfl)) H0.1.2.2.2 d4_32 rfl ?_
  refine Go.iaload 36 H0.2.2.1 (i := 4) (by decide) rfl d4_35 rfl ?_
  refine Go.istore 38 #[.val (.ref a), .val (.int x0), .val (.double (FP.i2d x4)), .second, .val (.int x4), .unset, .unset, .unset] d4_36 rfl rfl ?_
  refine Go.iconst 39 (0 : Int32) d4_38 rfl (by decide) ?_
  refine Go.istore 41 #[.val (.ref a), .val (.int x0), .val (.double (FP.i2d x4)), .second, .val (.int x4), .val (.int (0 : Int32)), .unset, .unset] d4_39 rfl rfl ?_
  refine Go.iconst 42 (0 : Int32) d4_41 rfl (by decide) ?_
  refine Go.istore 44 #[.val (.ref a), .val (.int x0), .val (.double (FP.i2d x4)), .second, .val (.int x4), .val (.int (0 : Int32)), .val (.int (0 : Int32)), .unset] d4_42 rfl rfl ?_
  refine Go.iload 46 d4_44 rfl rfl ?_
  refine Go.ifCF 49 d4_46 rfl (show (0 : Int) = 0 from by decide) ?_
  refine Go.iconst 50 (2 : Int32) d4_49 rfl (by decide) ?_
  refine Go.iload 52 d4_50 rfl rfl ?_
  refine Go.imul 53 (0 : Int32) d4_52 rfl (by decide) ?_
  refine Go.iconst 54 (1 : Int32) d4_53 rfl (by decide) ?_
  refine Go.iadd 55 (1 : Int32) d4_54 rfl (by decide) ?_
  refine Go.istore 57 #[.val (.ref a), .val (.int x0), .val (.double (FP.i2d x4)), .second, .val (.int x4), .val (.int (0 : Int32)), .val (.int (0 : Int32)), .val (.int (1 : Int32))] d4_55 rfl rfl ?_
  refine Go.iload 59 d4_57 rfl rfl ?_
  refine Go.iconst 60 (1 : Int32) d4_59 rfl (by decide) ?_
  refine Go.iadd 61 (2 : Int32) d4_60 rfl (by decide) ?_
  refine Go.aloadN 62 d4_61 rfl rfl rfl ?_
  refine Go.getf 65 (hw _ (List.mem_of_getElem? (i := 20) rfl)) H0.1.2.2.2 d4_62 rfl ?_
  refine Go.icmpF 68 d4_65 rfl (show (2 : Int) < (4 : Int) from by decide) ?_
  refine Go.aloadN 69 d4_68 rfl rfl rfl ?_
  refine Go.getf 72 (hw _ (List.mem_of_getElem? (i := 10) rfl)) H0.1.2.1 d4_69 rfl ?_
  refine Go.iload 74 d4_72 rfl rfl ?_
  refine Go.iconst 75 (1 : Int32) d4_74 rfl (by decide) ?_
  refine Go.iadd 76 (2 : Int32) d4_75 rfl (by decide) ?_
  refine Go.daload 77 H0.2.1 (i := 2) (by decide) rfl d4_76 rfl ?_
  refine Go.aloadN 78 d4_77 rfl rfl rfl ?_
  refine Go.getf 81 (hw _ (List.mem_of_getElem? (i := 10) rfl)) H0.1.2.1 d4_78 rfl ?_
  refine Go.iload 83 d4_81 rfl rfl ?_
  refine Go.daload 84 H0.2.1 (i := 1) (by decide) rfl d4_83 rfl ?_
  refine Go.dcmp 85 (sg x2.toInt x1.toInt) d4_84 rfl (cmpI (FP.Core.i2d_int _) (FP.Core.i2d_int _) _) ?_
  refine Go.ifCB 91 88 d4_85 (by decide) (by decide) rfl (fun (hc : ((sg x2.toInt x1.toInt)).toInt ≤ 0) => ?_) (fun (hc : 0 < ((sg x2.toInt x1.toInt)).toInt) => ?_)
  · have := sg_cases x2.toInt x1.toInt
    refine Go.iload 93 d4_91 rfl rfl ?_
    refine Go.aloadN 94 d4_93 rfl rfl rfl ?_
    refine Go.getf 97 (hw _ (List.mem_of_getElem? (i := 20) rfl)) H0.1.2.2.2 d4_94 rfl ?_
    refine Go.icmpF 100 d4_97 rfl (show (1 : Int) < (4 : Int) from by decide) ?_
    refine Go.aloadN 101 d4_100 rfl rfl rfl ?_
    refine Go.getf 104 (hw _ (List.mem_of_getElem? (i := 10) rfl)) H0.1.2.1 d4_101 rfl ?_
    refine Go.iload 106 d4_104 rfl rfl ?_
    refine Go.daload 107 H0.2.1 (i := 1) (by decide) rfl d4_106 rfl ?_
    refine Go.dloadN 108 d4_107 rfl rfl ?_
    refine Go.dcmp 109 (sg x1.toInt x4.toInt) d4_108 rfl (cmpI (FP.Core.i2d_int _) (FP.Core.i2d_int _) _) ?_
    refine Go.ifCB 147 112 d4_109 (by decide) (by decide) rfl (fun (hc : ((sg x1.toInt x4.toInt)).toInt ≤ 0) => ?_) (fun (hc : 0 < ((sg x1.toInt x4.toInt)).toInt) => ?_)
    · have := sg_cases x1.toInt x4.toInt
      refine Go.iconst 148 (1 : Int32) d4_147 rfl (by decide) ?_
      refine Go.istore 150 #[.val (.ref a), .val (.int x0), .val (.double (FP.i2d x4)), .second, .val (.int x4), .val (.int (0 : Int32)), .val (.int (1 : Int32)), .val (.int (1 : Int32))] d4_148 rfl rfl ?_
      refine Go.goto 44 d4_150 (by decide) (by decide) ?_
      refine Go.iload 46 d4_44 rfl rfl ?_
      refine Go.ifCT 153 d4_46 (by decide) (by decide) (show (1 : Int) ≠ 0 from by decide) ?_
      refine Go.aloadN 154 d4_153 rfl rfl rfl ?_
      refine Go.getf 157 (hw _ (List.mem_of_getElem? (i := 10) rfl)) H0.1.2.1 d4_154 rfl ?_
      refine Go.iload 159 d4_157 rfl rfl ?_
      refine Go.dloadN 160 d4_159 rfl rfl ?_
      refine Go.dastore 161 H0.2.1 (i := 0) (by decide) (in5 (by decide)) H0.2.2.2.2.2.1 d4_160 rfl ?_
      intro h35 K35 A35
      have H35 : SH Z n0 h35 a kb sb tD tI (4 : Int32) x4 x1 x2 x3 x4 x0 x1 x2 x3 x4 := H0.kset K35 A35
      refine Go.aloadN 162 d4_161 rfl rfl rfl ?_
      refine Go.getf 165 (hw _ (List.mem_of_getElem? (i := 13) rfl)) H35.1.2.2.1 d4_162 rfl ?_
      refine Go.iload 167 d4_165 rfl rfl ?_
      refine Go.iload 169 d4_167 rfl rfl ?_
      refine Go.iastore 170 H35.2.2.1 (i := 0) (by decide) (in5 (by decide)) H35.2.2.2.2.2.2.1 d4_169 rfl ?_
      intro h36 K36 A36
      have H36 : SH Z n0 h36 a kb sb tD tI (4 : Int32) x4 x1 x2 x3 x4 x4 x1 x2 x3 x4 := H35.sset K36 A36
      refine Go.iloadN 171 d4_170 rfl rfl ?_
      exact Go.iret d4_171 rfl (by decide) (by decide) ⟨rfl, x4, x1, x2, x3, x4, H36, by omega, by omega, by omega, (fun f => by omega), by omega, by omega, by omega, by omega, trivial⟩
    · have := sg_cases x1.toInt x4.toInt
      refine Go.aloadN 113 d4_112 rfl rfl rfl ?_
      refine Go.getf 116 (hw _ (List.mem_of_getElem? (i := 10) rfl)) H0.1.2.1 d4_113 rfl ?_
      refine Go.iload 118 d4_116 rfl rfl ?_
      refine Go.aloadN 119 d4_118 rfl rfl rfl ?_
      refine Go.getf 122 (hw _ (List.mem_of_getElem? (i := 10) rfl)) H0.1.2.1 d4_119 rfl ?_
      refine Go.iload 124 d4_122 rfl rfl ?_
      refine Go.daload 125 H0.2.1 (i := 1) (by decide) rfl d4_124 rfl ?_
      refine Go.dastore 126 H0.2.1 (i := 0) (by decide) (in5 (by decide)) H0.2.2.2.2.2.1 d4_125 rfl ?_
      intro h37 K37 A37
      have H37 : SH Z n0 h37 a kb sb tD tI (4 : Int32) x1 x1 x2 x3 x4 x0 x1 x2 x3 x4 := H0.kset K37 A37
      refine Go.aloadN 127 d4_126 rfl rfl rfl ?_
      refine Go.getf 130 (hw _ (List.mem_of_getElem? (i := 13) rfl)) H37.1.2.2.1 d4_127 rfl ?_
      refine Go.iload 132 d4_130 rfl rfl ?_
      refine Go.aloadN 133 d4_132 rfl rfl rfl ?_
      refine Go.getf 136 (hw _ (List.mem_of_getElem? (i := 13) rfl)) H37.1.2.2.1 d4_133 rfl ?_
      refine Go.iload 138 d4_136 rfl rfl ?_
      refine Go.iaload 139 H37.2.2.1 (i := 1) (by decide) rfl d4_138 rfl ?_
      refine Go.iastore 140 H37.2.2.1 (i := 0) (by decide) (in5 (by decide)) H37.2.2.2.2.2.2.1 d4_139 rfl ?_
      intro h38 K38 A38
      have H38 : SH Z n0 h38 a kb sb tD tI (4 : Int32) x1 x1 x2 x3 x4 x1 x1 x2 x3 x4 := H37.sset K38 A38
      refine Go.iload 142 d4_140 rfl rfl ?_
      refine Go.istore 144 #[.val (.ref a), .val (.int x0), .val (.double (FP.i2d x4)), .second, .val (.int x4), .val (.int (1 : Int32)), .val (.int (0 : Int32)), .val (.int (1 : Int32))] d4_142 rfl rfl ?_
      refine Go.goto 150 d4_144 (by decide) (by decide) ?_
      refine Go.goto 44 d4_150 (by decide) (by decide) ?_
      refine Go.iload 46 d4_44 rfl rfl ?_
      refine Go.ifCF 49 d4_46 rfl (show (0 : Int) = 0 from by decide) ?_
      refine Go.iconst 50 (2 : Int32) d4_49 rfl (by decide) ?_
      refine Go.iload 52 d4_50 rfl rfl ?_
      refine Go.imul 53 (2 : Int32) d4_52 rfl (by decide) ?_
      refine Go.iconst 54 (1 : Int32) d4_53 rfl (by decide) ?_
      refine Go.iadd 55 (3 : Int32) d4_54 rfl (by decide) ?_
      refine Go.istore 57 #[.val (.ref a), .val (.int x0), .val (.double (FP.i2d x4)), .second, .val (.int x4), .val (.int (1 : Int32)), .val (.int (0 : Int32)), .val (.int (3 : Int32))] d4_55 rfl rfl ?_
      refine Go.iload 59 d4_57 rfl rfl ?_
      refine Go.iconst 60 (1 : Int32) d4_59 rfl (by decide) ?_
      refine Go.iadd 61 (4 : Int32) d4_60 rfl (by decide) ?_
      refine Go.aloadN 62 d4_61 rfl rfl rfl ?_
      refine Go.getf 65 (hw _ (List.mem_of_getElem? (i := 20) rfl)) H38.1.2.2.2 d4_62 rfl ?_
      refine Go.icmpT 91 d4_65 (by decide) (by decide) (show (4 : Int) ≤ (4 : Int) from by decide) ?_
      refine Go.iload 93 d4_91 rfl rfl ?_
      refine Go.aloadN 94 d4_93 rfl rfl rfl ?_
      refine Go.getf 97 (hw _ (List.mem_of_getElem? (i := 20) rfl)) H38.1.2.2.2 d4_94 rfl ?_
      refine Go.icmpF 100 d4_97 rfl (show (3 : Int) < (4 : Int) from by decide) ?_
      refine Go.aloadN 101 d4_100 rfl rfl rfl ?_
      refine Go.getf 104 (hw _ (List.mem_of_getElem? (i := 10) rfl)) H38.1.2.1 d4_101 rfl ?_
      refine Go.iload 106 d4_104 rfl rfl ?_
      refine Go.daload 107 H38.2.1 (i := 3) (by decide) rfl d4_106 rfl ?_
      refine Go.dloadN 108 d4_107 rfl rfl ?_
      refine Go.dcmp 109 (sg x3.toInt x4.toInt) d4_108 rfl (cmpI (FP.Core.i2d_int _) (FP.Core.i2d_int _) _) ?_
      refine Go.ifCB 147 112 d4_109 (by decide) (by decide) rfl (fun (hc : ((sg x3.toInt x4.toInt)).toInt ≤ 0) => ?_) (fun (hc : 0 < ((sg x3.toInt x4.toInt)).toInt) => ?_)
      · have := sg_cases x3.toInt x4.toInt
        refine Go.iconst 148 (1 : Int32) d4_147 rfl (by decide) ?_
        refine Go.istore 150 #[.val (.ref a), .val (.int x0), .val (.double (FP.i2d x4)), .second, .val (.int x4), .val (.int (1 : Int32)), .val (.int (1 : Int32)), .val (.int (3 : Int32))] d4_148 rfl rfl ?_
        refine Go.goto 44 d4_150 (by decide) (by decide) ?_
        refine Go.iload 46 d4_44 rfl rfl ?_
        refine Go.ifCT 153 d4_46 (by decide) (by decide) (show (1 : Int) ≠ 0 from by decide) ?_
        refine Go.aloadN 154 d4_153 rfl rfl rfl ?_
        refine Go.getf 157 (hw _ (List.mem_of_getElem? (i := 10) rfl)) H38.1.2.1 d4_154 rfl ?_
        refine Go.iload 159 d4_157 rfl rfl ?_
        refine Go.dloadN 160 d4_159 rfl rfl ?_
        refine Go.dastore 161 H38.2.1 (i := 1) (by decide) (in5 (by decide)) H38.2.2.2.2.2.1 d4_160 rfl ?_
        intro h39 K39 A39
        have H39 : SH Z n0 h39 a kb sb tD tI (4 : Int32) x1 x4 x2 x3 x4 x1 x1 x2 x3 x4 := H38.kset K39 A39
        refine Go.aloadN 162 d4_161 rfl rfl rfl ?_
        refine Go.getf 165 (hw _ (List.mem_of_getElem? (i := 13) rfl)) H39.1.2.2.1 d4_162 rfl ?_
        refine Go.iload 167 d4_165 rfl rfl ?_
        refine Go.iload 169 d4_167 rfl rfl ?_
        refine Go.iastore 170 H39.2.2.1 (i := 1) (by decide) (in5 (by decide)) H39.2.2.2.2.2.2.1 d4_169 rfl ?_
        intro h40 K40 A40
        have H40 : SH Z n0 h40 a kb sb tD tI (4 : Int32) x1 x4 x2 x3 x4 x1 x4 x2 x3 x4 := H39.sset K40 A40
        refine Go.iloadN 171 d4_170 rfl rfl ?_
        exact Go.iret d4_171 rfl (by decide) (by decide) ⟨rfl, x1, x4, x2, x3, x4, H40, by omega, by omega, by omega, (fun f => by omega), by omega, by omega, by omega, by omega, trivial⟩
      · have := sg_cases x3.toInt x4.toInt
        refine Go.aloadN 113 d4_112 rfl rfl rfl ?_
        refine Go.getf 116 (hw _ (List.mem_of_getElem? (i := 10) rfl)) H38.1.2.1 d4_113 rfl ?_
        refine Go.iload 118 d4_116 rfl rfl ?_
        refine Go.aloadN 119 d4_118 rfl rfl rfl ?_
        refine Go.getf 122 (hw _ (List.mem_of_getElem? (i := 10) rfl)) H38.1.2.1 d4_119 rfl ?_
        refine Go.iload 124 d4_122 rfl rfl ?_
        refine Go.daload 125 H38.2.1 (i := 3) (by decide) rfl d4_124 rfl ?_
        refine Go.dastore 126 H38.2.1 (i := 1) (by decide) (in5 (by decide)) H38.2.2.2.2.2.1 d4_125 rfl ?_
        intro h41 K41 A41
        have H41 : SH Z n0 h41 a kb sb tD tI (4 : Int32) x1 x3 x2 x3 x4 x1 x1 x2 x3 x4 := H38.kset K41 A41
        refine Go.aloadN 127 d4_126 rfl rfl rfl ?_
        refine Go.getf 130 (hw _ (List.mem_of_getElem? (i := 13) rfl)) H41.1.2.2.1 d4_127 rfl ?_
        refine Go.iload 132 d4_130 rfl rfl ?_
        refine Go.aloadN 133 d4_132 rfl rfl rfl ?_
        refine Go.getf 136 (hw _ (List.mem_of_getElem? (i := 13) rfl)) H41.1.2.2.1 d4_133 rfl ?_
        refine Go.iload 138 d4_136 rfl rfl ?_
        refine Go.iaload 139 H41.2.2.1 (i := 3) (by decide) rfl d4_138 rfl ?_
        refine Go.iastore 140 H41.2.2.1 (i := 1) (by decide) (in5 (by decide)) H41.2.2.2.2.2.2.1 d4_139 rfl ?_
        intro h42 K42 A42
        have H42 : SH Z n0 h42 a kb sb tD tI (4 : Int32) x1 x3 x2 x3 x4 x1 x3 x2 x3 x4 := H41.sset K42 A42
        refine Go.iload 142 d4_140 rfl rfl ?_
        refine Go.istore 144 #[.val (.ref a), .val (.int x0), .val (.double (FP.i2d x4)), .second, .val (.int x4), .val (.int (3 : Int32)), .val (.int (0 : Int32)), .val (.int (3 : Int32))] d4_142 rfl rfl ?_
        refine Go.goto 150 d4_144 (by decide) (by decide) ?_
        refine Go.goto 44 d4_150 (by decide) (by decide) ?_
        refine Go.iload 46 d4_44 rfl rfl ?_
        refine Go.ifCF 49 d4_46 rfl (show (0 : Int) = 0 from by decide) ?_
        refine Go.iconst 50 (2 : Int32) d4_49 rfl (by decide) ?_
        refine Go.iload 52 d4_50 rfl rfl ?_
        refine Go.imul 53 (6 : Int32) d4_52 rfl (by decide) ?_
        refine Go.iconst 54 (1 : Int32) d4_53 rfl (by decide) ?_
        refine Go.iadd 55 (7 : Int32) d4_54 rfl (by decide) ?_
        refine Go.istore 57 #[.val (.ref a), .val (.int x0), .val (.double (FP.i2d x4)), .second, .val (.int x4), .val (.int (3 : Int32)), .val (.int (0 : Int32)), .val (.int (7 : Int32))] d4_55 rfl rfl ?_
        refine Go.iload 59 d4_57 rfl rfl ?_
        refine Go.iconst 60 (1 : Int32) d4_59 rfl (by decide) ?_
        refine Go.iadd 61 (8 : Int32) d4_60 rfl (by decide) ?_
        refine Go.aloadN 62 d4_61 rfl rfl rfl ?_
        refine Go.getf 65 (hw _ (List.mem_of_getElem? (i := 20) rfl)) H42.1.2.2.2 d4_62 rfl ?_
        refine Go.icmpT 91 d4_65 (by decide) (by decide) (show (4 : Int) ≤ (8 : Int) from by decide) ?_
        refine Go.iload 93 d4_91 rfl rfl ?_
        refine Go.aloadN 94 d4_93 rfl rfl rfl ?_
        refine Go.getf 97 (hw _ (List.mem_of_getElem? (i := 20) rfl)) H42.1.2.2.2 d4_94 rfl ?_
        refine Go.icmpT 147 d4_97 (by decide) (by decide) (show (4 : Int) ≤ (7 : Int) from by decide) ?_
        refine Go.iconst 148 (1 : Int32) d4_147 rfl (by decide) ?_
        refine Go.istore 150 #[.val (.ref a), .val (.int x0), .val (.double (FP.i2d x4)), .second, .val (.int x4), .val (.int (3 : Int32)), .val (.int (1 : Int32)), .val (.int (7 : Int32))] d4_148 rfl rfl ?_
        refine Go.goto 44 d4_150 (by decide) (by decide) ?_
        refine Go.iload 46 d4_44 rfl rfl ?_
        refine Go.ifCT 153 d4_46 (by decide) (by decide) (show (1 : Int) ≠ 0 from by decide) ?_
        refine Go.aloadN 154 d4_153 rfl rfl rfl ?_
        refine Go.getf 157 (hw _ (List.mem_of_getElem? (i := 10) rfl)) H42.1.2.1 d4_154 rfl ?_
        refine Go.iload 159 d4_157 rfl rfl ?_
        refine Go.dloadN 160 d4_159 rfl rfl ?_
        refine Go.dastore 161 H42.2.1 (i := 3) (by decide) (in5 (by decide)) H42.2.2.2.2.2.1 d4_160 rfl ?_
        intro h43 K43 A43
        have H43 : SH Z n0 h43 a kb sb tD tI (4 : Int32) x1 x3 x2 x4 x4 x1 x3 x2 x3 x4 := H42.kset K43 A43
        refine Go.aloadN 162 d4_161 rfl rfl rfl ?_
        refine Go.getf 165 (hw _ (List.mem_of_getElem? (i := 13) rfl)) H43.1.2.2.1 d4_162 rfl ?_
        refine Go.iload 167 d4_165 rfl rfl ?_
        refine Go.iload 169 d4_167 rfl rfl ?_
        refine Go.iastore 170 H43.2.2.1 (i := 3) (by decide) (in5 (by decide)) H43.2.2.2.2.2.2.1 d4_169 rfl ?_
        intro h44 K44 A44
        have H44 : SH Z n0 h44 a kb sb tD tI (4 : Int32) x1 x3 x2 x4 x4 x1 x3 x2 x4 x4 := H43.sset K44 A44
        refine Go.iloadN 171 d4_170 rfl rfl ?_
        exact Go.iret d4_171 rfl (by decide) (by decide) ⟨rfl, x1, x3, x2, x4, x4, H44, by omega, by omega, by omega, (fun f => by omega), by omega, by omega, by omega, by omega, trivial⟩
  · have := sg_cases x2.toInt x1.toInt
    refine Go.iinc 91 #[.val (.ref a), .val (.int x0), .val (.double (FP.i2d x4)), .second, .val (.int x4), .val (.int (0 : Int32)), .val (.int (0 : Int32)), .val (.int (2 : Int32))] (2 : Int32) d4_88 rfl rfl (by decide) rfl ?_
    refine Go.iload 93 d4_91 rfl rfl ?_
    refine Go.aloadN 94 d4_93 rfl rfl rfl ?_
    refine Go.getf 97 (hw _ (List.mem_of_getElem? (i := 20) rfl)) H0.1.2.2.2 d4_94 rfl ?_
    refine Go.icmpF 100 d4_97 rfl (show (2 : Int) < (4 : Int) from by decide) ?_
    refine Go.aloadN 101 d4_100 rfl rfl rfl ?_
    refine Go.getf 104 (hw _ (List.mem_of_getElem? (i := 10) rfl)) H0.1.2.1 d4_101 rfl ?_
    refine Go.iload 106 d4_104 rfl rfl ?_
    refine Go.daload 107 H0.2.1 (i := 2) (by decide) rfl d4_106 rfl ?_
    refine Go.dloadN 108 d4_107 rfl rfl ?_
    refine Go.dcmp 109 (sg x2.toInt x4.toInt) d4_108 rfl (cmpI (FP.Core.i2d_int _) (FP.Core.i2d_int _) _) ?_
    refine Go.ifCB 147 112 d4_109 (by decide) (by decide) rfl (fun (hc : ((sg x2.toInt x4.toInt)).toInt ≤ 0) => ?_) (fun (hc : 0 < ((sg x2.toInt x4.toInt)).toInt) => ?_)
    · have := sg_cases x2.toInt x4.toInt
      refine Go.iconst 148 (1 : Int32) d4_147 rfl (by decide) ?_
      refine Go.istore 150 #[.val (.ref a), .val (.int x0), .val (.double (FP.i2d x4)), .second, .val (.int x4), .val (.int (0 : Int32)), .val (.int (1 : Int32)), .val (.int (2 : Int32))] d4_148 rfl rfl ?_
      refine Go.goto 44 d4_150 (by decide) (by decide) ?_
      refine Go.iload 46 d4_44 rfl rfl ?_
      refine Go.ifCT 153 d4_46 (by decide) (by decide) (show (1 : Int) ≠ 0 from by decide) ?_
      refine Go.aloadN 154 d4_153 rfl rfl rfl ?_
      refine Go.getf 157 (hw _ (List.mem_of_getElem? (i := 10) rfl)) H0.1.2.1 d4_154 rfl ?_
      refine Go.iload 159 d4_157 rfl rfl ?_
      refine Go.dloadN 160 d4_159 rfl rfl ?_
      refine Go.dastore 161 H0.2.1 (i := 0) (by decide) (in5 (by decide)) H0.2.2.2.2.2.1 d4_160 rfl ?_
      intro h45 K45 A45
      have H45 : SH Z n0 h45 a kb sb tD tI (4 : Int32) x4 x1 x2 x3 x4 x0 x1 x2 x3 x4 := H0.kset K45 A45
      refine Go.aloadN 162 d4_161 rfl rfl rfl ?_
      refine Go.getf 165 (hw _ (List.mem_of_getElem? (i := 13) rfl)) H45.1.2.2.1 d4_162 rfl ?_
      refine Go.iload 167 d4_165 rfl rfl ?_
      refine Go.iload 169 d4_167 rfl rfl ?_
      refine Go.iastore 170 H45.2.2.1 (i := 0) (by decide) (in5 (by decide)) H45.2.2.2.2.2.2.1 d4_169 rfl ?_
      intro h46 K46 A46
      have H46 : SH Z n0 h46 a kb sb tD tI (4 : Int32) x4 x1 x2 x3 x4 x4 x1 x2 x3 x4 := H45.sset K46 A46
      refine Go.iloadN 171 d4_170 rfl rfl ?_
      exact Go.iret d4_171 rfl (by decide) (by decide) ⟨rfl, x4, x1, x2, x3, x4, H46, by omega, by omega, by omega, (fun f => by omega), by omega, by omega, by omega, by omega, trivial⟩
    · have := sg_cases x2.toInt x4.toInt
      refine Go.aloadN 113 d4_112 rfl rfl rfl ?_
      refine Go.getf 116 (hw _ (List.mem_of_getElem? (i := 10) rfl)) H0.1.2.1 d4_113 rfl ?_
      refine Go.iload 118 d4_116 rfl rfl ?_
      refine Go.aloadN 119 d4_118 rfl rfl rfl ?_
      refine Go.getf 122 (hw _ (List.mem_of_getElem? (i := 10) rfl)) H0.1.2.1 d4_119 rfl ?_
      refine Go.iload 124 d4_122 rfl rfl ?_
      refine Go.daload 125 H0.2.1 (i := 2) (by decide) rfl d4_124 rfl ?_
      refine Go.dastore 126 H0.2.1 (i := 0) (by decide) (in5 (by decide)) H0.2.2.2.2.2.1 d4_125 rfl ?_
      intro h47 K47 A47
      have H47 : SH Z n0 h47 a kb sb tD tI (4 : Int32) x2 x1 x2 x3 x4 x0 x1 x2 x3 x4 := H0.kset K47 A47
      refine Go.aloadN 127 d4_126 rfl rfl rfl ?_
      refine Go.getf 130 (hw _ (List.mem_of_getElem? (i := 13) rfl)) H47.1.2.2.1 d4_127 rfl ?_
      refine Go.iload 132 d4_130 rfl rfl ?_
      refine Go.aloadN 133 d4_132 rfl rfl rfl ?_
      refine Go.getf 136 (hw _ (List.mem_of_getElem? (i := 13) rfl)) H47.1.2.2.1 d4_133 rfl ?_
      refine Go.iload 138 d4_136 rfl rfl ?_
      refine Go.iaload 139 H47.2.2.1 (i := 2) (by decide) rfl d4_138 rfl ?_
      refine Go.iastore 140 H47.2.2.1 (i := 0) (by decide) (in5 (by decide)) H47.2.2.2.2.2.2.1 d4_139 rfl ?_
      intro h48 K48 A48
      have H48 : SH Z n0 h48 a kb sb tD tI (4 : Int32) x2 x1 x2 x3 x4 x2 x1 x2 x3 x4 := H47.sset K48 A48
      refine Go.iload 142 d4_140 rfl rfl ?_
      refine Go.istore 144 #[.val (.ref a), .val (.int x0), .val (.double (FP.i2d x4)), .second, .val (.int x4), .val (.int (2 : Int32)), .val (.int (0 : Int32)), .val (.int (2 : Int32))] d4_142 rfl rfl ?_
      refine Go.goto 150 d4_144 (by decide) (by decide) ?_
      refine Go.goto 44 d4_150 (by decide) (by decide) ?_
      refine Go.iload 46 d4_44 rfl rfl ?_
      refine Go.ifCF 49 d4_46 rfl (show (0 : Int) = 0 from by decide) ?_
      refine Go.iconst 50 (2 : Int32) d4_49 rfl (by decide) ?_
      refine Go.iload 52 d4_50 rfl rfl ?_
      refine Go.imul 53 (4 : Int32) d4_52 rfl (by decide) ?_
      refine Go.iconst 54 (1 : Int32) d4_53 rfl (by decide) ?_
      refine Go.iadd 55 (5 : Int32) d4_54 rfl (by decide) ?_
      refine Go.istore 57 #[.val (.ref a), .val (.int x0), .val (.double (FP.i2d x4)), .second, .val (.int x4), .val (.int (2 : Int32)), .val (.int (0 : Int32)), .val (.int (5 : Int32))] d4_55 rfl rfl ?_
      refine Go.iload 59 d4_57 rfl rfl ?_
      refine Go.iconst 60 (1 : Int32) d4_59 rfl (by decide) ?_
      refine Go.iadd 61 (6 : Int32) d4_60 rfl (by decide) ?_
      refine Go.aloadN 62 d4_61 rfl rfl rfl ?_
      refine Go.getf 65 (hw _ (List.mem_of_getElem? (i := 20) rfl)) H48.1.2.2.2 d4_62 rfl ?_
      refine Go.icmpT 91 d4_65 (by decide) (by decide) (show (4 : Int) ≤ (6 : Int) from by decide) ?_
      refine Go.iload 93 d4_91 rfl rfl ?_
      refine Go.aloadN 94 d4_93 rfl rfl rfl ?_
      refine Go.getf 97 (hw _ (List.mem_of_getElem? (i := 20) rfl)) H48.1.2.2.2 d4_94 rfl ?_
      refine Go.icmpT 147 d4_97 (by decide) (by decide) (show (4 : Int) ≤ (5 : Int) from by decide) ?_
      refine Go.iconst 148 (1 : Int32) d4_147 rfl (by decide) ?_
      refine Go.istore 150 #[.val (.ref a), .val (.int x0), .val (.double (FP.i2d x4)), .second, .val (.int x4), .val (.int (2 : Int32)), .val (.int (1 : Int32)), .val (.int (5 : Int32))] d4_148 rfl rfl ?_
      refine Go.goto 44 d4_150 (by decide) (by decide) ?_
      refine Go.iload 46 d4_44 rfl rfl ?_
      refine Go.ifCT 153 d4_46 (by decide) (by decide) (show (1 : Int) ≠ 0 from by decide) ?_
      refine Go.aloadN 154 d4_153 rfl rfl rfl ?_
      refine Go.getf 157 (hw _ (List.mem_of_getElem? (i := 10) rfl)) H48.1.2.1 d4_154 rfl ?_
      refine Go.iload 159 d4_157 rfl rfl ?_
      refine Go.dloadN 160 d4_159 rfl rfl ?_
      refine Go.dastore 161 H48.2.1 (i := 2) (by decide) (in5 (by decide)) H48.2.2.2.2.2.1 d4_160 rfl ?_
      intro h49 K49 A49
      have H49 : SH Z n0 h49 a kb sb tD tI (4 : Int32) x2 x1 x4 x3 x4 x2 x1 x2 x3 x4 := H48.kset K49 A49
      refine Go.aloadN 162 d4_161 rfl rfl rfl ?_
      refine Go.getf 165 (hw _ (List.mem_of_getElem? (i := 13) rfl)) H49.1.2.2.1 d4_162 rfl ?_
      refine Go.iload 167 d4_165 rfl rfl ?_
      refine Go.iload 169 d4_167 rfl rfl ?_
      refine Go.iastore 170 H49.2.2.1 (i := 2) (by decide) (in5 (by decide)) H49.2.2.2.2.2.2.1 d4_169 rfl ?_
      intro h50 K50 A50
      have H50 : SH Z n0 h50 a kb sb tD tI (4 : Int32) x2 x1 x4 x3 x4 x2 x1 x4 x3 x4 := H49.sset K50 A50
      refine Go.iloadN 171 d4_170 rfl rfl ?_
      exact Go.iret d4_171 rfl (by decide) (by decide) ⟨rfl, x2, x1, x4, x3, x4, H50, by omega, by omega, by omega, (fun f => by omega), by omega, by omega, by omega, by omega, trivial⟩
set_option maxRecDepth 65536 in
set_option maxHeartbeats 40000000 in
theorem pop_4 (l : Launch) (Z : State) (a0 : Array Value) (hw : ∀ d ∈ tables_1, d.before a0 Z = true) {n0 : Nat} {h : Heap} {a kb sb : Nat} {tD : List UInt64} {tI : List Int32} {x0 x1 x2 x3 x4 : Int32} (H : SH Z n0 h a kb sb tD tI (4 : Int32) x0 x1 x2 x3 x4 x0 x1 x2 x3 x4) (p0 : x1.toInt ≤ x0.toInt) (p1 : x2.toInt ≤ x0.toInt) (p2 : x3.toInt ≤ x1.toInt) :
    Go l Z ({ frames := 0, cells := 0, slots := 0, locals := 0 } : Room) ((⟨"com/example/mardec/mardec/explicit/StateHeap", "pop", "()I"⟩ : MethodName), prog_47_method_5_code, 8, some .int) n0 (fun v h' => v = some (.int x0) ∧ ∃ y0 y1 y2 y3 y4, SH Z n0 h' a kb sb tD tI (3 : Int32) y0 y1 y2 y3 y4 y0 y1 y2 y3 y4 ∧ y1.toInt ≤ y0.toInt ∧ y2.toInt ≤ y0.toInt ∧ (∀ f : Int32 → Nat, f y0 + f y1 + f y2 + f x0 = f x0 + f x1 + f x2 + f x3) ∧ y0.toInt ≤ x0.toInt ∧ y1.toInt ≤ x0.toInt ∧ y2.toInt ≤ x0.toInt ∧ True) h 0 0 0 #[.val (.ref a), .unset, .unset, .unset, .unset, .unset, .unset, .unset] [] := by
  refine Go.aloadN 1 d4_0 rfl rfl rfl ?_
  refine Go.getf 4 (hw _ (List.mem_of_getElem? (i := 13) rfl)) H.1.2.2.1 d4_1 rfl ?_
  refine Go.iconst 5 (0 : Int32) d4_4 rfl (by decide) ?_
  refine Go.iaload 6 H.2.2.1 (i := 0) (by decide) rfl d4_5 rfl ?_
  refine Go.istoreN 7 #[.val (.ref a), .val (.int x0), .unset, .unset, .unset, .unset, .unset, .unset] d4_6 rfl rfl ?_
  refine Go.aloadN 8 d4_7 rfl rfl rfl ?_
  refine Go.dup 9 d4_8 rfl rfl ?_
  refine Go.getf 12 (hw _ (List.mem_of_getElem? (i := 20) rfl)) H.1.2.2.2 d4_9 rfl ?_
  refine Go.iconst 13 (1 : Int32) d4_12 rfl (by decide) ?_
  refine Go.isub 14 (3 : Int32) d4_13 rfl (by decide) ?_
  refine Go.putF 17 (hw _ (List.mem_of_getElem? (i := 20) rfl)) H.1.2.2.2 H.1.1 (Or.inl (hw _ (List.mem_of_getElem? (i := 21) rfl))) (hw _ (List.mem_of_getElem? (i := 1) rfl)) (ty := .int) (by decide) rfl rfl H.2.2.2.2.1 d4_14 rfl ?_
  intro h0 W0
  have H0 := H.nset a0 hw W0
  refine Go.aloadN 18 d4_17 rfl rfl rfl ?_
  refine Go.getf 21 (hw _ (List.mem_of_getElem? (i := 10) rfl)) H0.1.2.1 d4_18 rfl ?_
  refine Go.aloadN 22 d4_21 rfl rfl rfl ?_
  refine Go.getf 25 (hw _ (List.mem_of_getElem? (i := 20) rfl)) H0.1.2.2.2 d4_22 rfl ?_
  refine Go.daload 26 H0.2.1 (i := 3) (by decide) rfl d4_25 rfl ?_
  refine Go.dstoreN 27 #[.val (.ref a), .val (.int x0), .val (.double (FP.i2d x3)), .second, .unset, .unset, .unset, .unset] d4_26 rfl rfl ?_
  refine Go.aloadN 28 d4_27 rfl rfl rfl ?_
  refine Go.getf 31 (hw _ (List.mem_of_getElem? (i := 13) rfl)) H0.1.2.2.1 d4_28 rfl ?_
  refine Go.aloadN 32 d4_31 rfl rfl rfl ?_
  refine Go.getf 35 (hw _ (List.mem_of_getElem? (i := 20) rfl)) H0.1.2.2.2 d4_32 rfl ?_
  refine Go.iaload 36 H0.2.2.1 (i := 3) (by decide) rfl d4_35 rfl ?_
  refine Go.istore 38 #[.val (.ref a), .val (.int x0), .val (.double (FP.i2d x3)), .second, .val (.int x3), .unset, .unset, .unset] d4_36 rfl rfl ?_
  refine Go.iconst 39 (0 : Int32) d4_38 rfl (by decide) ?_
  refine Go.istore 41 #[.val (.ref a), .val (.int x0), .val (.double (FP.i2d x3)), .second, .val (.int x3), .val (.int (0 : Int32)), .unset, .unset] d4_39 rfl rfl ?_
  refine Go.iconst 42 (0 : Int32) d4_41 rfl (by decide) ?_
  refine Go.istore 44 #[.val (.ref a), .val (.int x0), .val (.double (FP.i2d x3)), .second, .val (.int x3), .val (.int (0 : Int32)), .val (.int (0 : Int32)), .unset] d4_42 rfl rfl ?_
  refine Go.iload 46 d4_44 rfl rfl ?_
  refine Go.ifCF 49 d4_46 rfl (show (0 : Int) = 0 from by decide) ?_
  refine Go.iconst 50 (2 : Int32) d4_49 rfl (by decide) ?_
  refine Go.iload 52 d4_50 rfl rfl ?_
  refine Go.imul 53 (0 : Int32) d4_52 rfl (by decide) ?_
  refine Go.iconst 54 (1 : Int32) d4_53 rfl (by decide) ?_
  refine Go.iadd 55 (1 : Int32) d4_54 rfl (by decide) ?_
  refine Go.istore 57 #[.val (.ref a), .val (.int x0), .val (.double (FP.i2d x3)), .second, .val (.int x3), .val (.int (0 : Int32)), .val (.int (0 : Int32)), .val (.int (1 : Int32))] d4_55 rfl rfl ?_
  refine Go.iload 59 d4_57 rfl rfl ?_
  refine Go.iconst 60 (1 : Int32) d4_59 rfl (by decide) ?_
  refine Go.iadd 61 (2 : Int32) d4_60 rfl (by decide) ?_
  refine Go.aloadN 62 d4_61 rfl rfl rfl ?_
  refine Go.getf 65 (hw _ (List.mem_of_getElem? (i := 20) rfl)) H0.1.2.2.2 d4_62 rfl ?_
  refine Go.icmpF 68 d4_65 rfl (show (2 : Int) < (3 : Int) from by decide) ?_
  refine Go.aloadN 69 d4_68 rfl rfl rfl ?_
  refine Go.getf 72 (hw _ (List.mem_of_getElem? (i := 10) rfl)) H0.1.2.1 d4_69 rfl ?_
  refine Go.iload 74 d4_72 rfl rfl ?_
  refine Go.iconst 75 (1 : Int32) d4_74 rfl (by decide) ?_
  refine Go.iadd 76 (2 : Int32) d4_75 rfl (by decide) ?_
  refine Go.daload 77 H0.2.1 (i := 2) (by decide) rfl d4_76 rfl ?_
  refine Go.aloadN 78 d4_77 rfl rfl rfl ?_
  refine Go.getf 81 (hw _ (List.mem_of_getElem? (i := 10) rfl)) H0.1.2.1 d4_78 rfl ?_
  refine Go.iload 83 d4_81 rfl rfl ?_
  refine Go.daload 84 H0.2.1 (i := 1) (by decide) rfl d4_83 rfl ?_
  refine Go.dcmp 85 (sg x2.toInt x1.toInt) d4_84 rfl (cmpI (FP.Core.i2d_int _) (FP.Core.i2d_int _) _) ?_
  refine Go.ifCB 91 88 d4_85 (by decide) (by decide) rfl (fun (hc : ((sg x2.toInt x1.toInt)).toInt ≤ 0) => ?_) (fun (hc : 0 < ((sg x2.toInt x1.toInt)).toInt) => ?_)
  · have := sg_cases x2.toInt x1.toInt
    refine Go.iload 93 d4_91 rfl rfl ?_
    refine Go.aloadN 94 d4_93 rfl rfl rfl ?_
    refine Go.getf 97 (hw _ (List.mem_of_getElem? (i := 20) rfl)) H0.1.2.2.2 d4_94 rfl ?_
    refine Go.icmpF 100 d4_97 rfl (show (1 : Int) < (3 : Int) from by decide) ?_
    refine Go.aloadN 101 d4_100 rfl rfl rfl ?_
    refine Go.getf 104 (hw _ (List.mem_of_getElem? (i := 10) rfl)) H0.1.2.1 d4_101 rfl ?_
    refine Go.iload 106 d4_104 rfl rfl ?_
    refine Go.daload 107 H0.2.1 (i := 1) (by decide) rfl d4_106 rfl ?_
    refine Go.dloadN 108 d4_107 rfl rfl ?_
    refine Go.dcmp 109 (sg x1.toInt x3.toInt) d4_108 rfl (cmpI (FP.Core.i2d_int _) (FP.Core.i2d_int _) _) ?_
    refine Go.ifCB 147 112 d4_109 (by decide) (by decide) rfl (fun (hc : ((sg x1.toInt x3.toInt)).toInt ≤ 0) => ?_) (fun (hc : 0 < ((sg x1.toInt x3.toInt)).toInt) => ?_)
    · have := sg_cases x1.toInt x3.toInt
      refine Go.iconst 148 (1 : Int32) d4_147 rfl (by decide) ?_
      refine Go.istore 150 #[.val (.ref a), .val (.int x0), .val (.double (FP.i2d x3)), .second, .val (.int x3), .val (.int (0 : Int32)), .val (.int (1 : Int32)), .val (.int (1 : Int32))] d4_148 rfl rfl ?_
      refine Go.goto 44 d4_150 (by decide) (by decide) ?_
      refine Go.iload 46 d4_44 rfl rfl ?_
      refine Go.ifCT 153 d4_46 (by decide) (by decide) (show (1 : Int) ≠ 0 from by decide) ?_
      refine Go.aloadN 154 d4_153 rfl rfl rfl ?_
      refine Go.getf 157 (hw _ (List.mem_of_getElem? (i := 10) rfl)) H0.1.2.1 d4_154 rfl ?_
      refine Go.iload 159 d4_157 rfl rfl ?_
      refine Go.dloadN 160 d4_159 rfl rfl ?_
      refine Go.dastore 161 H0.2.1 (i := 0) (by decide) (in5 (by decide)) H0.2.2.2.2.2.1 d4_160 rfl ?_
      intro h51 K51 A51
      have H51 : SH Z n0 h51 a kb sb tD tI (3 : Int32) x3 x1 x2 x3 x4 x0 x1 x2 x3 x4 := H0.kset K51 A51
      refine Go.aloadN 162 d4_161 rfl rfl rfl ?_
      refine Go.getf 165 (hw _ (List.mem_of_getElem? (i := 13) rfl)) H51.1.2.2.1 d4_162 rfl ?_
      refine Go.iload 167 d4_165 rfl rfl ?_
      refine Go.iload 169 d4_167 rfl rfl ?_
      refine Go.iastore 170 H51.2.2.1 (i := 0) (by decide) (in5 (by decide)) H51.2.2.2.2.2.2.1 d4_169 rfl ?_
      intro h52 K52 A52
      have H52 : SH Z n0 h52 a kb sb tD tI (3 : Int32) x3 x1 x2 x3 x4 x3 x1 x2 x3 x4 := H51.sset K52 A52
      refine Go.iloadN 171 d4_170 rfl rfl ?_
      exact Go.iret d4_171 rfl (by decide) (by decide) ⟨rfl, x3, x1, x2, x3, x4, H52, by omega, by omega, (fun f => by omega), by omega, by omega, by omega, trivial⟩
    · have := sg_cases x1.toInt x3.toInt
      refine Go.aloadN 113 d4_112 rfl rfl rfl ?_
      refine Go.getf 116 (hw _ (List.mem_of_getElem? (i := 10) rfl)) H0.1.2.1 d4_113 rfl ?_
      refine Go.iload 118 d4_116 rfl rfl ?_
      refine Go.aloadN 119 d4_118 rfl rfl rfl ?_
      refine Go.getf 122 (hw _ (List.mem_of_getElem? (i := 10) rfl)) H0.1.2.1 d4_119 rfl ?_
      refine Go.iload 124 d4_122 rfl rfl ?_
      refine Go.daload 125 H0.2.1 (i := 1) (by decide) rfl d4_124 rfl ?_
      refine Go.dastore 126 H0.2.1 (i := 0) (by decide) (in5 (by decide)) H0.2.2.2.2.2.1 d4_125 rfl ?_
      intro h53 K53 A53
      have H53 : SH Z n0 h53 a kb sb tD tI (3 : Int32) x1 x1 x2 x3 x4 x0 x1 x2 x3 x4 := H0.kset K53 A53
      refine Go.aloadN 127 d4_126 rfl rfl rfl ?_
      refine Go.getf 130 (hw _ (List.mem_of_getElem? (i := 13) rfl)) H53.1.2.2.1 d4_127 rfl ?_
      refine Go.iload 132 d4_130 rfl rfl ?_
      refine Go.aloadN 133 d4_132 rfl rfl rfl ?_
      refine Go.getf 136 (hw _ (List.mem_of_getElem? (i := 13) rfl)) H53.1.2.2.1 d4_133 rfl ?_
      refine Go.iload 138 d4_136 rfl rfl ?_
      refine Go.iaload 139 H53.2.2.1 (i := 1) (by decide) rfl d4_138 rfl ?_
      refine Go.iastore 140 H53.2.2.1 (i := 0) (by decide) (in5 (by decide)) H53.2.2.2.2.2.2.1 d4_139 rfl ?_
      intro h54 K54 A54
      have H54 : SH Z n0 h54 a kb sb tD tI (3 : Int32) x1 x1 x2 x3 x4 x1 x1 x2 x3 x4 := H53.sset K54 A54
      refine Go.iload 142 d4_140 rfl rfl ?_
      refine Go.istore 144 #[.val (.ref a), .val (.int x0), .val (.double (FP.i2d x3)), .second, .val (.int x3), .val (.int (1 : Int32)), .val (.int (0 : Int32)), .val (.int (1 : Int32))] d4_142 rfl rfl ?_
      refine Go.goto 150 d4_144 (by decide) (by decide) ?_
      refine Go.goto 44 d4_150 (by decide) (by decide) ?_
      refine Go.iload 46 d4_44 rfl rfl ?_
      refine Go.ifCF 49 d4_46 rfl (show (0 : Int) = 0 from by decide) ?_
      refine Go.iconst 50 (2 : Int32) d4_49 rfl (by decide) ?_
      refine Go.iload 52 d4_50 rfl rfl ?_
      refine Go.imul 53 (2 : Int32) d4_52 rfl (by decide) ?_
      refine Go.iconst 54 (1 : Int32) d4_53 rfl (by decide) ?_
      refine Go.iadd 55 (3 : Int32) d4_54 rfl (by decide) ?_
      refine Go.istore 57 #[.val (.ref a), .val (.int x0), .val (.double (FP.i2d x3)), .second, .val (.int x3), .val (.int (1 : Int32)), .val (.int (0 : Int32)), .val (.int (3 : Int32))] d4_55 rfl rfl ?_
      refine Go.iload 59 d4_57 rfl rfl ?_
      refine Go.iconst 60 (1 : Int32) d4_59 rfl (by decide) ?_
      refine Go.iadd 61 (4 : Int32) d4_60 rfl (by decide) ?_
      refine Go.aloadN 62 d4_61 rfl rfl rfl ?_
      refine Go.getf 65 (hw _ (List.mem_of_getElem? (i := 20) rfl)) H54.1.2.2.2 d4_62 rfl ?_
      refine Go.icmpT 91 d4_65 (by decide) (by decide) (show (3 : Int) ≤ (4 : Int) from by decide) ?_
      refine Go.iload 93 d4_91 rfl rfl ?_
      refine Go.aloadN 94 d4_93 rfl rfl rfl ?_
      refine Go.getf 97 (hw _ (List.mem_of_getElem? (i := 20) rfl)) H54.1.2.2.2 d4_94 rfl ?_
      refine Go.icmpT 147 d4_97 (by decide) (by decide) (show (3 : Int) ≤ (3 : Int) from by decide) ?_
      refine Go.iconst 148 (1 : Int32) d4_147 rfl (by decide) ?_
      refine Go.istore 150 #[.val (.ref a), .val (.int x0), .val (.double (FP.i2d x3)), .second, .val (.int x3), .val (.int (1 : Int32)), .val (.int (1 : Int32)), .val (.int (3 : Int32))] d4_148 rfl rfl ?_
      refine Go.goto 44 d4_150 (by decide) (by decide) ?_
      refine Go.iload 46 d4_44 rfl rfl ?_
      refine Go.ifCT 153 d4_46 (by decide) (by decide) (show (1 : Int) ≠ 0 from by decide) ?_
      refine Go.aloadN 154 d4_153 rfl rfl rfl ?_
      refine Go.getf 157 (hw _ (List.mem_of_getElem? (i := 10) rfl)) H54.1.2.1 d4_154 rfl ?_
      refine Go.iload 159 d4_157 rfl rfl ?_
      refine Go.dloadN 160 d4_159 rfl rfl ?_
      refine Go.dastore 161 H54.2.1 (i := 1) (by decide) (in5 (by decide)) H54.2.2.2.2.2.1 d4_160 rfl ?_
      intro h55 K55 A55
      have H55 : SH Z n0 h55 a kb sb tD tI (3 : Int32) x1 x3 x2 x3 x4 x1 x1 x2 x3 x4 := H54.kset K55 A55
      refine Go.aloadN 162 d4_161 rfl rfl rfl ?_
      refine Go.getf 165 (hw _ (List.mem_of_getElem? (i := 13) rfl)) H55.1.2.2.1 d4_162 rfl ?_
      refine Go.iload 167 d4_165 rfl rfl ?_
      refine Go.iload 169 d4_167 rfl rfl ?_
      refine Go.iastore 170 H55.2.2.1 (i := 1) (by decide) (in5 (by decide)) H55.2.2.2.2.2.2.1 d4_169 rfl ?_
      intro h56 K56 A56
      have H56 : SH Z n0 h56 a kb sb tD tI (3 : Int32) x1 x3 x2 x3 x4 x1 x3 x2 x3 x4 := H55.sset K56 A56
      refine Go.iloadN 171 d4_170 rfl rfl ?_
      exact Go.iret d4_171 rfl (by decide) (by decide) ⟨rfl, x1, x3, x2, x3, x4, H56, by omega, by omega, (fun f => by omega), by omega, by omega, by omega, trivial⟩
  · have := sg_cases x2.toInt x1.toInt
    refine Go.iinc 91 #[.val (.ref a), .val (.int x0), .val (.double (FP.i2d x3)), .second, .val (.int x3), .val (.int (0 : Int32)), .val (.int (0 : Int32)), .val (.int (2 : Int32))] (2 : Int32) d4_88 rfl rfl (by decide) rfl ?_
    refine Go.iload 93 d4_91 rfl rfl ?_
    refine Go.aloadN 94 d4_93 rfl rfl rfl ?_
    refine Go.getf 97 (hw _ (List.mem_of_getElem? (i := 20) rfl)) H0.1.2.2.2 d4_94 rfl ?_
    refine Go.icmpF 100 d4_97 rfl (show (2 : Int) < (3 : Int) from by decide) ?_
    refine Go.aloadN 101 d4_100 rfl rfl rfl ?_
    refine Go.getf 104 (hw _ (List.mem_of_getElem? (i := 10) rfl)) H0.1.2.1 d4_101 rfl ?_
    refine Go.iload 106 d4_104 rfl rfl ?_
    refine Go.daload 107 H0.2.1 (i := 2) (by decide) rfl d4_106 rfl ?_
    refine Go.dloadN 108 d4_107 rfl rfl ?_
    refine Go.dcmp 109 (sg x2.toInt x3.toInt) d4_108 rfl (cmpI (FP.Core.i2d_int _) (FP.Core.i2d_int _) _) ?_
    refine Go.ifCB 147 112 d4_109 (by decide) (by decide) rfl (fun (hc : ((sg x2.toInt x3.toInt)).toInt ≤ 0) => ?_) (fun (hc : 0 < ((sg x2.toInt x3.toInt)).toInt) => ?_)
    · have := sg_cases x2.toInt x3.toInt
      refine Go.iconst 148 (1 : Int32) d4_147 rfl (by decide) ?_
      refine Go.istore 150 #[.val (.ref a), .val (.int x0), .val (.double (FP.i2d x3)), .second, .val (.int x3), .val (.int (0 : Int32)), .val (.int (1 : Int32)), .val (.int (2 : Int32))] d4_148 rfl rfl ?_
      refine Go.goto 44 d4_150 (by decide) (by decide) ?_
      refine Go.iload 46 d4_44 rfl rfl ?_
      refine Go.ifCT 153 d4_46 (by decide) (by decide) (show (1 : Int) ≠ 0 from by decide) ?_
      refine Go.aloadN 154 d4_153 rfl rfl rfl ?_
      refine Go.getf 157 (hw _ (List.mem_of_getElem? (i := 10) rfl)) H0.1.2.1 d4_154 rfl ?_
      refine Go.iload 159 d4_157 rfl rfl ?_
      refine Go.dloadN 160 d4_159 rfl rfl ?_
      refine Go.dastore 161 H0.2.1 (i := 0) (by decide) (in5 (by decide)) H0.2.2.2.2.2.1 d4_160 rfl ?_
      intro h57 K57 A57
      have H57 : SH Z n0 h57 a kb sb tD tI (3 : Int32) x3 x1 x2 x3 x4 x0 x1 x2 x3 x4 := H0.kset K57 A57
      refine Go.aloadN 162 d4_161 rfl rfl rfl ?_
      refine Go.getf 165 (hw _ (List.mem_of_getElem? (i := 13) rfl)) H57.1.2.2.1 d4_162 rfl ?_
      refine Go.iload 167 d4_165 rfl rfl ?_
      refine Go.iload 169 d4_167 rfl rfl ?_
      refine Go.iastore 170 H57.2.2.1 (i := 0) (by decide) (in5 (by decide)) H57.2.2.2.2.2.2.1 d4_169 rfl ?_
      intro h58 K58 A58
      have H58 : SH Z n0 h58 a kb sb tD tI (3 : Int32) x3 x1 x2 x3 x4 x3 x1 x2 x3 x4 := H57.sset K58 A58
      refine Go.iloadN 171 d4_170 rfl rfl ?_
      exact Go.iret d4_171 rfl (by decide) (by decide) ⟨rfl, x3, x1, x2, x3, x4, H58, by omega, by omega, (fun f => by omega), by omega, by omega, by omega, trivial⟩
    · have := sg_cases x2.toInt x3.toInt
      refine Go.aloadN 113 d4_112 rfl rfl rfl ?_
      refine Go.getf 116 (hw _ (List.mem_of_getElem? (i := 10) rfl)) H0.1.2.1 d4_113 rfl ?_
      refine Go.iload 118 d4_116 rfl rfl ?_
      refine Go.aloadN 119 d4_118 rfl rfl rfl ?_
      refine Go.getf 122 (hw _ (List.mem_of_getElem? (i := 10) rfl)) H0.1.2.1 d4_119 rfl ?_
      refine Go.iload 124 d4_122 rfl rfl ?_
      refine Go.daload 125 H0.2.1 (i := 2) (by decide) rfl d4_124 rfl ?_
      refine Go.dastore 126 H0.2.1 (i := 0) (by decide) (in5 (by decide)) H0.2.2.2.2.2.1 d4_125 rfl ?_
      intro h59 K59 A59
      have H59 : SH Z n0 h59 a kb sb tD tI (3 : Int32) x2 x1 x2 x3 x4 x0 x1 x2 x3 x4 := H0.kset K59 A59
      refine Go.aloadN 127 d4_126 rfl rfl rfl ?_
      refine Go.getf 130 (hw _ (List.mem_of_getElem? (i := 13) rfl)) H59.1.2.2.1 d4_127 rfl ?_
      refine Go.iload 132 d4_130 rfl rfl ?_
      refine Go.aloadN 133 d4_132 rfl rfl rfl ?_
      refine Go.getf 136 (hw _ (List.mem_of_getElem? (i := 13) rfl)) H59.1.2.2.1 d4_133 rfl ?_
      refine Go.iload 138 d4_136 rfl rfl ?_
      refine Go.iaload 139 H59.2.2.1 (i := 2) (by decide) rfl d4_138 rfl ?_
      refine Go.iastore 140 H59.2.2.1 (i := 0) (by decide) (in5 (by decide)) H59.2.2.2.2.2.2.1 d4_139 rfl ?_
      intro h60 K60 A60
      have H60 : SH Z n0 h60 a kb sb tD tI (3 : Int32) x2 x1 x2 x3 x4 x2 x1 x2 x3 x4 := H59.sset K60 A60
      refine Go.iload 142 d4_140 rfl rfl ?_
      refine Go.istore 144 #[.val (.ref a), .val (.int x0), .val (.double (FP.i2d x3)), .second, .val (.int x3), .val (.int (2 : Int32)), .val (.int (0 : Int32)), .val (.int (2 : Int32))] d4_142 rfl rfl ?_
      refine Go.goto 150 d4_144 (by decide) (by decide) ?_
      refine Go.goto 44 d4_150 (by decide) (by decide) ?_
      refine Go.iload 46 d4_44 rfl rfl ?_
      refine Go.ifCF 49 d4_46 rfl (show (0 : Int) = 0 from by decide) ?_
      refine Go.iconst 50 (2 : Int32) d4_49 rfl (by decide) ?_
      refine Go.iload 52 d4_50 rfl rfl ?_
      refine Go.imul 53 (4 : Int32) d4_52 rfl (by decide) ?_
      refine Go.iconst 54 (1 : Int32) d4_53 rfl (by decide) ?_
      refine Go.iadd 55 (5 : Int32) d4_54 rfl (by decide) ?_
      refine Go.istore 57 #[.val (.ref a), .val (.int x0), .val (.double (FP.i2d x3)), .second, .val (.int x3), .val (.int (2 : Int32)), .val (.int (0 : Int32)), .val (.int (5 : Int32))] d4_55 rfl rfl ?_
      refine Go.iload 59 d4_57 rfl rfl ?_
      refine Go.iconst 60 (1 : Int32) d4_59 rfl (by decide) ?_
      refine Go.iadd 61 (6 : Int32) d4_60 rfl (by decide) ?_
      refine Go.aloadN 62 d4_61 rfl rfl rfl ?_
      refine Go.getf 65 (hw _ (List.mem_of_getElem? (i := 20) rfl)) H60.1.2.2.2 d4_62 rfl ?_
      refine Go.icmpT 91 d4_65 (by decide) (by decide) (show (3 : Int) ≤ (6 : Int) from by decide) ?_
      refine Go.iload 93 d4_91 rfl rfl ?_
      refine Go.aloadN 94 d4_93 rfl rfl rfl ?_
      refine Go.getf 97 (hw _ (List.mem_of_getElem? (i := 20) rfl)) H60.1.2.2.2 d4_94 rfl ?_
      refine Go.icmpT 147 d4_97 (by decide) (by decide) (show (3 : Int) ≤ (5 : Int) from by decide) ?_
      refine Go.iconst 148 (1 : Int32) d4_147 rfl (by decide) ?_
      refine Go.istore 150 #[.val (.ref a), .val (.int x0), .val (.double (FP.i2d x3)), .second, .val (.int x3), .val (.int (2 : Int32)), .val (.int (1 : Int32)), .val (.int (5 : Int32))] d4_148 rfl rfl ?_
      refine Go.goto 44 d4_150 (by decide) (by decide) ?_
      refine Go.iload 46 d4_44 rfl rfl ?_
      refine Go.ifCT 153 d4_46 (by decide) (by decide) (show (1 : Int) ≠ 0 from by decide) ?_
      refine Go.aloadN 154 d4_153 rfl rfl rfl ?_
      refine Go.getf 157 (hw _ (List.mem_of_getElem? (i := 10) rfl)) H60.1.2.1 d4_154 rfl ?_
      refine Go.iload 159 d4_157 rfl rfl ?_
      refine Go.dloadN 160 d4_159 rfl rfl ?_
      refine Go.dastore 161 H60.2.1 (i := 2) (by decide) (in5 (by decide)) H60.2.2.2.2.2.1 d4_160 rfl ?_
      intro h61 K61 A61
      have H61 : SH Z n0 h61 a kb sb tD tI (3 : Int32) x2 x1 x3 x3 x4 x2 x1 x2 x3 x4 := H60.kset K61 A61
      refine Go.aloadN 162 d4_161 rfl rfl rfl ?_
      refine Go.getf 165 (hw _ (List.mem_of_getElem? (i := 13) rfl)) H61.1.2.2.1 d4_162 rfl ?_
      refine Go.iload 167 d4_165 rfl rfl ?_
      refine Go.iload 169 d4_167 rfl rfl ?_
      refine Go.iastore 170 H61.2.2.1 (i := 2) (by decide) (in5 (by decide)) H61.2.2.2.2.2.2.1 d4_169 rfl ?_
      intro h62 K62 A62
      have H62 : SH Z n0 h62 a kb sb tD tI (3 : Int32) x2 x1 x3 x3 x4 x2 x1 x3 x3 x4 := H61.sset K62 A62
      refine Go.iloadN 171 d4_170 rfl rfl ?_
      exact Go.iret d4_171 rfl (by decide) (by decide) ⟨rfl, x2, x1, x3, x3, x4, H62, by omega, by omega, (fun f => by omega), by omega, by omega, by omega, trivial⟩
set_option maxRecDepth 65536 in
set_option maxHeartbeats 40000000 in
theorem pop_3 (l : Launch) (Z : State) (a0 : Array Value) (hw : ∀ d ∈ tables_1, d.before a0 Z = true) {n0 : Nat} {h : Heap} {a kb sb : Nat} {tD : List UInt64} {tI : List Int32} {x0 x1 x2 x3 x4 : Int32} (H : SH Z n0 h a kb sb tD tI (3 : Int32) x0 x1 x2 x3 x4 x0 x1 x2 x3 x4) (p0 : x1.toInt ≤ x0.toInt) (p1 : x2.toInt ≤ x0.toInt) :
    Go l Z ({ frames := 0, cells := 0, slots := 0, locals := 0 } : Room) ((⟨"com/example/mardec/mardec/explicit/StateHeap", "pop", "()I"⟩ : MethodName), prog_47_method_5_code, 8, some .int) n0 (fun v h' => v = some (.int x0) ∧ ∃ y0 y1 y2 y3 y4, SH Z n0 h' a kb sb tD tI (2 : Int32) y0 y1 y2 y3 y4 y0 y1 y2 y3 y4 ∧ y1.toInt ≤ y0.toInt ∧ (∀ f : Int32 → Nat, f y0 + f y1 + f x0 = f x0 + f x1 + f x2) ∧ y0.toInt ≤ x0.toInt ∧ y1.toInt ≤ x0.toInt ∧ True) h 0 0 0 #[.val (.ref a), .unset, .unset, .unset, .unset, .unset, .unset, .unset] [] := by
  refine Go.aloadN 1 d4_0 rfl rfl rfl ?_
  refine Go.getf 4 (hw _ (List.mem_of_getElem? (i := 13) rfl)) H.1.2.2.1 d4_1 rfl ?_
  refine Go.iconst 5 (0 : Int32) d4_4 rfl (by decide) ?_
  refine Go.iaload 6 H.2.2.1 (i := 0) (by decide) rfl d4_5 rfl ?_
  refine Go.istoreN 7 #[.val (.ref a), .val (.int x0), .unset, .unset, .unset, .unset, .unset, .unset] d4_6 rfl rfl ?_
  refine Go.aloadN 8 d4_7 rfl rfl rfl ?_
  refine Go.dup 9 d4_8 rfl rfl ?_
  refine Go.getf 12 (hw _ (List.mem_of_getElem? (i := 20) rfl)) H.1.2.2.2 d4_9 rfl ?_
  refine Go.iconst 13 (1 : Int32) d4_12 rfl (by decide) ?_
  refine Go.isub 14 (2 : Int32) d4_13 rfl (by decide) ?_
  refine Go.putF 17 (hw _ (List.mem_of_getElem? (i := 20) rfl)) H.1.2.2.2 H.1.1 (Or.inl (hw _ (List.mem_of_getElem? (i := 21) rfl))) (hw _ (List.mem_of_getElem? (i := 1) rfl)) (ty := .int) (by decide) rfl rfl H.2.2.2.2.1 d4_14 rfl ?_
  intro h0 W0
  have H0 := H.nset a0 hw W0
  refine Go.aloadN 18 d4_17 rfl rfl rfl ?_
  refine Go.getf 21 (hw _ (List.mem_of_getElem? (i := 10) rfl)) H0.1.2.1 d4_18 rfl ?_
  refine Go.aloadN 22 d4_21 rfl rfl rfl ?_
  refine Go.getf 25 (hw _ (List.mem_of_getElem? (i := 20) rfl)) H0.1.2.2.2 d4_22 rfl ?_
  refine Go.daload 26 H0.2.1 (i := 2) (by decide) rfl d4_25 rfl ?_
  refine Go.dstoreN 27 #[.val (.ref a), .val (.int x0), .val (.double (FP.i2d x2)), .second, .unset, .unset, .unset, .unset] d4_26 rfl rfl ?_
  refine Go.aloadN 28 d4_27 rfl rfl rfl ?_
  refine Go.getf 31 (hw _ (List.mem_of_getElem? (i := 13) rfl)) H0.1.2.2.1 d4_28 rfl ?_
  refine Go.aloadN 32 d4_31 rfl rfl rfl ?_
  refine Go.getf 35 (hw _ (List.mem_of_getElem? (i := 20) rfl)) H0.1.2.2.2 d4_32 rfl ?_
  refine Go.iaload 36 H0.2.2.1 (i := 2) (by decide) rfl d4_35 rfl ?_
  refine Go.istore 38 #[.val (.ref a), .val (.int x0), .val (.double (FP.i2d x2)), .second, .val (.int x2), .unset, .unset, .unset] d4_36 rfl rfl ?_
  refine Go.iconst 39 (0 : Int32) d4_38 rfl (by decide) ?_
  refine Go.istore 41 #[.val (.ref a), .val (.int x0), .val (.double (FP.i2d x2)), .second, .val (.int x2), .val (.int (0 : Int32)), .unset, .unset] d4_39 rfl rfl ?_
  refine Go.iconst 42 (0 : Int32) d4_41 rfl (by decide) ?_
  refine Go.istore 44 #[.val (.ref a), .val (.int x0), .val (.double (FP.i2d x2)), .second, .val (.int x2), .val (.int (0 : Int32)), .val (.int (0 : Int32)), .unset] d4_42 rfl rfl ?_
  refine Go.iload 46 d4_44 rfl rfl ?_
  refine Go.ifCF 49 d4_46 rfl (show (0 : Int) = 0 from by decide) ?_
  refine Go.iconst 50 (2 : Int32) d4_49 rfl (by decide) ?_
  refine Go.iload 52 d4_50 rfl rfl ?_
  refine Go.imul 53 (0 : Int32) d4_52 rfl (by decide) ?_
  refine Go.iconst 54 (1 : Int32) d4_53 rfl (by decide) ?_
  refine Go.iadd 55 (1 : Int32) d4_54 rfl (by decide) ?_
  refine Go.istore 57 #[.val (.ref a), .val (.int x0), .val (.double (FP.i2d x2)), .second, .val (.int x2), .val (.int (0 : Int32)), .val (.int (0 : Int32)), .val (.int (1 : Int32))] d4_55 rfl rfl ?_
  refine Go.iload 59 d4_57 rfl rfl ?_
  refine Go.iconst 60 (1 : Int32) d4_59 rfl (by decide) ?_
  refine Go.iadd 61 (2 : Int32) d4_60 rfl (by decide) ?_
  refine Go.aloadN 62 d4_61 rfl rfl rfl ?_
  refine Go.getf 65 (hw _ (List.mem_of_getElem? (i := 20) rfl)) H0.1.2.2.2 d4_62 rfl ?_
  refine Go.icmpT 91 d4_65 (by decide) (by decide) (show (2 : Int) ≤ (2 : Int) from by decide) ?_
  refine Go.iload 93 d4_91 rfl rfl ?_
  refine Go.aloadN 94 d4_93 rfl rfl rfl ?_
  refine Go.getf 97 (hw _ (List.mem_of_getElem? (i := 20) rfl)) H0.1.2.2.2 d4_94 rfl ?_
  refine Go.icmpF 100 d4_97 rfl (show (1 : Int) < (2 : Int) from by decide) ?_
  refine Go.aloadN 101 d4_100 rfl rfl rfl ?_
  refine Go.getf 104 (hw _ (List.mem_of_getElem? (i := 10) rfl)) H0.1.2.1 d4_101 rfl ?_
  refine Go.iload 106 d4_104 rfl rfl ?_
  refine Go.daload 107 H0.2.1 (i := 1) (by decide) rfl d4_106 rfl ?_
  refine Go.dloadN 108 d4_107 rfl rfl ?_
  refine Go.dcmp 109 (sg x1.toInt x2.toInt) d4_108 rfl (cmpI (FP.Core.i2d_int _) (FP.Core.i2d_int _) _) ?_
  refine Go.ifCB 147 112 d4_109 (by decide) (by decide) rfl (fun (hc : ((sg x1.toInt x2.toInt)).toInt ≤ 0) => ?_) (fun (hc : 0 < ((sg x1.toInt x2.toInt)).toInt) => ?_)
  · have := sg_cases x1.toInt x2.toInt
    refine Go.iconst 148 (1 : Int32) d4_147 rfl (by decide) ?_
    refine Go.istore 150 #[.val (.ref a), .val (.int x0), .val (.double (FP.i2d x2)), .second, .val (.int x2), .val (.int (0 : Int32)), .val (.int (1 : Int32)), .val (.int (1 : Int32))] d4_148 rfl rfl ?_
    refine Go.goto 44 d4_150 (by decide) (by decide) ?_
    refine Go.iload 46 d4_44 rfl rfl ?_
    refine Go.ifCT 153 d4_46 (by decide) (by decide) (show (1 : Int) ≠ 0 from by decide) ?_
    refine Go.aloadN 154 d4_153 rfl rfl rfl ?_
    refine Go.getf 157 (hw _ (List.mem_of_getElem? (i := 10) rfl)) H0.1.2.1 d4_154 rfl ?_
    refine Go.iload 159 d4_157 rfl rfl ?_
    refine Go.dloadN 160 d4_159 rfl rfl ?_
    refine Go.dastore 161 H0.2.1 (i := 0) (by decide) (in5 (by decide)) H0.2.2.2.2.2.1 d4_160 rfl ?_
    intro h63 K63 A63
    have H63 : SH Z n0 h63 a kb sb tD tI (2 : Int32) x2 x1 x2 x3 x4 x0 x1 x2 x3 x4 := H0.kset K63 A63
    refine Go.aloadN 162 d4_161 rfl rfl rfl ?_
    refine Go.getf 165 (hw _ (List.mem_of_getElem? (i := 13) rfl)) H63.1.2.2.1 d4_162 rfl ?_
    refine Go.iload 167 d4_165 rfl rfl ?_
    refine Go.iload 169 d4_167 rfl rfl ?_
    refine Go.iastore 170 H63.2.2.1 (i := 0) (by decide) (in5 (by decide)) H63.2.2.2.2.2.2.1 d4_169 rfl ?_
    intro h64 K64 A64
    have H64 : SH Z n0 h64 a kb sb tD tI (2 : Int32) x2 x1 x2 x3 x4 x2 x1 x2 x3 x4 := H63.sset K64 A64
    refine Go.iloadN 171 d4_170 rfl rfl ?_
    exact Go.iret d4_171 rfl (by decide) (by decide) ⟨rfl, x2, x1, x2, x3, x4, H64, by omega, (fun f => by omega), by omega, by omega, trivial⟩
  · have := sg_cases x1.toInt x2.toInt
    refine Go.aloadN 113 d4_112 rfl rfl rfl ?_
    refine Go.getf 116 (hw _ (List.mem_of_getElem? (i := 10) rfl)) H0.1.2.1 d4_113 rfl ?_
    refine Go.iload 118 d4_116 rfl rfl ?_
    refine Go.aloadN 119 d4_118 rfl rfl rfl ?_
    refine Go.getf 122 (hw _ (List.mem_of_getElem? (i := 10) rfl)) H0.1.2.1 d4_119 rfl ?_
    refine Go.iload 124 d4_122 rfl rfl ?_
    refine Go.daload 125 H0.2.1 (i := 1) (by decide) rfl d4_124 rfl ?_
    refine Go.dastore 126 H0.2.1 (i := 0) (by decide) (in5 (by decide)) H0.2.2.2.2.2.1 d4_125 rfl ?_
    intro h65 K65 A65
    have H65 : SH Z n0 h65 a kb sb tD tI (2 : Int32) x1 x1 x2 x3 x4 x0 x1 x2 x3 x4 := H0.kset K65 A65
    refine Go.aloadN 127 d4_126 rfl rfl rfl ?_
    refine Go.getf 130 (hw _ (List.mem_of_getElem? (i := 13) rfl)) H65.1.2.2.1 d4_127 rfl ?_
    refine Go.iload 132 d4_130 rfl rfl ?_
    refine Go.aloadN 133 d4_132 rfl rfl rfl ?_
    refine Go.getf 136 (hw _ (List.mem_of_getElem? (i := 13) rfl)) H65.1.2.2.1 d4_133 rfl ?_
    refine Go.iload 138 d4_136 rfl rfl ?_
    refine Go.iaload 139 H65.2.2.1 (i := 1) (by decide) rfl d4_138 rfl ?_
    refine Go.iastore 140 H65.2.2.1 (i := 0) (by decide) (in5 (by decide)) H65.2.2.2.2.2.2.1 d4_139 rfl ?_
    intro h66 K66 A66
    have H66 : SH Z n0 h66 a kb sb tD tI (2 : Int32) x1 x1 x2 x3 x4 x1 x1 x2 x3 x4 := H65.sset K66 A66
    refine Go.iload 142 d4_140 rfl rfl ?_
    refine Go.istore 144 #[.val (.ref a), .val (.int x0), .val (.double (FP.i2d x2)), .second, .val (.int x2), .val (.int (1 : Int32)), .val (.int (0 : Int32)), .val (.int (1 : Int32))] d4_142 rfl rfl ?_
    refine Go.goto 150 d4_144 (by decide) (by decide) ?_
    refine Go.goto 44 d4_150 (by decide) (by decide) ?_
    refine Go.iload 46 d4_44 rfl rfl ?_
    refine Go.ifCF 49 d4_46 rfl (show (0 : Int) = 0 from by decide) ?_
    refine Go.iconst 50 (2 : Int32) d4_49 rfl (by decide) ?_
    refine Go.iload 52 d4_50 rfl rfl ?_
    refine Go.imul 53 (2 : Int32) d4_52 rfl (by decide) ?_
    refine Go.iconst 54 (1 : Int32) d4_53 rfl (by decide) ?_
    refine Go.iadd 55 (3 : Int32) d4_54 rfl (by decide) ?_
    refine Go.istore 57 #[.val (.ref a), .val (.int x0), .val (.double (FP.i2d x2)), .second, .val (.int x2), .val (.int (1 : Int32)), .val (.int (0 : Int32)), .val (.int (3 : Int32))] d4_55 rfl rfl ?_
    refine Go.iload 59 d4_57 rfl rfl ?_
    refine Go.iconst 60 (1 : Int32) d4_59 rfl (by decide) ?_
    refine Go.iadd 61 (4 : Int32) d4_60 rfl (by decide) ?_
    refine Go.aloadN 62 d4_61 rfl rfl rfl ?_
    refine Go.getf 65 (hw _ (List.mem_of_getElem? (i := 20) rfl)) H66.1.2.2.2 d4_62 rfl ?_
    refine Go.icmpT 91 d4_65 (by decide) (by decide) (show (2 : Int) ≤ (4 : Int) from by decide) ?_
    refine Go.iload 93 d4_91 rfl rfl ?_
    refine Go.aloadN 94 d4_93 rfl rfl rfl ?_
    refine Go.getf 97 (hw _ (List.mem_of_getElem? (i := 20) rfl)) H66.1.2.2.2 d4_94 rfl ?_
    refine Go.icmpT 147 d4_97 (by decide) (by decide) (show (2 : Int) ≤ (3 : Int) from by decide) ?_
    refine Go.iconst 148 (1 : Int32) d4_147 rfl (by decide) ?_
    refine Go.istore 150 #[.val (.ref a), .val (.int x0), .val (.double (FP.i2d x2)), .second, .val (.int x2), .val (.int (1 : Int32)), .val (.int (1 : Int32)), .val (.int (3 : Int32))] d4_148 rfl rfl ?_
    refine Go.goto 44 d4_150 (by decide) (by decide) ?_
    refine Go.iload 46 d4_44 rfl rfl ?_
    refine Go.ifCT 153 d4_46 (by decide) (by decide) (show (1 : Int) ≠ 0 from by decide) ?_
    refine Go.aloadN 154 d4_153 rfl rfl rfl ?_
    refine Go.getf 157 (hw _ (List.mem_of_getElem? (i := 10) rfl)) H66.1.2.1 d4_154 rfl ?_
    refine Go.iload 159 d4_157 rfl rfl ?_
    refine Go.dloadN 160 d4_159 rfl rfl ?_
    refine Go.dastore 161 H66.2.1 (i := 1) (by decide) (in5 (by decide)) H66.2.2.2.2.2.1 d4_160 rfl ?_
    intro h67 K67 A67
    have H67 : SH Z n0 h67 a kb sb tD tI (2 : Int32) x1 x2 x2 x3 x4 x1 x1 x2 x3 x4 := H66.kset K67 A67
    refine Go.aloadN 162 d4_161 rfl rfl rfl ?_
    refine Go.getf 165 (hw _ (List.mem_of_getElem? (i := 13) rfl)) H67.1.2.2.1 d4_162 rfl ?_
    refine Go.iload 167 d4_165 rfl rfl ?_
    refine Go.iload 169 d4_167 rfl rfl ?_
    refine Go.iastore 170 H67.2.2.1 (i := 1) (by decide) (in5 (by decide)) H67.2.2.2.2.2.2.1 d4_169 rfl ?_
    intro h68 K68 A68
    have H68 : SH Z n0 h68 a kb sb tD tI (2 : Int32) x1 x2 x2 x3 x4 x1 x2 x2 x3 x4 := H67.sset K68 A68
    refine Go.iloadN 171 d4_170 rfl rfl ?_
    exact Go.iret d4_171 rfl (by decide) (by decide) ⟨rfl, x1, x2, x2, x3, x4, H68, by omega, (fun f => by omega), by omega, by omega, trivial⟩
set_option maxRecDepth 65536 in
set_option maxHeartbeats 40000000 in
theorem pop_2 (l : Launch) (Z : State) (a0 : Array Value) (hw : ∀ d ∈ tables_1, d.before a0 Z = true) {n0 : Nat} {h : Heap} {a kb sb : Nat} {tD : List UInt64} {tI : List Int32} {x0 x1 x2 x3 x4 : Int32} (H : SH Z n0 h a kb sb tD tI (2 : Int32) x0 x1 x2 x3 x4 x0 x1 x2 x3 x4) (p0 : x1.toInt ≤ x0.toInt) :
    Go l Z ({ frames := 0, cells := 0, slots := 0, locals := 0 } : Room) ((⟨"com/example/mardec/mardec/explicit/StateHeap", "pop", "()I"⟩ : MethodName), prog_47_method_5_code, 8, some .int) n0 (fun v h' => v = some (.int x0) ∧ ∃ y0 y1 y2 y3 y4, SH Z n0 h' a kb sb tD tI (1 : Int32) y0 y1 y2 y3 y4 y0 y1 y2 y3 y4 ∧ (∀ f : Int32 → Nat, f y0 + f x0 = f x0 + f x1) ∧ y0.toInt ≤ x0.toInt ∧ True) h 0 0 0 #[.val (.ref a), .unset, .unset, .unset, .unset, .unset, .unset, .unset] [] := by
  refine Go.aloadN 1 d4_0 rfl rfl rfl ?_
  refine Go.getf 4 (hw _ (List.mem_of_getElem? (i := 13) rfl)) H.1.2.2.1 d4_1 rfl ?_
  refine Go.iconst 5 (0 : Int32) d4_4 rfl (by decide) ?_
  refine Go.iaload 6 H.2.2.1 (i := 0) (by decide) rfl d4_5 rfl ?_
  refine Go.istoreN 7 #[.val (.ref a), .val (.int x0), .unset, .unset, .unset, .unset, .unset, .unset] d4_6 rfl rfl ?_
  refine Go.aloadN 8 d4_7 rfl rfl rfl ?_
  refine Go.dup 9 d4_8 rfl rfl ?_
  refine Go.getf 12 (hw _ (List.mem_of_getElem? (i := 20) rfl)) H.1.2.2.2 d4_9 rfl ?_
  refine Go.iconst 13 (1 : Int32) d4_12 rfl (by decide) ?_
  refine Go.isub 14 (1 : Int32) d4_13 rfl (by decide) ?_
  refine Go.putF 17 (hw _ (List.mem_of_getElem? (i := 20) rfl)) H.1.2.2.2 H.1.1 (Or.inl (hw _ (List.mem_of_getElem? (i := 21) rfl))) (hw _ (List.mem_of_getElem? (i := 1) rfl)) (ty := .int) (by decide) rfl rfl H.2.2.2.2.1 d4_14 rfl ?_
  intro h0 W0
  have H0 := H.nset a0 hw W0
  refine Go.aloadN 18 d4_17 rfl rfl rfl ?_
  refine Go.getf 21 (hw _ (List.mem_of_getElem? (i := 10) rfl)) H0.1.2.1 d4_18 rfl ?_
  refine Go.aloadN 22 d4_21 rfl rfl rfl ?_
  refine Go.getf 25 (hw _ (List.mem_of_getElem? (i := 20) rfl)) H0.1.2.2.2 d4_22 rfl ?_
  refine Go.daload 26 H0.2.1 (i := 1) (by decide) rfl d4_25 rfl ?_
  refine Go.dstoreN 27 #[.val (.ref a), .val (.int x0), .val (.double (FP.i2d x1)), .second, .unset, .unset, .unset, .unset] d4_26 rfl rfl ?_
  refine Go.aloadN 28 d4_27 rfl rfl rfl ?_
  refine Go.getf 31 (hw _ (List.mem_of_getElem? (i := 13) rfl)) H0.1.2.2.1 d4_28 rfl ?_
  refine Go.aloadN 32 d4_31 rfl rfl rfl ?_
  refine Go.getf 35 (hw _ (List.mem_of_getElem? (i := 20) rfl)) H0.1.2.2.2 d4_32 rfl ?_
  refine Go.iaload 36 H0.2.2.1 (i := 1) (by decide) rfl d4_35 rfl ?_
  refine Go.istore 38 #[.val (.ref a), .val (.int x0), .val (.double (FP.i2d x1)), .second, .val (.int x1), .unset, .unset, .unset] d4_36 rfl rfl ?_
  refine Go.iconst 39 (0 : Int32) d4_38 rfl (by decide) ?_
  refine Go.istore 41 #[.val (.ref a), .val (.int x0), .val (.double (FP.i2d x1)), .second, .val (.int x1), .val (.int (0 : Int32)), .unset, .unset] d4_39 rfl rfl ?_
  refine Go.iconst 42 (0 : Int32) d4_41 rfl (by decide) ?_
  refine Go.istore 44 #[.val (.ref a), .val (.int x0), .val (.double (FP.i2d x1)), .second, .val (.int x1), .val (.int (0 : Int32)), .val (.int (0 : Int32)), .unset] d4_42 rfl rfl ?_
  refine Go.iload 46 d4_44 rfl rfl ?_
  refine Go.ifCF 49 d4_46 rfl (show (0 : Int) = 0 from by decide) ?_
  refine Go.iconst 50 (2 : Int32) d4_49 rfl (by decide) ?_
  refine Go.iload 52 d4_50 rfl rfl ?_
  refine Go.imul 53 (0 : Int32) d4_52 rfl (by decide) ?_
  refine Go.iconst 54 (1 : Int32) d4_53 rfl (by decide) ?_
  refine Go.iadd 55 (1 : Int32) d4_54 rfl (by decide) ?_
  refine Go.istore 57 #[.val (.ref a), .val (.int x0), .val (.double (FP.i2d x1)), .second, .val (.int x1), .val (.int (0 : Int32)), .val (.int (0 : Int32)), .val (.int (1 : Int32))] d4_55 rfl rfl ?_
  refine Go.iload 59 d4_57 rfl rfl ?_
  refine Go.iconst 60 (1 : Int32) d4_59 rfl (by decide) ?_
  refine Go.iadd 61 (2 : Int32) d4_60 rfl (by decide) ?_
  refine Go.aloadN 62 d4_61 rfl rfl rfl ?_
  refine Go.getf 65 (hw _ (List.mem_of_getElem? (i := 20) rfl)) H0.1.2.2.2 d4_62 rfl ?_
  refine Go.icmpT 91 d4_65 (by decide) (by decide) (show (1 : Int) ≤ (2 : Int) from by decide) ?_
  refine Go.iload 93 d4_91 rfl rfl ?_
  refine Go.aloadN 94 d4_93 rfl rfl rfl ?_
  refine Go.getf 97 (hw _ (List.mem_of_getElem? (i := 20) rfl)) H0.1.2.2.2 d4_94 rfl ?_
  refine Go.icmpT 147 d4_97 (by decide) (by decide) (show (1 : Int) ≤ (1 : Int) from by decide) ?_
  refine Go.iconst 148 (1 : Int32) d4_147 rfl (by decide) ?_
  refine Go.istore 150 #[.val (.ref a), .val (.int x0), .val (.double (FP.i2d x1)), .second, .val (.int x1), .val (.int (0 : Int32)), .val (.int (1 : Int32)), .val (.int (1 : Int32))] d4_148 rfl rfl ?_
  refine Go.goto 44 d4_150 (by decide) (by decide) ?_
  refine Go.iload 46 d4_44 rfl rfl ?_
  refine Go.ifCT 153 d4_46 (by decide) (by decide) (show (1 : Int) ≠ 0 from by decide) ?_
  refine Go.aloadN 154 d4_153 rfl rfl rfl ?_
  refine Go.getf 157 (hw _ (List.mem_of_getElem? (i := 10) rfl)) H0.1.2.1 d4_154 rfl ?_
  refine Go.iload 159 d4_157 rfl rfl ?_
  refine Go.dloadN 160 d4_159 rfl rfl ?_
  refine Go.dastore 161 H0.2.1 (i := 0) (by decide) (in5 (by decide)) H0.2.2.2.2.2.1 d4_160 rfl ?_
  intro h69 K69 A69
  have H69 : SH Z n0 h69 a kb sb tD tI (1 : Int32) x1 x1 x2 x3 x4 x0 x1 x2 x3 x4 := H0.kset K69 A69
  refine Go.aloadN 162 d4_161 rfl rfl rfl ?_
  refine Go.getf 165 (hw _ (List.mem_of_getElem? (i := 13) rfl)) H69.1.2.2.1 d4_162 rfl ?_
  refine Go.iload 167 d4_165 rfl rfl ?_
  refine Go.iload 169 d4_167 rfl rfl ?_
  refine Go.iastore 170 H69.2.2.1 (i := 0) (by decide) (in5 (by decide)) H69.2.2.2.2.2.2.1 d4_169 rfl ?_
  intro h70 K70 A70
  have H70 : SH Z n0 h70 a kb sb tD tI (1 : Int32) x1 x1 x2 x3 x4 x1 x1 x2 x3 x4 := H69.sset K70 A70
  refine Go.iloadN 171 d4_170 rfl rfl ?_
  exact Go.iret d4_171 rfl (by decide) (by decide) ⟨rfl, x1, x1, x2, x3, x4, H70, (fun f => by omega), by omega, trivial⟩
set_option maxRecDepth 65536 in
set_option maxHeartbeats 40000000 in
theorem pop_1 (l : Launch) (Z : State) (a0 : Array Value) (hw : ∀ d ∈ tables_1, d.before a0 Z = true) {n0 : Nat} {h : Heap} {a kb sb : Nat} {tD : List UInt64} {tI : List Int32} {x0 x1 x2 x3 x4 : Int32} (H : SH Z n0 h a kb sb tD tI (1 : Int32) x0 x1 x2 x3 x4 x0 x1 x2 x3 x4) :
    Go l Z ({ frames := 0, cells := 0, slots := 0, locals := 0 } : Room) ((⟨"com/example/mardec/mardec/explicit/StateHeap", "pop", "()I"⟩ : MethodName), prog_47_method_5_code, 8, some .int) n0 (fun v h' => v = some (.int x0) ∧ ∃ y0 y1 y2 y3 y4, SH Z n0 h' a kb sb tD tI (0 : Int32) y0 y1 y2 y3 y4 y0 y1 y2 y3 y4 ∧ (∀ f : Int32 → Nat, f x0 = f x0) ∧ True) h 0 0 0 #[.val (.ref a), .unset, .unset, .unset, .unset, .unset, .unset, .unset] [] := by
  refine Go.aloadN 1 d4_0 rfl rfl rfl ?_
  refine Go.getf 4 (hw _ (List.mem_of_getElem? (i := 13) rfl)) H.1.2.2.1 d4_1 rfl ?_
  refine Go.iconst 5 (0 : Int32) d4_4 rfl (by decide) ?_
  refine Go.iaload 6 H.2.2.1 (i := 0) (by decide) rfl d4_5 rfl ?_
  refine Go.istoreN 7 #[.val (.ref a), .val (.int x0), .unset, .unset, .unset, .unset, .unset, .unset] d4_6 rfl rfl ?_
  refine Go.aloadN 8 d4_7 rfl rfl rfl ?_
  refine Go.dup 9 d4_8 rfl rfl ?_
  refine Go.getf 12 (hw _ (List.mem_of_getElem? (i := 20) rfl)) H.1.2.2.2 d4_9 rfl ?_
  refine Go.iconst 13 (1 : Int32) d4_12 rfl (by decide) ?_
  refine Go.isub 14 (0 : Int32) d4_13 rfl (by decide) ?_
  refine Go.putF 17 (hw _ (List.mem_of_getElem? (i := 20) rfl)) H.1.2.2.2 H.1.1 (Or.inl (hw _ (List.mem_of_getElem? (i := 21) rfl))) (hw _ (List.mem_of_getElem? (i := 1) rfl)) (ty := .int) (by decide) rfl rfl H.2.2.2.2.1 d4_14 rfl ?_
  intro h0 W0
  have H0 := H.nset a0 hw W0
  refine Go.aloadN 18 d4_17 rfl rfl rfl ?_
  refine Go.getf 21 (hw _ (List.mem_of_getElem? (i := 10) rfl)) H0.1.2.1 d4_18 rfl ?_
  refine Go.aloadN 22 d4_21 rfl rfl rfl ?_
  refine Go.getf 25 (hw _ (List.mem_of_getElem? (i := 20) rfl)) H0.1.2.2.2 d4_22 rfl ?_
  refine Go.daload 26 H0.2.1 (i := 0) (by decide) rfl d4_25 rfl ?_
  refine Go.dstoreN 27 #[.val (.ref a), .val (.int x0), .val (.double (FP.i2d x0)), .second, .unset, .unset, .unset, .unset] d4_26 rfl rfl ?_
  refine Go.aloadN 28 d4_27 rfl rfl rfl ?_
  refine Go.getf 31 (hw _ (List.mem_of_getElem? (i := 13) rfl)) H0.1.2.2.1 d4_28 rfl ?_
  refine Go.aloadN 32 d4_31 rfl rfl rfl ?_
  refine Go.getf 35 (hw _ (List.mem_of_getElem? (i := 20) rfl)) H0.1.2.2.2 d4_32 rfl ?_
  refine Go.iaload 36 H0.2.2.1 (i := 0) (by decide) rfl d4_35 rfl ?_
  refine Go.istore 38 #[.val (.ref a), .val (.int x0), .val (.double (FP.i2d x0)), .second, .val (.int x0), .unset, .unset, .unset] d4_36 rfl rfl ?_
  refine Go.iconst 39 (0 : Int32) d4_38 rfl (by decide) ?_
  refine Go.istore 41 #[.val (.ref a), .val (.int x0), .val (.double (FP.i2d x0)), .second, .val (.int x0), .val (.int (0 : Int32)), .unset, .unset] d4_39 rfl rfl ?_
  refine Go.iconst 42 (0 : Int32) d4_41 rfl (by decide) ?_
  refine Go.istore 44 #[.val (.ref a), .val (.int x0), .val (.double (FP.i2d x0)), .second, .val (.int x0), .val (.int (0 : Int32)), .val (.int (0 : Int32)), .unset] d4_42 rfl rfl ?_
  refine Go.iload 46 d4_44 rfl rfl ?_
  refine Go.ifCF 49 d4_46 rfl (show (0 : Int) = 0 from by decide) ?_
  refine Go.iconst 50 (2 : Int32) d4_49 rfl (by decide) ?_
  refine Go.iload 52 d4_50 rfl rfl ?_
  refine Go.imul 53 (0 : Int32) d4_52 rfl (by decide) ?_
  refine Go.iconst 54 (1 : Int32) d4_53 rfl (by decide) ?_
  refine Go.iadd 55 (1 : Int32) d4_54 rfl (by decide) ?_
  refine Go.istore 57 #[.val (.ref a), .val (.int x0), .val (.double (FP.i2d x0)), .second, .val (.int x0), .val (.int (0 : Int32)), .val (.int (0 : Int32)), .val (.int (1 : Int32))] d4_55 rfl rfl ?_
  refine Go.iload 59 d4_57 rfl rfl ?_
  refine Go.iconst 60 (1 : Int32) d4_59 rfl (by decide) ?_
  refine Go.iadd 61 (2 : Int32) d4_60 rfl (by decide) ?_
  refine Go.aloadN 62 d4_61 rfl rfl rfl ?_
  refine Go.getf 65 (hw _ (List.mem_of_getElem? (i := 20) rfl)) H0.1.2.2.2 d4_62 rfl ?_
  refine Go.icmpT 91 d4_65 (by decide) (by decide) (show (0 : Int) ≤ (2 : Int) from by decide) ?_
  refine Go.iload 93 d4_91 rfl rfl ?_
  refine Go.aloadN 94 d4_93 rfl rfl rfl ?_
  refine Go.getf 97 (hw _ (List.mem_of_getElem? (i := 20) rfl)) H0.1.2.2.2 d4_94 rfl ?_
  refine Go.icmpT 147 d4_97 (by decide) (by decide) (show (0 : Int) ≤ (1 : Int) from by decide) ?_
  refine Go.iconst 148 (1 : Int32) d4_147 rfl (by decide) ?_
  refine Go.istore 150 #[.val (.ref a), .val (.int x0), .val (.double (FP.i2d x0)), .second, .val (.int x0), .val (.int (0 : Int32)), .val (.int (1 : Int32)), .val (.int (1 : Int32))] d4_148 rfl rfl ?_
  refine Go.goto 44 d4_150 (by decide) (by decide) ?_
  refine Go.iload 46 d4_44 rfl rfl ?_
  refine Go.ifCT 153 d4_46 (by decide) (by decide) (show (1 : Int) ≠ 0 from by decide) ?_
  refine Go.aloadN 154 d4_153 rfl rfl rfl ?_
  refine Go.getf 157 (hw _ (List.mem_of_getElem? (i := 10) rfl)) H0.1.2.1 d4_154 rfl ?_
  refine Go.iload 159 d4_157 rfl rfl ?_
  refine Go.dloadN 160 d4_159 rfl rfl ?_
  refine Go.dastore 161 H0.2.1 (i := 0) (by decide) (in5 (by decide)) H0.2.2.2.2.2.1 d4_160 rfl ?_
  intro h71 K71 A71
  have H71 : SH Z n0 h71 a kb sb tD tI (0 : Int32) x0 x1 x2 x3 x4 x0 x1 x2 x3 x4 := H0.kset K71 A71
  refine Go.aloadN 162 d4_161 rfl rfl rfl ?_
  refine Go.getf 165 (hw _ (List.mem_of_getElem? (i := 13) rfl)) H71.1.2.2.1 d4_162 rfl ?_
  refine Go.iload 167 d4_165 rfl rfl ?_
  refine Go.iload 169 d4_167 rfl rfl ?_
  refine Go.iastore 170 H71.2.2.1 (i := 0) (by decide) (in5 (by decide)) H71.2.2.2.2.2.2.1 d4_169 rfl ?_
  intro h72 K72 A72
  have H72 : SH Z n0 h72 a kb sb tD tI (0 : Int32) x0 x1 x2 x3 x4 x0 x1 x2 x3 x4 := H71.sset K72 A72
  refine Go.iloadN 171 d4_170 rfl rfl ?_
  exact Go.iret d4_171 rfl (by decide) (by decide) ⟨rfl, x0, x1, x2, x3, x4, H72, (fun f => by omega), trivial⟩
set_option maxRecDepth 65536 in
set_option maxHeartbeats 40000000 in
theorem cs_0 (l : Launch) (Z : State) {n0 : Nat} {h : Heap} {sa : Nat} {s0 s1 s2 s3 s4 : Int32} (A : ArI Z h sa [s0, s1, s2, s3, s4]) (ns : n0 ≤ sa) :
    Go l Z ({ frames := 0, cells := 0, slots := 0, locals := 0 } : Room) ((⟨"com/example/mardec/mardec/explicit/StateHeapPopPinLaw", "cs", "([II)V"⟩ : MethodName), method_3_code, 3, none) n0 (fun r h' => r = none ∧ Keep h h' [sa] ∧ ∃ u v, ArI Z h' sa [u, v, s2, s3, s4] ∧ v.toInt ≤ u.toInt ∧ v.toInt ≤ s0.toInt ∧ v.toInt ≤ s1.toInt ∧ (∀ t : Int, t ≤ s0.toInt → t ≤ s1.toInt → t ≤ v.toInt) ∧ ∀ f : Int32 → Nat, f u + f v = f s0 + f s1) h 0 0 0 #[.val (.ref sa), .val (.int (0 : Int32)), .unset] [] := by
  refine Go.aloadN 1 d5_0 rfl rfl rfl ?_
  refine Go.iloadN 2 d5_1 rfl rfl ?_
  refine Go.iaload 3 A (i := 0) (by decide) rfl d5_2 rfl ?_
  refine Go.aloadN 4 d5_3 rfl rfl rfl ?_
  refine Go.iloadN 5 d5_4 rfl rfl ?_
  refine Go.iconst 6 (1 : Int32) d5_5 rfl (by decide) ?_
  refine Go.iadd 7 (1 : Int32) d5_6 rfl (by decide) ?_
  refine Go.iaload 8 A (i := 1) (by decide) rfl d5_7 rfl ?_
  refine Go.icmpB 29 11 d5_8 (by decide) (by decide) rfl (fun (hc : (s1).toInt ≤ (s0).toInt) => ?_) (fun (hc : (s0).toInt < (s1).toInt) => ?_)
  · exact Go.ret d5_29 rfl (by decide) (by decide) ⟨rfl, Keep.refl _ _, s0, s1, A, by omega, by omega, by omega, (fun t _ q => q), fun f => rfl⟩
  · refine Go.aloadN 12 d5_11 rfl rfl rfl ?_
    refine Go.iloadN 13 d5_12 rfl rfl ?_
    refine Go.iaload 14 A (i := 0) (by decide) rfl d5_13 rfl ?_
    refine Go.istoreN 15 #[.val (.ref sa), .val (.int (0 : Int32)), .val (.int s0)] d5_14 rfl rfl ?_
    refine Go.aloadN 16 d5_15 rfl rfl rfl ?_
    refine Go.iloadN 17 d5_16 rfl rfl ?_
    refine Go.aloadN 18 d5_17 rfl rfl rfl ?_
    refine Go.iloadN 19 d5_18 rfl rfl ?_
    refine Go.iconst 20 (1 : Int32) d5_19 rfl (by decide) ?_
    refine Go.iadd 21 (1 : Int32) d5_20 rfl (by decide) ?_
    refine Go.iaload 22 A (i := 1) (by decide) rfl d5_21 rfl ?_
    refine Go.iastore 23 A (i := 0) (by decide) (by simp) ns d5_22 rfl ?_
    intro h1 K1 A1
    have A1 : ArI Z h1 sa [s1, s1, s2, s3, s4] := A1
    refine Go.aloadN 24 d5_23 rfl rfl rfl ?_
    refine Go.iloadN 25 d5_24 rfl rfl ?_
    refine Go.iconst 26 (1 : Int32) d5_25 rfl (by decide) ?_
    refine Go.iadd 27 (1 : Int32) d5_26 rfl (by decide) ?_
    refine Go.iloadN 28 d5_27 rfl rfl ?_
    refine Go.iastore 29 A1 (i := 1) (by decide) (by simp) ns d5_28 rfl ?_
    intro h2 K2 A2
    exact Go.ret d5_29 rfl (by decide) (by decide) ⟨rfl, K1.trans K2 (fun x q => Or.inl q), s1, s0, A2, by omega, by omega, by omega, (fun t q _ => q), fun f => Nat.add_comm _ _⟩
set_option maxRecDepth 65536 in
set_option maxHeartbeats 40000000 in
theorem cs_1 (l : Launch) (Z : State) {n0 : Nat} {h : Heap} {sa : Nat} {s0 s1 s2 s3 s4 : Int32} (A : ArI Z h sa [s0, s1, s2, s3, s4]) (ns : n0 ≤ sa) :
    Go l Z ({ frames := 0, cells := 0, slots := 0, locals := 0 } : Room) ((⟨"com/example/mardec/mardec/explicit/StateHeapPopPinLaw", "cs", "([II)V"⟩ : MethodName), method_3_code, 3, none) n0 (fun r h' => r = none ∧ Keep h h' [sa] ∧ ∃ u v, ArI Z h' sa [s0, u, v, s3, s4] ∧ v.toInt ≤ u.toInt ∧ v.toInt ≤ s1.toInt ∧ v.toInt ≤ s2.toInt ∧ (∀ t : Int, t ≤ s1.toInt → t ≤ s2.toInt → t ≤ v.toInt) ∧ ∀ f : Int32 → Nat, f u + f v = f s1 + f s2) h 0 0 0 #[.val (.ref sa), .val (.int (1 : Int32)), .unset] [] := by
  refine Go.aloadN 1 d5_0 rfl rfl rfl ?_
  refine Go.iloadN 2 d5_1 rfl rfl ?_
  refine Go.iaload 3 A (i := 1) (by decide) rfl d5_2 rfl ?_
  refine Go.aloadN 4 d5_3 rfl rfl rfl ?_
  refine Go.iloadN 5 d5_4 rfl rfl ?_
  refine Go.iconst 6 (1 : Int32) d5_5 rfl (by decide) ?_
  refine Go.iadd 7 (2 : Int32) d5_6 rfl (by decide) ?_
  refine Go.iaload 8 A (i := 2) (by decide) rfl d5_7 rfl ?_
  refine Go.icmpB 29 11 d5_8 (by decide) (by decide) rfl (fun (hc : (s2).toInt ≤ (s1).toInt) => ?_) (fun (hc : (s1).toInt < (s2).toInt) => ?_)
  · exact Go.ret d5_29 rfl (by decide) (by decide) ⟨rfl, Keep.refl _ _, s1, s2, A, by omega, by omega, by omega, (fun t _ q => q), fun f => rfl⟩
  · refine Go.aloadN 12 d5_11 rfl rfl rfl ?_
    refine Go.iloadN 13 d5_12 rfl rfl ?_
    refine Go.iaload 14 A (i := 1) (by decide) rfl d5_13 rfl ?_
    refine Go.istoreN 15 #[.val (.ref sa), .val (.int (1 : Int32)), .val (.int s1)] d5_14 rfl rfl ?_
    refine Go.aloadN 16 d5_15 rfl rfl rfl ?_
    refine Go.iloadN 17 d5_16 rfl rfl ?_
    refine Go.aloadN 18 d5_17 rfl rfl rfl ?_
    refine Go.iloadN 19 d5_18 rfl rfl ?_
    refine Go.iconst 20 (1 : Int32) d5_19 rfl (by decide) ?_
    refine Go.iadd 21 (2 : Int32) d5_20 rfl (by decide) ?_
    refine Go.iaload 22 A (i := 2) (by decide) rfl d5_21 rfl ?_
    refine Go.iastore 23 A (i := 1) (by decide) (by simp) ns d5_22 rfl ?_
    intro h1 K1 A1
    have A1 : ArI Z h1 sa [s0, s2, s2, s3, s4] := A1
    refine Go.aloadN 24 d5_23 rfl rfl rfl ?_
    refine Go.iloadN 25 d5_24 rfl rfl ?_
    refine Go.iconst 26 (1 : Int32) d5_25 rfl (by decide) ?_
    refine Go.iadd 27 (2 : Int32) d5_26 rfl (by decide) ?_
    refine Go.iloadN 28 d5_27 rfl rfl ?_
    refine Go.iastore 29 A1 (i := 2) (by decide) (by simp) ns d5_28 rfl ?_
    intro h2 K2 A2
    exact Go.ret d5_29 rfl (by decide) (by decide) ⟨rfl, K1.trans K2 (fun x q => Or.inl q), s2, s1, A2, by omega, by omega, by omega, (fun t q _ => q), fun f => Nat.add_comm _ _⟩
set_option maxRecDepth 65536 in
set_option maxHeartbeats 40000000 in
theorem cs_2 (l : Launch) (Z : State) {n0 : Nat} {h : Heap} {sa : Nat} {s0 s1 s2 s3 s4 : Int32} (A : ArI Z h sa [s0, s1, s2, s3, s4]) (ns : n0 ≤ sa) :
    Go l Z ({ frames := 0, cells := 0, slots := 0, locals := 0 } : Room) ((⟨"com/example/mardec/mardec/explicit/StateHeapPopPinLaw", "cs", "([II)V"⟩ : MethodName), method_3_code, 3, none) n0 (fun r h' => r = none ∧ Keep h h' [sa] ∧ ∃ u v, ArI Z h' sa [s0, s1, u, v, s4] ∧ v.toInt ≤ u.toInt ∧ v.toInt ≤ s2.toInt ∧ v.toInt ≤ s3.toInt ∧ (∀ t : Int, t ≤ s2.toInt → t ≤ s3.toInt → t ≤ v.toInt) ∧ ∀ f : Int32 → Nat, f u + f v = f s2 + f s3) h 0 0 0 #[.val (.ref sa), .val (.int (2 : Int32)), .unset] [] := by
  refine Go.aloadN 1 d5_0 rfl rfl rfl ?_
  refine Go.iloadN 2 d5_1 rfl rfl ?_
  refine Go.iaload 3 A (i := 2) (by decide) rfl d5_2 rfl ?_
  refine Go.aloadN 4 d5_3 rfl rfl rfl ?_
  refine Go.iloadN 5 d5_4 rfl rfl ?_
  refine Go.iconst 6 (1 : Int32) d5_5 rfl (by decide) ?_
  refine Go.iadd 7 (3 : Int32) d5_6 rfl (by decide) ?_
  refine Go.iaload 8 A (i := 3) (by decide) rfl d5_7 rfl ?_
  refine Go.icmpB 29 11 d5_8 (by decide) (by decide) rfl (fun (hc : (s3).toInt ≤ (s2).toInt) => ?_) (fun (hc : (s2).toInt < (s3).toInt) => ?_)
  · exact Go.ret d5_29 rfl (by decide) (by decide) ⟨rfl, Keep.refl _ _, s2, s3, A, by omega, by omega, by omega, (fun t _ q => q), fun f => rfl⟩
  · refine Go.aloadN 12 d5_11 rfl rfl rfl ?_
    refine Go.iloadN 13 d5_12 rfl rfl ?_
    refine Go.iaload 14 A (i := 2) (by decide) rfl d5_13 rfl ?_
    refine Go.istoreN 15 #[.val (.ref sa), .val (.int (2 : Int32)), .val (.int s2)] d5_14 rfl rfl ?_
    refine Go.aloadN 16 d5_15 rfl rfl rfl ?_
    refine Go.iloadN 17 d5_16 rfl rfl ?_
    refine Go.aloadN 18 d5_17 rfl rfl rfl ?_
    refine Go.iloadN 19 d5_18 rfl rfl ?_
    refine Go.iconst 20 (1 : Int32) d5_19 rfl (by decide) ?_
    refine Go.iadd 21 (3 : Int32) d5_20 rfl (by decide) ?_
    refine Go.iaload 22 A (i := 3) (by decide) rfl d5_21 rfl ?_
    refine Go.iastore 23 A (i := 2) (by decide) (by simp) ns d5_22 rfl ?_
    intro h1 K1 A1
    have A1 : ArI Z h1 sa [s0, s1, s3, s3, s4] := A1
    refine Go.aloadN 24 d5_23 rfl rfl rfl ?_
    refine Go.iloadN 25 d5_24 rfl rfl ?_
    refine Go.iconst 26 (1 : Int32) d5_25 rfl (by decide) ?_
    refine Go.iadd 27 (3 : Int32) d5_26 rfl (by decide) ?_
    refine Go.iloadN 28 d5_27 rfl rfl ?_
    refine Go.iastore 29 A1 (i := 3) (by decide) (by simp) ns d5_28 rfl ?_
    intro h2 K2 A2
    exact Go.ret d5_29 rfl (by decide) (by decide) ⟨rfl, K1.trans K2 (fun x q => Or.inl q), s3, s2, A2, by omega, by omega, by omega, (fun t q _ => q), fun f => Nat.add_comm _ _⟩
set_option maxRecDepth 65536 in
set_option maxHeartbeats 40000000 in
theorem cs_3 (l : Launch) (Z : State) {n0 : Nat} {h : Heap} {sa : Nat} {s0 s1 s2 s3 s4 : Int32} (A : ArI Z h sa [s0, s1, s2, s3, s4]) (ns : n0 ≤ sa) :
    Go l Z ({ frames := 0, cells := 0, slots := 0, locals := 0 } : Room) ((⟨"com/example/mardec/mardec/explicit/StateHeapPopPinLaw", "cs", "([II)V"⟩ : MethodName), method_3_code, 3, none) n0 (fun r h' => r = none ∧ Keep h h' [sa] ∧ ∃ u v, ArI Z h' sa [s0, s1, s2, u, v] ∧ v.toInt ≤ u.toInt ∧ v.toInt ≤ s3.toInt ∧ v.toInt ≤ s4.toInt ∧ (∀ t : Int, t ≤ s3.toInt → t ≤ s4.toInt → t ≤ v.toInt) ∧ ∀ f : Int32 → Nat, f u + f v = f s3 + f s4) h 0 0 0 #[.val (.ref sa), .val (.int (3 : Int32)), .unset] [] := by
  refine Go.aloadN 1 d5_0 rfl rfl rfl ?_
  refine Go.iloadN 2 d5_1 rfl rfl ?_
  refine Go.iaload 3 A (i := 3) (by decide) rfl d5_2 rfl ?_
  refine Go.aloadN 4 d5_3 rfl rfl rfl ?_
  refine Go.iloadN 5 d5_4 rfl rfl ?_
  refine Go.iconst 6 (1 : Int32) d5_5 rfl (by decide) ?_
  refine Go.iadd 7 (4 : Int32) d5_6 rfl (by decide) ?_
  refine Go.iaload 8 A (i := 4) (by decide) rfl d5_7 rfl ?_
  refine Go.icmpB 29 11 d5_8 (by decide) (by decide) rfl (fun (hc : (s4).toInt ≤ (s3).toInt) => ?_) (fun (hc : (s3).toInt < (s4).toInt) => ?_)
  · exact Go.ret d5_29 rfl (by decide) (by decide) ⟨rfl, Keep.refl _ _, s3, s4, A, by omega, by omega, by omega, (fun t _ q => q), fun f => rfl⟩
  · refine Go.aloadN 12 d5_11 rfl rfl rfl ?_
    refine Go.iloadN 13 d5_12 rfl rfl ?_
    refine Go.iaload 14 A (i := 3) (by decide) rfl d5_13 rfl ?_
    refine Go.istoreN 15 #[.val (.ref sa), .val (.int (3 : Int32)), .val (.int s3)] d5_14 rfl rfl ?_
    refine Go.aloadN 16 d5_15 rfl rfl rfl ?_
    refine Go.iloadN 17 d5_16 rfl rfl ?_
    refine Go.aloadN 18 d5_17 rfl rfl rfl ?_
    refine Go.iloadN 19 d5_18 rfl rfl ?_
    refine Go.iconst 20 (1 : Int32) d5_19 rfl (by decide) ?_
    refine Go.iadd 21 (4 : Int32) d5_20 rfl (by decide) ?_
    refine Go.iaload 22 A (i := 4) (by decide) rfl d5_21 rfl ?_
    refine Go.iastore 23 A (i := 3) (by decide) (by simp) ns d5_22 rfl ?_
    intro h1 K1 A1
    have A1 : ArI Z h1 sa [s0, s1, s2, s4, s4] := A1
    refine Go.aloadN 24 d5_23 rfl rfl rfl ?_
    refine Go.iloadN 25 d5_24 rfl rfl ?_
    refine Go.iconst 26 (1 : Int32) d5_25 rfl (by decide) ?_
    refine Go.iadd 27 (4 : Int32) d5_26 rfl (by decide) ?_
    refine Go.iloadN 28 d5_27 rfl rfl ?_
    refine Go.iastore 29 A1 (i := 4) (by decide) (by simp) ns d5_28 rfl ?_
    intro h2 K2 A2
    exact Go.ret d5_29 rfl (by decide) (by decide) ⟨rfl, K1.trans K2 (fun x q => Or.inl q), s4, s3, A2, by omega, by omega, by omega, (fun t q _ => q), fun f => Nat.add_comm _ _⟩
theorem same5 {p0 p1 p2 p3 p4 s0 s1 s2 s3 s4 : Int32} (a1 : p1.toInt ≤ p0.toInt) (a2 : p2.toInt ≤ p1.toInt) (a3 : p3.toInt ≤ p2.toInt) (a4 : p4.toInt ≤ p3.toInt) (b1 : s1.toInt ≤ s0.toInt) (b2 : s2.toInt ≤ s1.toInt) (b3 : s3.toInt ≤ s2.toInt) (b4 : s4.toInt ≤ s3.toInt) (hf : ∀ f : Int32 → Nat, f p0 + f p1 + f p2 + f p3 + f p4 = f s0 + f s1 + f s2 + f s3 + f s4) : p0 = s0 ∧ p1 = s1 ∧ p2 = s2 ∧ p3 = s3 ∧ p4 = s4 := by
  have one : ∀ (P : Prop) [Decidable P], (if P then 1 else 0 : Nat) ≤ 1 := fun P _ => by split <;> omega
  have ps0 : ¬ s0.toInt < p0.toInt := fun q => by
    have h := hf (fun w => if p0.toInt ≤ w.toInt then 1 else 0)
    try simp only at h
    rw [if_pos (show p0.toInt ≤ p0.toInt by omega)] at h
    rw [if_neg (show ¬ p0.toInt ≤ s0.toInt by omega)] at h
    rw [if_neg (show ¬ p0.toInt ≤ s1.toInt by omega)] at h
    rw [if_neg (show ¬ p0.toInt ≤ s2.toInt by omega)] at h
    rw [if_neg (show ¬ p0.toInt ≤ s3.toInt by omega)] at h
    rw [if_neg (show ¬ p0.toInt ≤ s4.toInt by omega)] at h
    omega
  have sp0 : ¬ p0.toInt < s0.toInt := fun q => by
    have h := hf (fun w => if s0.toInt ≤ w.toInt then 1 else 0)
    try simp only at h
    rw [if_pos (show s0.toInt ≤ s0.toInt by omega)] at h
    rw [if_neg (show ¬ s0.toInt ≤ p0.toInt by omega)] at h
    rw [if_neg (show ¬ s0.toInt ≤ p1.toInt by omega)] at h
    rw [if_neg (show ¬ s0.toInt ≤ p2.toInt by omega)] at h
    rw [if_neg (show ¬ s0.toInt ≤ p3.toInt by omega)] at h
    rw [if_neg (show ¬ s0.toInt ≤ p4.toInt by omega)] at h
    omega
  have ps1 : ¬ s1.toInt < p1.toInt := fun q => by
    have h := hf (fun w => if p1.toInt ≤ w.toInt then 1 else 0)
    try simp only at h
    rw [if_pos (show p1.toInt ≤ p0.toInt by omega)] at h
    rw [if_pos (show p1.toInt ≤ p1.toInt by omega)] at h
    rw [if_neg (show ¬ p1.toInt ≤ s1.toInt by omega)] at h
    rw [if_neg (show ¬ p1.toInt ≤ s2.toInt by omega)] at h
    rw [if_neg (show ¬ p1.toInt ≤ s3.toInt by omega)] at h
    rw [if_neg (show ¬ p1.toInt ≤ s4.toInt by omega)] at h
    have o0 := one (p1.toInt ≤ s0.toInt)
    omega
  have sp1 : ¬ p1.toInt < s1.toInt := fun q => by
    have h := hf (fun w => if s1.toInt ≤ w.toInt then 1 else 0)
    try simp only at h
    rw [if_pos (show s1.toInt ≤ s0.toInt by omega)] at h
    rw [if_pos (show s1.toInt ≤ s1.toInt by omega)] at h
    rw [if_neg (show ¬ s1.toInt ≤ p1.toInt by omega)] at h
    rw [if_neg (show ¬ s1.toInt ≤ p2.toInt by omega)] at h
    rw [if_neg (show ¬ s1.toInt ≤ p3.toInt by omega)] at h
    rw [if_neg (show ¬ s1.toInt ≤ p4.toInt by omega)] at h
    have o0 := one (s1.toInt ≤ p0.toInt)
    omega
  have ps2 : ¬ s2.toInt < p2.toInt := fun q => by
    have h := hf (fun w => if p2.toInt ≤ w.toInt then 1 else 0)
    try simp only at h
    rw [if_pos (show p2.toInt ≤ p0.toInt by omega)] at h
    rw [if_pos (show p2.toInt ≤ p1.toInt by omega)] at h
    rw [if_pos (show p2.toInt ≤ p2.toInt by omega)] at h
    rw [if_neg (show ¬ p2.toInt ≤ s2.toInt by omega)] at h
    rw [if_neg (show ¬ p2.toInt ≤ s3.toInt by omega)] at h
    rw [if_neg (show ¬ p2.toInt ≤ s4.toInt by omega)] at h
    have o0 := one (p2.toInt ≤ s0.toInt)
    have o1 := one (p2.toInt ≤ s1.toInt)
    omega
  have sp2 : ¬ p2.toInt < s2.toInt := fun q => by
    have h := hf (fun w => if s2.toInt ≤ w.toInt then 1 else 0)
    try simp only at h
    rw [if_pos (show s2.toInt ≤ s0.toInt by omega)] at h
    rw [if_pos (show s2.toInt ≤ s1.toInt by omega)] at h
    rw [if_pos (show s2.toInt ≤ s2.toInt by omega)] at h
    rw [if_neg (show ¬ s2.toInt ≤ p2.toInt by omega)] at h
    rw [if_neg (show ¬ s2.toInt ≤ p3.toInt by omega)] at h
    rw [if_neg (show ¬ s2.toInt ≤ p4.toInt by omega)] at h
    have o0 := one (s2.toInt ≤ p0.toInt)
    have o1 := one (s2.toInt ≤ p1.toInt)
    omega
  have ps3 : ¬ s3.toInt < p3.toInt := fun q => by
    have h := hf (fun w => if p3.toInt ≤ w.toInt then 1 else 0)
    try simp only at h
    rw [if_pos (show p3.toInt ≤ p0.toInt by omega)] at h
    rw [if_pos (show p3.toInt ≤ p1.toInt by omega)] at h
    rw [if_pos (show p3.toInt ≤ p2.toInt by omega)] at h
    rw [if_pos (show p3.toInt ≤ p3.toInt by omega)] at h
    rw [if_neg (show ¬ p3.toInt ≤ s3.toInt by omega)] at h
    rw [if_neg (show ¬ p3.toInt ≤ s4.toInt by omega)] at h
    have o0 := one (p3.toInt ≤ s0.toInt)
    have o1 := one (p3.toInt ≤ s1.toInt)
    have o2 := one (p3.toInt ≤ s2.toInt)
    omega
  have sp3 : ¬ p3.toInt < s3.toInt := fun q => by
    have h := hf (fun w => if s3.toInt ≤ w.toInt then 1 else 0)
    try simp only at h
    rw [if_pos (show s3.toInt ≤ s0.toInt by omega)] at h
    rw [if_pos (show s3.toInt ≤ s1.toInt by omega)] at h
    rw [if_pos (show s3.toInt ≤ s2.toInt by omega)] at h
    rw [if_pos (show s3.toInt ≤ s3.toInt by omega)] at h
    rw [if_neg (show ¬ s3.toInt ≤ p3.toInt by omega)] at h
    rw [if_neg (show ¬ s3.toInt ≤ p4.toInt by omega)] at h
    have o0 := one (s3.toInt ≤ p0.toInt)
    have o1 := one (s3.toInt ≤ p1.toInt)
    have o2 := one (s3.toInt ≤ p2.toInt)
    omega
  have ps4 : ¬ s4.toInt < p4.toInt := fun q => by
    have h := hf (fun w => if p4.toInt ≤ w.toInt then 1 else 0)
    try simp only at h
    rw [if_pos (show p4.toInt ≤ p0.toInt by omega)] at h
    rw [if_pos (show p4.toInt ≤ p1.toInt by omega)] at h
    rw [if_pos (show p4.toInt ≤ p2.toInt by omega)] at h
    rw [if_pos (show p4.toInt ≤ p3.toInt by omega)] at h
    rw [if_pos (show p4.toInt ≤ p4.toInt by omega)] at h
    rw [if_neg (show ¬ p4.toInt ≤ s4.toInt by omega)] at h
    have o0 := one (p4.toInt ≤ s0.toInt)
    have o1 := one (p4.toInt ≤ s1.toInt)
    have o2 := one (p4.toInt ≤ s2.toInt)
    have o3 := one (p4.toInt ≤ s3.toInt)
    omega
  have sp4 : ¬ p4.toInt < s4.toInt := fun q => by
    have h := hf (fun w => if s4.toInt ≤ w.toInt then 1 else 0)
    try simp only at h
    rw [if_pos (show s4.toInt ≤ s0.toInt by omega)] at h
    rw [if_pos (show s4.toInt ≤ s1.toInt by omega)] at h
    rw [if_pos (show s4.toInt ≤ s2.toInt by omega)] at h
    rw [if_pos (show s4.toInt ≤ s3.toInt by omega)] at h
    rw [if_pos (show s4.toInt ≤ s4.toInt by omega)] at h
    rw [if_neg (show ¬ s4.toInt ≤ p4.toInt by omega)] at h
    have o0 := one (s4.toInt ≤ p0.toInt)
    have o1 := one (s4.toInt ≤ p1.toInt)
    have o2 := one (s4.toInt ≤ p2.toInt)
    have o3 := one (s4.toInt ≤ p3.toInt)
    omega
  exact ⟨Int32.toInt_inj.mp (by omega), Int32.toInt_inj.mp (by omega), Int32.toInt_inj.mp (by omega), Int32.toInt_inj.mp (by omega), Int32.toInt_inj.mp (by omega)⟩
set_option maxRecDepth 65536 in
set_option maxHeartbeats 40000000 in
theorem law_go (l : Launch) (Z : State) (a0 : Array Value) (hw : ∀ d ∈ tables_1, d.before a0 Z = true) (a b c d e : Int32) {h : Heap} {n0 : Nat} : Go l Z room_1 (x, code, maxLocals, ret) n0 Q1 h 0 0 0 #[.val (.int a), .val (.int b), .val (.int c), .val (.int d), .val (.int e), .unset, .unset, .unset, .unset, .unset, .unset, .unset] [] := by
  refine Go.new 3 (hw _ (List.mem_of_getElem? (i := 0) rfl)) (hw _ (List.mem_of_getElem? (i := 1) rfl)) (hw _ (List.mem_of_getElem? (i := 2) rfl)) at_0 rfl (by decide) (by decide) ?_
  intro h1 o E1 g1 g2 no X1 D1
  have F_keys : Fld Z h1 o "com/example/mardec/mardec/explicit/StateHeap" "keys" "[D" .null := D1 (Or.inl (hw _ (List.mem_of_getElem? (i := 11) rfl))) (ty := .array .double) (by decide)
  have F_states : Fld Z h1 o "com/example/mardec/mardec/explicit/StateHeap" "states" "[I" .null := D1 (Or.inl (hw _ (List.mem_of_getElem? (i := 14) rfl))) (ty := .array .int) (by decide)
  have F_size : Fld Z h1 o "com/example/mardec/mardec/explicit/StateHeap" "size" "I" (.int 0) := D1 (Or.inl (hw _ (List.mem_of_getElem? (i := 21) rfl))) (ty := .int) (by decide)
  refine Go.dup 4 at_3 rfl rfl ?_
  refine Go.callN 7 [] [(.ref o)] rfl (hw _ (List.mem_of_getElem? (i := 3) rfl)) (hw _ (List.mem_of_getElem? (i := 4) rfl)) (hw _ (List.mem_of_getElem? (i := 5) rfl)) (hw _ (List.mem_of_getElem? (i := 2) rfl)) (by decide) pn_1 pd_2 rfl (ef_1_A o) (init_go l Z a0 hw X1 F_keys F_states F_size no) rfl rfl (by decide) (leB rfl) (by decide) (by decide) at_4 rfl ?_
  rintro v h2 ⟨rfl, kb, sb, tD, tI, H2⟩
  refine Go.astore 9 #[.val (.int a), .val (.int b), .val (.int c), .val (.int d), .val (.int e), .val (.ref o), .unset, .unset, .unset, .unset, .unset, .unset] at_7 rfl rfl rfl ?_
  refine Go.aload 11 at_9 rfl rfl rfl ?_
  refine Go.iloadN 12 at_11 rfl rfl ?_
  refine Go.i2d 13 (FP.i2d a) at_12 rfl rfl ?_
  refine Go.iloadN 14 at_13 rfl rfl ?_
  refine Go.callV 17 [(.double (FP.i2d a)), (.int a)] [] (hw _ (List.mem_of_getElem? (i := 15) rfl)) (hw _ (List.mem_of_getElem? (i := 16) rfl)) (hw _ (List.mem_of_getElem? (i := 18) rfl)) (hw _ (List.mem_of_getElem? (i := 17) rfl)) (hw _ (List.mem_of_getElem? (i := 19) rfl)) (hw _ (List.mem_of_getElem? (i := 2) rfl)) (by decide) pn_1 pd_4 rfl H2.1.1 (ef_3_ADI o (FP.i2d a) a) (push_0 l Z a0 hw a H2 ) rfl rfl (by decide) (leB rfl) (by decide) (by decide) at_14 rfl ?_
  rintro v h3 ⟨rfl, y0_0, y0_1, y0_2, y0_3, y0_4, H3, f0⟩
  refine Go.aload 19 at_17 rfl rfl rfl ?_
  refine Go.iloadN 20 at_19 rfl rfl ?_
  refine Go.i2d 21 (FP.i2d b) at_20 rfl rfl ?_
  refine Go.iloadN 22 at_21 rfl rfl ?_
  refine Go.callV 25 [(.double (FP.i2d b)), (.int b)] [] (hw _ (List.mem_of_getElem? (i := 15) rfl)) (hw _ (List.mem_of_getElem? (i := 16) rfl)) (hw _ (List.mem_of_getElem? (i := 18) rfl)) (hw _ (List.mem_of_getElem? (i := 17) rfl)) (hw _ (List.mem_of_getElem? (i := 19) rfl)) (hw _ (List.mem_of_getElem? (i := 2) rfl)) (by decide) pn_1 pd_4 rfl H3.1.1 (ef_3_ADI o (FP.i2d b) b) (push_1 l Z a0 hw b H3 ) rfl rfl (by decide) (leB rfl) (by decide) (by decide) at_22 rfl ?_
  rintro v h4 ⟨rfl, y1_0, y1_1, y1_2, y1_3, y1_4, H4, p1_0, f1⟩
  refine Go.aload 27 at_25 rfl rfl rfl ?_
  refine Go.iloadN 28 at_27 rfl rfl ?_
  refine Go.i2d 29 (FP.i2d c) at_28 rfl rfl ?_
  refine Go.iloadN 30 at_29 rfl rfl ?_
  refine Go.callV 33 [(.double (FP.i2d c)), (.int c)] [] (hw _ (List.mem_of_getElem? (i := 15) rfl)) (hw _ (List.mem_of_getElem? (i := 16) rfl)) (hw _ (List.mem_of_getElem? (i := 18) rfl)) (hw _ (List.mem_of_getElem? (i := 17) rfl)) (hw _ (List.mem_of_getElem? (i := 19) rfl)) (hw _ (List.mem_of_getElem? (i := 2) rfl)) (by decide) pn_1 pd_4 rfl H4.1.1 (ef_3_ADI o (FP.i2d c) c) (push_2 l Z a0 hw c H4 p1_0) rfl rfl (by decide) (leB rfl) (by decide) (by decide) at_30 rfl ?_
  rintro v h5 ⟨rfl, y2_0, y2_1, y2_2, y2_3, y2_4, H5, p2_0, p2_1, f2⟩
  refine Go.aload 35 at_33 rfl rfl rfl ?_
  refine Go.iloadN 36 at_35 rfl rfl ?_
  refine Go.i2d 37 (FP.i2d d) at_36 rfl rfl ?_
  refine Go.iloadN 38 at_37 rfl rfl ?_
  refine Go.callV 41 [(.double (FP.i2d d)), (.int d)] [] (hw _ (List.mem_of_getElem? (i := 15) rfl)) (hw _ (List.mem_of_getElem? (i := 16) rfl)) (hw _ (List.mem_of_getElem? (i := 18) rfl)) (hw _ (List.mem_of_getElem? (i := 17) rfl)) (hw _ (List.mem_of_getElem? (i := 19) rfl)) (hw _ (List.mem_of_getElem? (i := 2) rfl)) (by decide) pn_1 pd_4 rfl H5.1.1 (ef_3_ADI o (FP.i2d d) d) (push_3 l Z a0 hw d H5 p2_0 p2_1) rfl rfl (by decide) (leB rfl) (by decide) (by decide) at_38 rfl ?_
  rintro v h6 ⟨rfl, y3_0, y3_1, y3_2, y3_3, y3_4, H6, p3_0, p3_1, p3_2, f3⟩
  refine Go.aload 43 at_41 rfl rfl rfl ?_
  refine Go.iload 45 at_43 rfl rfl ?_
  refine Go.i2d 46 (FP.i2d e) at_45 rfl rfl ?_
  refine Go.iload 48 at_46 rfl rfl ?_
  refine Go.callV 51 [(.double (FP.i2d e)), (.int e)] [] (hw _ (List.mem_of_getElem? (i := 15) rfl)) (hw _ (List.mem_of_getElem? (i := 16) rfl)) (hw _ (List.mem_of_getElem? (i := 18) rfl)) (hw _ (List.mem_of_getElem? (i := 17) rfl)) (hw _ (List.mem_of_getElem? (i := 19) rfl)) (hw _ (List.mem_of_getElem? (i := 2) rfl)) (by decide) pn_1 pd_4 rfl H6.1.1 (ef_3_ADI o (FP.i2d e) e) (push_4 l Z a0 hw e H6 p3_0 p3_1 p3_2) rfl rfl (by decide) (leB rfl) (by decide) (by decide) at_48 rfl ?_
  rintro v h7 ⟨rfl, y4_0, y4_1, y4_2, y4_3, y4_4, H7, p4_0, p4_1, p4_2, p4_3, f4⟩
  refine Go.aload 53 at_51 rfl rfl rfl ?_
  refine Go.callV 56 [] [] (hw _ (List.mem_of_getElem? (i := 22) rfl)) (hw _ (List.mem_of_getElem? (i := 23) rfl)) (hw _ (List.mem_of_getElem? (i := 25) rfl)) (hw _ (List.mem_of_getElem? (i := 24) rfl)) (hw _ (List.mem_of_getElem? (i := 26) rfl)) (hw _ (List.mem_of_getElem? (i := 2) rfl)) (by decide) pn_1 pd_6 rfl H7.1.1 (ef_4_A o) (pop_5 l Z a0 hw H7 p4_0 p4_1 p4_2 p4_3) rfl rfl (by decide) (leB rfl) (by decide) (by decide) at_53 rfl ?_
  rintro _ h8 ⟨rfl, z0_0, z0_1, z0_2, z0_3, z0_4, H8, r0_0, r0_1, r0_2, g0, b0_0, b0_1, b0_2, b0_3, -⟩
  refine Go.istore 58 #[.val (.int a), .val (.int b), .val (.int c), .val (.int d), .val (.int e), .val (.ref o), .val (.int y4_0), .unset, .unset, .unset, .unset, .unset] at_56 rfl rfl ?_
  refine Go.aload 60 at_58 rfl rfl rfl ?_
  refine Go.callV 63 [] [] (hw _ (List.mem_of_getElem? (i := 22) rfl)) (hw _ (List.mem_of_getElem? (i := 23) rfl)) (hw _ (List.mem_of_getElem? (i := 25) rfl)) (hw _ (List.mem_of_getElem? (i := 24) rfl)) (hw _ (List.mem_of_getElem? (i := 26) rfl)) (hw _ (List.mem_of_getElem? (i := 2) rfl)) (by decide) pn_1 pd_6 rfl H8.1.1 (ef_4_A o) (pop_4 l Z a0 hw H8 r0_0 r0_1 r0_2) rfl rfl (by decide) (leB rfl) (by decide) (by decide) at_60 rfl ?_
  rintro _ h9 ⟨rfl, z1_0, z1_1, z1_2, z1_3, z1_4, H9, r1_0, r1_1, g1, b1_0, b1_1, b1_2, -⟩
  refine Go.istore 65 #[.val (.int a), .val (.int b), .val (.int c), .val (.int d), .val (.int e), .val (.ref o), .val (.int y4_0), .val (.int z0_0), .unset, .unset, .unset, .unset] at_63 rfl rfl ?_
  refine Go.aload 67 at_65 rfl rfl rfl ?_
  refine Go.callV 70 [] [] (hw _ (List.mem_of_getElem? (i := 22) rfl)) (hw _ (List.mem_of_getElem? (i := 23) rfl)) (hw _ (List.mem_of_getElem? (i := 25) rfl)) (hw _ (List.mem_of_getElem? (i := 24) rfl)) (hw _ (List.mem_of_getElem? (i := 26) rfl)) (hw _ (List.mem_of_getElem? (i := 2) rfl)) (by decide) pn_1 pd_6 rfl H9.1.1 (ef_4_A o) (pop_3 l Z a0 hw H9 r1_0 r1_1) rfl rfl (by decide) (leB rfl) (by decide) (by decide) at_67 rfl ?_
  rintro _ h10 ⟨rfl, z2_0, z2_1, z2_2, z2_3, z2_4, H10, r2_0, g2, b2_0, b2_1, -⟩
  refine Go.istore 72 #[.val (.int a), .val (.int b), .val (.int c), .val (.int d), .val (.int e), .val (.ref o), .val (.int y4_0), .val (.int z0_0), .val (.int z1_0), .unset, .unset, .unset] at_70 rfl rfl ?_
  refine Go.aload 74 at_72 rfl rfl rfl ?_
  refine Go.callV 77 [] [] (hw _ (List.mem_of_getElem? (i := 22) rfl)) (hw _ (List.mem_of_getElem? (i := 23) rfl)) (hw _ (List.mem_of_getElem? (i := 25) rfl)) (hw _ (List.mem_of_getElem? (i := 24) rfl)) (hw _ (List.mem_of_getElem? (i := 26) rfl)) (hw _ (List.mem_of_getElem? (i := 2) rfl)) (by decide) pn_1 pd_6 rfl H10.1.1 (ef_4_A o) (pop_2 l Z a0 hw H10 r2_0) rfl rfl (by decide) (leB rfl) (by decide) (by decide) at_74 rfl ?_
  rintro _ h11 ⟨rfl, z3_0, z3_1, z3_2, z3_3, z3_4, H11, g3, b3_0, -⟩
  refine Go.istore 79 #[.val (.int a), .val (.int b), .val (.int c), .val (.int d), .val (.int e), .val (.ref o), .val (.int y4_0), .val (.int z0_0), .val (.int z1_0), .val (.int z2_0), .unset, .unset] at_77 rfl rfl ?_
  refine Go.aload 81 at_79 rfl rfl rfl ?_
  refine Go.callV 84 [] [] (hw _ (List.mem_of_getElem? (i := 22) rfl)) (hw _ (List.mem_of_getElem? (i := 23) rfl)) (hw _ (List.mem_of_getElem? (i := 25) rfl)) (hw _ (List.mem_of_getElem? (i := 24) rfl)) (hw _ (List.mem_of_getElem? (i := 26) rfl)) (hw _ (List.mem_of_getElem? (i := 2) rfl)) (by decide) pn_1 pd_6 rfl H11.1.1 (ef_4_A o) (pop_1 l Z a0 hw H11 ) rfl rfl (by decide) (leB rfl) (by decide) (by decide) at_81 rfl ?_
  rintro _ h12 ⟨rfl, z4_0, z4_1, z4_2, z4_3, z4_4, H12, g4, -⟩
  refine Go.istore 86 #[.val (.int a), .val (.int b), .val (.int c), .val (.int d), .val (.int e), .val (.ref o), .val (.int y4_0), .val (.int z0_0), .val (.int z1_0), .val (.int z2_0), .val (.int z3_0), .unset] at_84 rfl rfl ?_
  refine Go.iconst 87 (5 : Int32) at_86 rfl (by decide) ?_
  refine Go.newI 89 5 (hw _ (List.mem_of_getElem? (i := 12) rfl)) (i := 5) (by decide) (by decide) (by decide) at_87 rfl (by decide) (by decide) ?_
  intro j0 sa E13 g13 ns A
  have A : ArI Z j0 sa [0, 0, 0, 0, 0] := A
  refine Go.astore 91 #[.val (.int a), .val (.int b), .val (.int c), .val (.int d), .val (.int e), .val (.ref o), .val (.int y4_0), .val (.int z0_0), .val (.int z1_0), .val (.int z2_0), .val (.int z3_0), .val (.ref sa)] at_89 rfl rfl rfl ?_
  refine Go.aload 93 at_91 rfl rfl rfl ?_
  refine Go.iconst 94 (0 : Int32) at_93 rfl (by decide) ?_
  refine Go.iloadN 95 at_94 rfl rfl ?_
  refine Go.iastore 96 A (i := 0) (by decide) (by simp) ns at_95 rfl ?_
  intro j1 Kj0 Aj0
  have A : ArI Z j1 sa [a, 0, 0, 0, 0] := Aj0
  refine Go.aload 98 at_96 rfl rfl rfl ?_
  refine Go.iconst 99 (1 : Int32) at_98 rfl (by decide) ?_
  refine Go.iloadN 100 at_99 rfl rfl ?_
  refine Go.iastore 101 A (i := 1) (by decide) (by simp) ns at_100 rfl ?_
  intro j2 Kj1 Aj1
  have A : ArI Z j2 sa [a, b, 0, 0, 0] := Aj1
  refine Go.aload 103 at_101 rfl rfl rfl ?_
  refine Go.iconst 104 (2 : Int32) at_103 rfl (by decide) ?_
  refine Go.iloadN 105 at_104 rfl rfl ?_
  refine Go.iastore 106 A (i := 2) (by decide) (by simp) ns at_105 rfl ?_
  intro j3 Kj2 Aj2
  have A : ArI Z j3 sa [a, b, c, 0, 0] := Aj2
  refine Go.aload 108 at_106 rfl rfl rfl ?_
  refine Go.iconst 109 (3 : Int32) at_108 rfl (by decide) ?_
  refine Go.iloadN 110 at_109 rfl rfl ?_
  refine Go.iastore 111 A (i := 3) (by decide) (by simp) ns at_110 rfl ?_
  intro j4 Kj3 Aj3
  have A : ArI Z j4 sa [a, b, c, d, 0] := Aj3
  refine Go.aload 113 at_111 rfl rfl rfl ?_
  refine Go.iconst 114 (4 : Int32) at_113 rfl (by decide) ?_
  refine Go.iload 116 at_114 rfl rfl ?_
  refine Go.iastore 117 A (i := 4) (by decide) (by simp) ns at_116 rfl ?_
  intro j5 Kj4 Aj4
  have A : ArI Z j5 sa [a, b, c, d, e] := Aj4
  refine Go.aload 119 at_117 rfl rfl rfl ?_
  refine Go.iconst 120 (0 : Int32) at_119 rfl (by decide) ?_
  refine Go.callS 123 [(.ref sa), (.int (0 : Int32))] [] (hw _ (List.mem_of_getElem? (i := 27) rfl)) (hw _ (List.mem_of_getElem? (i := 28) rfl)) (hw _ (List.mem_of_getElem? (i := 30) rfl)) (hw _ (List.mem_of_getElem? (i := 29) rfl)) (by decide) pn_8 pd_9 rfl (ef_5_AI sa (0 : Int32)) (cs_0 l Z A ns) rfl rfl (by decide) (leB rfl) (by decide) (by decide) at_120 rfl ?_
  rintro _ m1 ⟨rfl, -, u1, v1, A, c1, d1, e1, t1, k1⟩
  refine Go.aload 125 at_123 rfl rfl rfl ?_
  refine Go.iconst 126 (1 : Int32) at_125 rfl (by decide) ?_
  refine Go.callS 129 [(.ref sa), (.int (1 : Int32))] [] (hw _ (List.mem_of_getElem? (i := 27) rfl)) (hw _ (List.mem_of_getElem? (i := 28) rfl)) (hw _ (List.mem_of_getElem? (i := 30) rfl)) (hw _ (List.mem_of_getElem? (i := 29) rfl)) (by decide) pn_8 pd_9 rfl (ef_5_AI sa (1 : Int32)) (cs_1 l Z A ns) rfl rfl (by decide) (leB rfl) (by decide) (by decide) at_126 rfl ?_
  rintro _ m2 ⟨rfl, -, u2, v2, A, c2, d2, e2, t2, k2⟩
  refine Go.aload 131 at_129 rfl rfl rfl ?_
  refine Go.iconst 132 (2 : Int32) at_131 rfl (by decide) ?_
  refine Go.callS 135 [(.ref sa), (.int (2 : Int32))] [] (hw _ (List.mem_of_getElem? (i := 27) rfl)) (hw _ (List.mem_of_getElem? (i := 28) rfl)) (hw _ (List.mem_of_getElem? (i := 30) rfl)) (hw _ (List.mem_of_getElem? (i := 29) rfl)) (by decide) pn_8 pd_9 rfl (ef_5_AI sa (2 : Int32)) (cs_2 l Z A ns) rfl rfl (by decide) (leB rfl) (by decide) (by decide) at_132 rfl ?_
  rintro _ m3 ⟨rfl, -, u3, v3, A, c3, d3, e3, t3, k3⟩
  refine Go.aload 137 at_135 rfl rfl rfl ?_
  refine Go.iconst 138 (3 : Int32) at_137 rfl (by decide) ?_
  refine Go.callS 141 [(.ref sa), (.int (3 : Int32))] [] (hw _ (List.mem_of_getElem? (i := 27) rfl)) (hw _ (List.mem_of_getElem? (i := 28) rfl)) (hw _ (List.mem_of_getElem? (i := 30) rfl)) (hw _ (List.mem_of_getElem? (i := 29) rfl)) (by decide) pn_8 pd_9 rfl (ef_5_AI sa (3 : Int32)) (cs_3 l Z A ns) rfl rfl (by decide) (leB rfl) (by decide) (by decide) at_138 rfl ?_
  rintro _ m4 ⟨rfl, -, u4, v4, A, c4, d4, e4, t4, k4⟩
  refine Go.aload 143 at_141 rfl rfl rfl ?_
  refine Go.iconst 144 (0 : Int32) at_143 rfl (by decide) ?_
  refine Go.callS 147 [(.ref sa), (.int (0 : Int32))] [] (hw _ (List.mem_of_getElem? (i := 27) rfl)) (hw _ (List.mem_of_getElem? (i := 28) rfl)) (hw _ (List.mem_of_getElem? (i := 30) rfl)) (hw _ (List.mem_of_getElem? (i := 29) rfl)) (by decide) pn_8 pd_9 rfl (ef_5_AI sa (0 : Int32)) (cs_0 l Z A ns) rfl rfl (by decide) (leB rfl) (by decide) (by decide) at_144 rfl ?_
  rintro _ m5 ⟨rfl, -, u5, v5, A, c5, d5, e5, t5, k5⟩
  refine Go.aload 149 at_147 rfl rfl rfl ?_
  refine Go.iconst 150 (1 : Int32) at_149 rfl (by decide) ?_
  refine Go.callS 153 [(.ref sa), (.int (1 : Int32))] [] (hw _ (List.mem_of_getElem? (i := 27) rfl)) (hw _ (List.mem_of_getElem? (i := 28) rfl)) (hw _ (List.mem_of_getElem? (i := 30) rfl)) (hw _ (List.mem_of_getElem? (i := 29) rfl)) (by decide) pn_8 pd_9 rfl (ef_5_AI sa (1 : Int32)) (cs_1 l Z A ns) rfl rfl (by decide) (leB rfl) (by decide) (by decide) at_150 rfl ?_
  rintro _ m6 ⟨rfl, -, u6, v6, A, c6, d6, e6, t6, k6⟩
  refine Go.aload 155 at_153 rfl rfl rfl ?_
  refine Go.iconst 156 (2 : Int32) at_155 rfl (by decide) ?_
  refine Go.callS 159 [(.ref sa), (.int (2 : Int32))] [] (hw _ (List.mem_of_getElem? (i := 27) rfl)) (hw _ (List.mem_of_getElem? (i := 28) rfl)) (hw _ (List.mem_of_getElem? (i := 30) rfl)) (hw _ (List.mem_of_getElem? (i := 29) rfl)) (by decide) pn_8 pd_9 rfl (ef_5_AI sa (2 : Int32)) (cs_2 l Z A ns) rfl rfl (by decide) (leB rfl) (by decide) (by decide) at_156 rfl ?_
  rintro _ m7 ⟨rfl, -, u7, v7, A, c7, d7, e7, t7, k7⟩
  refine Go.aload 161 at_159 rfl rfl rfl ?_
  refine Go.iconst 162 (0 : Int32) at_161 rfl (by decide) ?_
  refine Go.callS 165 [(.ref sa), (.int (0 : Int32))] [] (hw _ (List.mem_of_getElem? (i := 27) rfl)) (hw _ (List.mem_of_getElem? (i := 28) rfl)) (hw _ (List.mem_of_getElem? (i := 30) rfl)) (hw _ (List.mem_of_getElem? (i := 29) rfl)) (by decide) pn_8 pd_9 rfl (ef_5_AI sa (0 : Int32)) (cs_0 l Z A ns) rfl rfl (by decide) (leB rfl) (by decide) (by decide) at_162 rfl ?_
  rintro _ m8 ⟨rfl, -, u8, v8, A, c8, d8, e8, t8, k8⟩
  refine Go.aload 167 at_165 rfl rfl rfl ?_
  refine Go.iconst 168 (1 : Int32) at_167 rfl (by decide) ?_
  refine Go.callS 171 [(.ref sa), (.int (1 : Int32))] [] (hw _ (List.mem_of_getElem? (i := 27) rfl)) (hw _ (List.mem_of_getElem? (i := 28) rfl)) (hw _ (List.mem_of_getElem? (i := 30) rfl)) (hw _ (List.mem_of_getElem? (i := 29) rfl)) (by decide) pn_8 pd_9 rfl (ef_5_AI sa (1 : Int32)) (cs_1 l Z A ns) rfl rfl (by decide) (leB rfl) (by decide) (by decide) at_168 rfl ?_
  rintro _ m9 ⟨rfl, -, u9, v9, A, c9, d9, e9, t9, k9⟩
  refine Go.aload 173 at_171 rfl rfl rfl ?_
  refine Go.iconst 174 (0 : Int32) at_173 rfl (by decide) ?_
  refine Go.callS 177 [(.ref sa), (.int (0 : Int32))] [] (hw _ (List.mem_of_getElem? (i := 27) rfl)) (hw _ (List.mem_of_getElem? (i := 28) rfl)) (hw _ (List.mem_of_getElem? (i := 30) rfl)) (hw _ (List.mem_of_getElem? (i := 29) rfl)) (by decide) pn_8 pd_9 rfl (ef_5_AI sa (0 : Int32)) (cs_0 l Z A ns) rfl rfl (by decide) (leB rfl) (by decide) (by decide) at_174 rfl ?_
  rintro _ m10 ⟨rfl, -, u10, v10, A, c10, d10, e10, t10, k10⟩
  have l2_0 : v2.toInt ≤ u1.toInt := by omega
  have l3_0 : v3.toInt ≤ u1.toInt := by omega
  have l3_1 : v3.toInt ≤ u2.toInt := by omega
  have l4_0 : v4.toInt ≤ u1.toInt := by omega
  have l4_1 : v4.toInt ≤ u2.toInt := by omega
  have l4_2 : v4.toInt ≤ u3.toInt := by omega
  have w5_v4 : v4.toInt ≤ v5.toInt ∧ v4.toInt ≤ u5.toInt := by have := t5 v4.toInt (by omega) (by omega); constructor <;> omega
  have l6_0 : v6.toInt ≤ u5.toInt := by omega
  have w6_v4 : v4.toInt ≤ v6.toInt ∧ v4.toInt ≤ u6.toInt := by have := t6 v4.toInt (by omega) (by omega); constructor <;> omega
  have l7_0 : v7.toInt ≤ u5.toInt := by omega
  have l7_1 : v7.toInt ≤ u6.toInt := by omega
  have w7_v4 : v4.toInt ≤ v7.toInt ∧ v4.toInt ≤ u7.toInt := by have := t7 v4.toInt (by omega) (by omega); constructor <;> omega
  have w8_v4 : v4.toInt ≤ v8.toInt ∧ v4.toInt ≤ u8.toInt := by have := t8 v4.toInt (by omega) (by omega); constructor <;> omega
  have w8_v7 : v7.toInt ≤ v8.toInt ∧ v7.toInt ≤ u8.toInt := by have := t8 v7.toInt (by omega) (by omega); constructor <;> omega
  have l9_0 : v9.toInt ≤ u8.toInt := by omega
  have w9_v4 : v4.toInt ≤ v9.toInt ∧ v4.toInt ≤ u9.toInt := by have := t9 v4.toInt (by omega) (by omega); constructor <;> omega
  have w9_v7 : v7.toInt ≤ v9.toInt ∧ v7.toInt ≤ u9.toInt := by have := t9 v7.toInt (by omega) (by omega); constructor <;> omega
  have w10_v4 : v4.toInt ≤ v10.toInt ∧ v4.toInt ≤ u10.toInt := by have := t10 v4.toInt (by omega) (by omega); constructor <;> omega
  have w10_v7 : v7.toInt ≤ v10.toInt ∧ v7.toInt ≤ u10.toInt := by have := t10 v7.toInt (by omega) (by omega); constructor <;> omega
  have w10_v9 : v9.toInt ≤ v10.toInt ∧ v9.toInt ≤ u10.toInt := by have := t10 v9.toInt (by omega) (by omega); constructor <;> omega
  have hf : ∀ f : Int32 → Nat, f y4_0 + f z0_0 + f z1_0 + f z2_0 + f z3_0 = f u10 + f v10 + f v9 + f v7 + f v4 := by
    intro f
    have := f0 f
    have := f1 f
    have := f2 f
    have := f3 f
    have := f4 f
    have := g0 f
    have := g1 f
    have := g2 f
    have := g3 f
    have := g4 f
    have := k1 f
    have := k2 f
    have := k3 f
    have := k4 f
    have := k5 f
    have := k6 f
    have := k7 f
    have := k8 f
    have := k9 f
    have := k10 f
    omega
  obtain ⟨q0, q1, q2, q3, q4⟩ := same5 (by omega) (by omega) (by omega) (by omega) (by omega) (by omega) (by omega) (by omega) hf
  refine Go.iload 179 at_177 rfl rfl ?_
  refine Go.aload 181 at_179 rfl rfl rfl ?_
  refine Go.iconst 182 (0 : Int32) at_181 rfl (by decide) ?_
  refine Go.iaload 183 A (i := 0) (by decide) rfl at_182 rfl ?_
  refine Go.icmpF 186 at_183 rfl (show (y4_0).toInt = (u10).toInt from by rw [q0]) ?_
  refine Go.iload 188 at_186 rfl rfl ?_
  refine Go.aload 190 at_188 rfl rfl rfl ?_
  refine Go.iconst 191 (1 : Int32) at_190 rfl (by decide) ?_
  refine Go.iaload 192 A (i := 1) (by decide) rfl at_191 rfl ?_
  refine Go.icmpF 195 at_192 rfl (show (z0_0).toInt = (v10).toInt from by rw [q1]) ?_
  refine Go.iload 197 at_195 rfl rfl ?_
  refine Go.aload 199 at_197 rfl rfl rfl ?_
  refine Go.iconst 200 (2 : Int32) at_199 rfl (by decide) ?_
  refine Go.iaload 201 A (i := 2) (by decide) rfl at_200 rfl ?_
  refine Go.icmpF 204 at_201 rfl (show (z1_0).toInt = (v9).toInt from by rw [q2]) ?_
  refine Go.iload 206 at_204 rfl rfl ?_
  refine Go.aload 208 at_206 rfl rfl rfl ?_
  refine Go.iconst 209 (3 : Int32) at_208 rfl (by decide) ?_
  refine Go.iaload 210 A (i := 3) (by decide) rfl at_209 rfl ?_
  refine Go.icmpF 213 at_210 rfl (show (z2_0).toInt = (v7).toInt from by rw [q3]) ?_
  refine Go.iload 215 at_213 rfl rfl ?_
  refine Go.aload 217 at_215 rfl rfl rfl ?_
  refine Go.iconst 218 (4 : Int32) at_217 rfl (by decide) ?_
  refine Go.iaload 219 A (i := 4) (by decide) rfl at_218 rfl ?_
  refine Go.icmpF 222 at_219 rfl (show (z3_0).toInt = (v4).toInt from by rw [q4]) ?_
  refine Go.iconst 223 (1 : Int32) at_222 rfl (by decide) ?_
  refine Go.goto 227 at_223 (by decide) (by decide) ?_
  exact Go.zret at_227 rfl (Or.inr rfl) (by decide) (by decide) rfl
set_option maxRecDepth 65536 in
set_option maxHeartbeats 40000000 in
theorem comes_1 {Post : Tables → Env → Array Value → State → Outcome → State → Prop} (hpost : ∀ tb e args s v u, (limb_1_1.after args s (.returned v) u = true ∧ limb_1_2.after args s (.returned v) u = true ∧ True) → FrameEnd s (.returned v) u (Jvm.fieldLocs frame_1_writes args s ++ Jvm.arrayLocs frame_1_arrays args s ++ Jvm.staticLocs frame_1_statics s) 16 384 → Post tb e args s (.returned v) u) :
    ArmFor flags0 classFile x code maxLocals ret World_1 tables_1 room_1 Calls_1 rest_1 Pre_1 Post := by
  intro l hfl _ _ p e ha hc hk s m args below hf hA hF happ hP
  obtain ⟨hcalls, hrest, hpre⟩ := hP
  obtain ⟨-, -, -, hnamed, -, -, -, hat⟩ := (Spec.applies_iff hf).mp happ
  obtain ⟨hg, hn⟩ := and_e (Cond.before_iff.mp (show (Jvm.Cond.and given_1 narrow_1).before args s = true from hpre))
  obtain ⟨h1, g0⟩ := and_e hg
  obtain ⟨k0, g1⟩ := and_e g0
  obtain ⟨k1, g2⟩ := and_e g1
  obtain ⟨k2, g3⟩ := and_e g2
  obtain ⟨k3, g4⟩ := and_e g3
  obtain ⟨w0, w1, w2, w3, w4, rfl⟩ : ∃ w0 w1 w2 w3 w4 : Value, args = #[w0, w1, w2, w3, w4] := by
    have hs : args.size = 5 := by simpa [Cond.value, given_1] using h1
    obtain ⟨L⟩ := args
    match L, hs with
    | [w0, w1, w2, w3, w4], _ => exact ⟨w0, w1, w2, w3, w4, rfl⟩
  have hw := fun d (hd : d ∈ tables_1) => atoms_spec (ws := Jvm.Cond.code x code maxLocals ret :: tables_1) hat d (List.mem_cons_of_mem _ hd)
  obtain ⟨i0, e0⟩ := is_v k0
  obtain rfl : w0 = (.int i0) := Option.some.inj e0
  obtain ⟨i1, e1⟩ := is_v k1
  obtain rfl : w1 = (.int i1) := Option.some.inj e1
  obtain ⟨i2, e2⟩ := is_v k2
  obtain rfl : w2 = (.int i2) := Option.some.inj e2
  obtain ⟨i3, e3⟩ := is_v k3
  obtain rfl : w3 = (.int i3) := Option.some.inj e3
  obtain ⟨i4, e4⟩ := is_v g4
  obtain rfl : w4 = (.int i4) := Option.some.inj e4
  obtain ⟨n, o, h1, h2, h3, _, L, rfl, ⟨rfl, -, N⟩, hq⟩ := (law_go l s _ hw i0 i1 i2 i3 i4 (h := s.heap) (n0 := s.heap.size)).met (ws := tables_1) (Q := Q1) law_pn (Nat.le_refl s.heap.size) (ef_0_IIIII i0 i1 i2 i3 i4) p e ha hc hk s m _ below hf ((Spec.applies_iff_loose hf).mp happ).1 ⟨rfl, State.WarmedH.refl s, rfl⟩ trivial
  refine ⟨n, _, h1, h2, h3, hpost _ _ _ _ _ _ ⟨Cond.after_iff.mpr rfl, Cond.after_iff.mpr (eq_i res_at (Term.int_eval (1)) rfl), trivial⟩ ⟨hq.1, hq.2.1, (hq.2.2.sift fun y hy => Or.inr (N y hy)).mono (by decide) (by decide)⟩⟩
theorem main_1_1 : Claimed_1_1 := comes_1 fun _ _ _ _ _ _ h hF => ⟨h.1, hF⟩
theorem main_1_2 : Claimed_1_2 := comes_1 fun _ _ _ _ _ _ h hF => ⟨h.2.1, hF⟩
end Jvm.Pilot.@@N@@
namespace Jvm.Pilot.@@N@@
open Jvm Jvm.ClassFile Sem Op Lib Jvm.Free Jvm.Stand Jvm.Pilot.@@N@@.Jvm.D
/-! MADE BY PROGRAM (witnessworld.py) out of the Statement's table words and the real class files: 11 classes; the members and pool entries that the words name. The judged class is class 1, her method 1. -/
namespace start1
open Jvm.ClassFile
def u (s : String) : CpInfo := .utf8 (stringToUtf16 s)
/-- a pool by its gaps: so many unusable entries, then the entry; so many at the end -/
def gap : Nat → List CpInfo → List CpInfo
  | 0, r => r
  | n + 1, r => .unusable :: gap n r
def poolList (es : List (Nat × CpInfo)) (last : Nat) : List CpInfo := es.foldr (fun e r => gap e.1 (e.2 :: r)) (gap last [])
def pool (es : List (Nat × CpInfo)) (last : Nat) : Array CpInfo := ⟨poolList es last⟩
def fileOf (pool : Array CpInfo) (this : Nat) (attrs : Array Attribute := #[]) (ms : Array MethodInfo := #[]) (fl : Nat := 33) (sup : Nat := 0) (ifs : Array Nat := #[]) (fds : Array FieldInfo := #[]) : ClassFile where
  minorVersion := 0
  majorVersion := 65
  constantPool := pool
  accessFlags := fl
  thisClass := this
  superClass := sup
  interfaces := ifs
  fields := fds
  methods := ms
  attributes := attrs
def plain (name : String) (sup : Option ClassId) : Class where
  name := name
  kind := .ordinary
  loader := none
  accessFlags := 33
  super := sup
  interfaces := #[]
  cf := none
  fields := #[]
  methods := #[]
  instanceTypes := #[]
  staticTypes := #[]
  resolved := #[]
  callSites := []
  init := .initialized
  statics := none
  mirror := none

def pool0 : Array CpInfo := pool [(5, u "<init>"), (0, u "()V"), (1, .class_ 10), (1, u "java/lang/Object")] 113

def k0c0 : Code := { maxStack := 0, maxLocals := 1, code := object_method_1_code, exceptionTable := #[], attributes := #[] }
def k0m0 : Method := { name := "<init>", desc := "()V", sig := { parameters := [], returnType := none }, accessFlags := 1, code := some k0c0 }
/-- java/lang/Object -/
def k0 : Class := { plain "java/lang/Object" none with
  accessFlags := 33
  interfaces := #[]
  cf := some (fileOf pool0 8 #[] #[{ accessFlags := 1, nameIndex := 5, descriptorIndex := 6, attributes := #[] }] 33 0 #[] #[])
  fields := #[]
  methods := #[k0m0]
  instanceTypes := #[]
  staticTypes := #[]
  resolved := Array.replicate 124 none
  statics := none }

def pool1 : Array CpInfo := pool [(2, .class_ 4), (0, .nameAndType 5 6), (0, u "java/lang/Object"), (0, u "<init>"), (0, u "()V"), (0, .class_ 8), (0, u "com/example/mardec/mardec/explicit/StateHeap"), (0, .methodref 7 3), (0, .methodref 7 11), (0, .nameAndType 12 13), (0, u "push"), (0, u "(DI)V"), (0, .methodref 7 15), (0, .nameAndType 16 17), (0, u "pop"), (0, u "()I"), (0, .methodref 19 20), (0, .class_ 21), (0, .nameAndType 22 23), (0, u "com/example/mardec/mardec/explicit/StateHeapPopPinLaw"), (0, u "cs"), (0, u "([II)V"), (2, u "law"), (0, u "(IIIII)Z")] 5

def k1m0 : Method := { name := "<init>", desc := "()V", sig := { parameters := [], returnType := none }, accessFlags := 1, code := none }
def k1c1 : Code := { maxStack := 4, maxLocals := 12, code := code, exceptionTable := #[], attributes := #[] }
def k1m1 : Method := { name := "law", desc := "(IIIII)Z", sig := { parameters := [.int, .int, .int, .int, .int], returnType := some .boolean }, accessFlags := 9, code := some k1c1 }
def k1c2 : Code := { maxStack := 5, maxLocals := 3, code := method_3_code, exceptionTable := #[], attributes := #[] }
def k1m2 : Method := { name := "cs", desc := "([II)V", sig := { parameters := [(.array .int), .int], returnType := none }, accessFlags := 10, code := some k1c2 }
/-- com/example/mardec/mardec/explicit/StateHeapPopPinLaw -/
def k1 : Class := { plain "com/example/mardec/mardec/explicit/StateHeapPopPinLaw" (some 0) with
  accessFlags := 49
  interfaces := #[]
  cf := some (fileOf pool1 19 #[] #[{ accessFlags := 1, nameIndex := 5, descriptorIndex := 6, attributes := #[] }, { accessFlags := 9, nameIndex := 26, descriptorIndex := 27, attributes := #[] }, { accessFlags := 10, nameIndex := 22, descriptorIndex := 23, attributes := #[] }] 49 2 #[] #[])
  fields := #[]
  methods := #[k1m0, k1m1, k1m2]
  instanceTypes := #[]
  staticTypes := #[]
  resolved := Array.replicate 33 none
  statics := none }

def pool2 : Array CpInfo := pool [(1, .methodref 2 3), (0, .class_ 4), (0, .nameAndType 5 6), (0, u "java/lang/Object"), (0, u "<init>"), (0, u "()V"), (0, .fieldref 8 9), (0, .class_ 10), (0, .nameAndType 11 12), (0, u "com/example/mardec/mardec/explicit/StateHeap"), (0, u "keys"), (0, u "[D"), (0, .fieldref 8 14), (0, .nameAndType 15 16), (0, u "states"), (0, u "[I"), (0, .fieldref 8 18), (0, .nameAndType 19 20), (0, u "size"), (0, u "I"), (14, u "push"), (0, u "(DI)V"), (2, u "pop"), (0, u "()I")] 2

def k2c0 : Code := { maxStack := 2, maxLocals := 1, code := prog_47_method_1_code, exceptionTable := #[], attributes := #[] }
def k2m0 : Method := { name := "<init>", desc := "()V", sig := { parameters := [], returnType := none }, accessFlags := 0, code := some k2c0 }
def k2c1 : Code := { maxStack := 5, maxLocals := 5, code := prog_47_method_3_code, exceptionTable := #[], attributes := #[] }
def k2m1 : Method := { name := "push", desc := "(DI)V", sig := { parameters := [.double, .int], returnType := none }, accessFlags := 0, code := some k2c1 }
def k2c2 : Code := { maxStack := 4, maxLocals := 8, code := prog_47_method_5_code, exceptionTable := #[], attributes := #[] }
def k2m2 : Method := { name := "pop", desc := "()I", sig := { parameters := [], returnType := some .int }, accessFlags := 0, code := some k2c2 }
/-- com/example/mardec/mardec/explicit/StateHeap -/
def k2 : Class := { plain "com/example/mardec/mardec/explicit/StateHeap" (some 0) with
  accessFlags := 48
  interfaces := #[]
  cf := some (fileOf pool2 8 #[] #[{ accessFlags := 0, nameIndex := 5, descriptorIndex := 6, attributes := #[] }, { accessFlags := 0, nameIndex := 35, descriptorIndex := 36, attributes := #[] }, { accessFlags := 0, nameIndex := 39, descriptorIndex := 40, attributes := #[] }] 48 2 #[] #[{ accessFlags := 2, nameIndex := 11, descriptorIndex := 12, attributes := #[] }, { accessFlags := 2, nameIndex := 15, descriptorIndex := 16, attributes := #[] }, { accessFlags := 2, nameIndex := 19, descriptorIndex := 20, attributes := #[] }])
  fields := #[{ name := "keys", type := (.array .double), accessFlags := 2, slot := 0, constantValue := 0 }, { name := "states", type := (.array .int), accessFlags := 2, slot := 1, constantValue := 0 }, { name := "size", type := .int, accessFlags := 2, slot := 2, constantValue := 0 }]
  methods := #[k2m0, k2m1, k2m2]
  instanceTypes := #[(.array .double), (.array .int), .int]
  staticTypes := #[]
  resolved := Array.replicate 43 none
  statics := none }

def pool3 : Array CpInfo := pool [(1, u "java/lang/Cloneable"), (0, .class_ 1), (0, u "java/lang/Object"), (0, .class_ 3)] 3

/-- java/lang/Cloneable -/
def k3 : Class := { plain "java/lang/Cloneable" (some 0) with
  accessFlags := 1537
  interfaces := #[]
  cf := some (fileOf pool3 2 #[] #[] 1537 4 #[] #[])
  fields := #[]
  methods := #[]
  instanceTypes := #[]
  staticTypes := #[]
  resolved := Array.replicate 8 none
  statics := none }

def pool4 : Array CpInfo := pool [(1, u "java/io/Serializable"), (0, .class_ 1), (0, u "java/lang/Object"), (0, .class_ 3)] 3

/-- java/io/Serializable -/
def k4 : Class := { plain "java/io/Serializable" (some 0) with
  accessFlags := 1537
  interfaces := #[]
  cf := some (fileOf pool4 2 #[] #[] 1537 4 #[] #[])
  fields := #[]
  methods := #[]
  instanceTypes := #[]
  staticTypes := #[]
  resolved := Array.replicate 8 none
  statics := none }

/-- the primitive byte -/
def k5 : Class := { plain "byte" none with kind := .primitive 'B', accessFlags := 0x411 }
/-- [B -/
def k6 : Class := { plain "[B" (some 0) with kind := .array 5 .byte, interfaces := #[3, 4], accessFlags := 1041 }

/-- the primitive double -/
def k7 : Class := { plain "double" none with kind := .primitive 'D', accessFlags := 0x411 }
/-- [D -/
def k8 : Class := { plain "[D" (some 0) with kind := .array 7 .double, interfaces := #[3, 4], accessFlags := 1041 }

/-- the primitive int -/
def k9 : Class := { plain "int" none with kind := .primitive 'I', accessFlags := 0x411 }
/-- [I -/
def k10 : Class := { plain "[I" (some 0) with kind := .array 9 .int, interfaces := #[3, 4], accessFlags := 1041 }

def heap : Heap := #[]
def classes : Array Class := #[k0, k1, k2, k3, k4, k5, k6, k7, k8, k9, k10]
def interned : List (Array UInt16 × Addr) := []
def slotsUsed : Nat := 0
def theMethod : MethodId := ⟨1, 1⟩
def args0 : Array Value := #[.int 7, .int 3, .int 4, .int 5, .int 6]
def aboutOver (below : List Frame) : State where
  vm := { classes := classes, interned := interned.toArray }
  heap := heap
  slotsUsed := slotsUsed
  threads := #[{ frames := .invoking theMethod args0 :: below }]
def below0 : List Frame := [.native { method := ⟨0, 0⟩, args := #[] }]
def about1 : State := aboutOver below0
def p0 : Program := .bare "" "" ""
def e0 : Env := launch0.env 0 0 0
theorem w_frames : about1.frames = Frame.invoking theMethod args0 :: below0 := rfl
set_option maxRecDepth 65536 in
theorem w_args : argsFit about1.vm theMethod args0 = true := by decide +kernel
set_option maxRecDepth 65536 in
theorem w_heap : heapFits about1 = true := by decide +kernel
set_option maxRecDepth 65536 in
theorem w_runnable : about1.curStatus? = some .runnable := by decide +kernel
set_option maxRecDepth 65536 in
theorem w_alone : about1.alone = true := by decide +kernel
set_option maxRecDepth 65536 in
theorem w_named : about1.methodNamed? x = some theMethod := by decide +kernel
set_option maxRecDepth 65536 in
theorem w_hears : about1.hears theMethod below0 = true := by decide +kernel
set_option maxRecDepth 65536 in
theorem w_ripe : about1.ripe theMethod args0 below0 = true := by decide +kernel
theorem w_running : about1.status = .running := rfl
set_option maxRecDepth 65536 in
theorem w_room : about1.hasRoom e0.platform room_1 = true :=
  launch0.hasRoom_least _ room_1 (by decide +kernel) (by decide +kernel) (by decide +kernel) (by decide +kernel) (by decide +kernel) (by decide +kernel)
theorem allAtoms_all (ts : List Jvm.Cond) (a : Array Jvm.Value) (st : Jvm.State) : (allAtoms ts).before a st = ts.all (fun c => c.before a st) := by
  induction ts with
  | nil => rfl
  | cons c t ih =>
    show (Jvm.Cond.and c (allAtoms t)).before a st = _
    rw [Jvm.Cond.before_and, ih, List.all_cons]
def words1 : List Jvm.Cond := Jvm.Cond.code x code maxLocals ret :: tables_1
/-- a 'code' word, met by the world's own term for the bytes: nothing is compared byte by byte -/
theorem code_word {y : MethodName} {bytes : ByteArray} {mx : Nat} {rt : Option FieldType} {a : Array Value} {s : State} {m : MethodId} {meth : Method} {c : Code} (h1 : s.methodNamed? y = some m) (h2 : s.vm.method? m = some meth) (h3 : meth.code = some c) (h4 : c.code = bytes)
    (h5 : (c.maxLocals == mx && c.exceptionTable.isEmpty && decide (c.maxStack ≤ mostOperands) && decide (meth.sig.returnType = rt) && !meth.locks && decide (parseMethodDescriptor y.desc = some meth.sig)) = true) : (Jvm.Cond.code y bytes mx rt).before a s = true := by
  simp only [Bool.and_eq_true, beq_iff_eq, Bool.not_eq_true', decide_eq_true_eq] at h5
  obtain ⟨⟨⟨⟨⟨g1, g2⟩, g3⟩, g4⟩, g5⟩, g6⟩ := h5
  simp [Cond.before, Cond.holds, Cond.value, h1, h2, h3, h4, g1, g2, g3, g4, g5, g6]
def isCode : Jvm.Cond → Bool
  | .code _ _ _ _ => true
  | _ => false
theorem all_split {L : List Jvm.Cond} {P : Jvm.Cond → Bool} (h1 : L.all (fun c => isCode c || P c) = true) (h2 : ∀ c ∈ L.filter isCode, P c = true) : L.all P = true := by
  refine List.all_eq_true.mpr fun c hc => ?_
  have h := List.all_eq_true.mp h1 c hc
  rcases Bool.eq_false_or_eq_true (isCode c) with hi | hi
  · exact h2 c (List.mem_filter.mpr ⟨hc, hi⟩)
  · simpa [hi] using h
set_option maxRecDepth 65536 in
theorem w_c0 : (Jvm.Cond.code x code maxLocals ret).before args0 about1 = true := code_word (m := ⟨1, 1⟩) (meth := k1m1) (c := k1c1) (by decide +kernel) rfl rfl rfl (by decide +kernel)
set_option maxRecDepth 65536 in
theorem w_c1 : (Jvm.Cond.code ({ cls := "com/example/mardec/mardec/explicit/StateHeap", name := "<init>", desc := "()V" } : Jvm.MethodName) prog_47_method_1_code (1 : Nat) (Option.none : Option Jvm.ClassFile.FieldType)).before args0 about1 = true := code_word (m := ⟨2, 0⟩) (meth := k2m0) (c := k2c0) (by decide +kernel) rfl rfl rfl (by decide +kernel)
set_option maxRecDepth 65536 in
theorem w_c2 : (Jvm.Cond.code ({ cls := "java/lang/Object", name := "<init>", desc := "()V" } : Jvm.MethodName) object_method_1_code (1 : Nat) (Option.none : Option Jvm.ClassFile.FieldType)).before args0 about1 = true := code_word (m := ⟨0, 0⟩) (meth := k0m0) (c := k0c0) (by decide +kernel) rfl rfl rfl (by decide +kernel)
set_option maxRecDepth 65536 in
theorem w_c3 : (Jvm.Cond.code ({ cls := "com/example/mardec/mardec/explicit/StateHeap", name := "push", desc := "(DI)V" } : Jvm.MethodName) prog_47_method_3_code (5 : Nat) (Option.none : Option Jvm.ClassFile.FieldType)).before args0 about1 = true := code_word (m := ⟨2, 1⟩) (meth := k2m1) (c := k2c1) (by decide +kernel) rfl rfl rfl (by decide +kernel)
set_option maxRecDepth 65536 in
theorem w_c4 : (Jvm.Cond.code ({ cls := "com/example/mardec/mardec/explicit/StateHeap", name := "pop", desc := "()I" } : Jvm.MethodName) prog_47_method_5_code (8 : Nat) (Option.some Jvm.ClassFile.FieldType.int)).before args0 about1 = true := code_word (m := ⟨2, 2⟩) (meth := k2m2) (c := k2c2) (by decide +kernel) rfl rfl rfl (by decide +kernel)
set_option maxRecDepth 65536 in
theorem w_c5 : (Jvm.Cond.code ({ cls := "com/example/mardec/mardec/explicit/StateHeapPopPinLaw", name := "cs", desc := "([II)V" } : Jvm.MethodName) method_3_code (3 : Nat) (Option.none : Option Jvm.ClassFile.FieldType)).before args0 about1 = true := code_word (m := ⟨1, 2⟩) (meth := k1m2) (c := k1c2) (by decide +kernel) rfl rfl rfl (by decide +kernel)
def codes1 : List Jvm.Cond := [Jvm.Cond.code x code maxLocals ret, Jvm.Cond.code ({ cls := "com/example/mardec/mardec/explicit/StateHeap", name := "<init>", desc := "()V" } : Jvm.MethodName) prog_47_method_1_code (1 : Nat) (Option.none : Option Jvm.ClassFile.FieldType), Jvm.Cond.code ({ cls := "java/lang/Object", name := "<init>", desc := "()V" } : Jvm.MethodName) object_method_1_code (1 : Nat) (Option.none : Option Jvm.ClassFile.FieldType), Jvm.Cond.code ({ cls := "com/example/mardec/mardec/explicit/StateHeap", name := "push", desc := "(DI)V" } : Jvm.MethodName) prog_47_method_3_code (5 : Nat) (Option.none : Option Jvm.ClassFile.FieldType), Jvm.Cond.code ({ cls := "com/example/mardec/mardec/explicit/StateHeap", name := "pop", desc := "()I" } : Jvm.MethodName) prog_47_method_5_code (8 : Nat) (Option.some Jvm.ClassFile.FieldType.int), Jvm.Cond.code ({ cls := "com/example/mardec/mardec/explicit/StateHeapPopPinLaw", name := "cs", desc := "([II)V" } : Jvm.MethodName) method_3_code (3 : Nat) (Option.none : Option Jvm.ClassFile.FieldType)]
set_option maxRecDepth 65536 in
theorem codes_eq : words1.filter isCode = codes1 := rfl
theorem w_codes : ∀ c ∈ words1.filter isCode, c.before args0 about1 = true := by
  rw [codes_eq]
  intro c hc
  simp only [codes1, List.mem_cons, List.not_mem_nil, or_false] at hc
  rcases hc with rfl | rfl | rfl | rfl | rfl | rfl
  · exact w_c0
  · exact w_c1
  · exact w_c2
  · exact w_c3
  · exact w_c4
  · exact w_c5
set_option maxRecDepth 65536 in
theorem w_t1 : (words1.take 24).all (fun c => isCode c || c.before args0 about1) = true := by decide +kernel
set_option maxRecDepth 65536 in
theorem w_t2 : (words1.drop 24).all (fun c => isCode c || c.before args0 about1) = true := by decide +kernel
theorem w_tables : (allAtoms (Jvm.Cond.code x code maxLocals ret :: tables_1)).before args0 about1 = true := by
  rw [allAtoms_all]
  show words1.all (fun c => c.before args0 about1) = true
  refine all_split ?_ w_codes
  rw [← List.take_append_drop 24 words1, List.all_append, w_t1, w_t2]
  rfl
set_option maxRecDepth 65536 in
theorem w_case : (Jvm.Cond.and given_1 narrow_1).before args0 about1 = true := by decide +kernel
theorem w_applies : (headSpec (Jvm.Cond.code x code maxLocals ret :: tables_1) room_1).applies x e0.platform about1 = true :=
  (Spec.applies_iff w_frames).mpr ⟨w_running, w_runnable, w_alone, w_named, w_hears, w_ripe, w_room, w_tables⟩
theorem atStart : AtStart classFile x code maxLocals ret World_1 tables_1 room_1 Calls_1 rest_1 Pre_1 launch0 p0 e0 about1 theMethod args0 below0 :=
  ⟨lists_1, trivial, launch0.admits_env _ _ _, launch0.least_env, fairChoices_fair.cas, fairChoices_fair.clock, w_frames, w_args, w_heap, w_applies, trivial, trivial, w_case⟩
end start1
theorem witness_1 : WitnessClaimed_1 := ⟨start1.p0, start1.e0, start1.about1, start1.theMethod, start1.args0, start1.below0, start1.atStart⟩
end Jvm.Pilot.@@N@@
