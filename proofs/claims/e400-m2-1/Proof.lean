import JvmDerived
import JvmDerived.Pilot.@@N@@Statement
import JvmDerived.Pilot.@@N@@Code
set_option linter.unusedVariables false
set_option linter.unusedSimpArgs false
@@BLOCK:LamKit.lean.txt@@
namespace Jvm.GoK
open Sem ClassFile Op Lib Jvm.Stand Jvm.Free Jvm.LawKit Jvm.RoadKit
/-- a body: its method, its bytes, how many locals, what it returns -/
abbrev Bdy : Type := MethodName × ByteArray × Nat × Option FieldType
/-- what is known all over the walk of one body -/
def Cx (p : Program) (s : State) (m : MethodId) (meth : Method) (c : Code) (Z : State) (B : Bdy) : Prop :=
  p.tables.exec = Jvm.exec ∧ Z.Warmed39 s.vm ∧ s.vm.findClass B.1.cls = some m.cls ∧ c.code = B.2.1 ∧ c.maxLocals = B.2.2.1 ∧ meth.sig.returnType = B.2.2.2 ∧ meth.locks = false ∧ meth.name = B.1.name ∧ Z.WarmedH s.vm ∧ s.methodNamed? B.1 = some m
/-- from pc, with these locals and this operand stack, over the heap h, the body B returns, and Q holds of what it returns and of the heap then; only cells from n0 on are written -/
def Go (l : Launch) (Z : State) (R : Room) (B : Bdy) (n0 : Nat) (Q : Option Value → Heap → Prop) (h : Heap) (cl sl pc : Nat) (Ls : Array Slot) (st : List Value) : Prop :=
  ∀ (p : Program) (e : Env) (s : State) (m : MethodId) (args : Array Value) (below : List Frame) (meth : Method) (c : Code) (T : State) (locs : List Loc),
    Stand p l e R s m args below meth c T locs cl sl → Cx p s m meth c Z B → Fr n0 locs → T.heap = h → n0 ≤ h.size →
    ∃ s₂ o, Steps p.tables e below (T.setTop (mkF m pc Ls st)) s₂ ∧ s₂.status = .running ∧ Ended s₂ below o ∧
      ∃ v L, o = .returned v ∧ (Q v s₂.heap ∧ n0 ≤ s₂.heap.size ∧ Fr n0 L) ∧ FrameEnd s o s₂ L R.cells R.slots
section Rules
variable {l : Launch} {Z : State} {R : Room} {B : Bdy} {n0 : Nat} {Q : Option Value → Heap → Prop} {h : Heap} {cl sl pc : Nat} {Ls : Array Slot} {st : List Value} {a0 : Array Value}
theorem Go.lift {pc' : Nat} {Ls' : Array Slot} {st' : List Value}
    (f : ∀ {p : Program} {e : Env} {below : List Frame} {T target : State} {m : MethodId} {c : Code}, At T m c below → p.tables.exec = Jvm.exec → c.code = B.2.1 → Steps p.tables e below (T.setTop (mkF m pc' Ls' st')) target → Steps p.tables e below (T.setTop (mkF m pc Ls st)) target)
    (k : Go l Z R B n0 Q h cl sl pc' Ls' st') : Go l Z R B n0 Q h cl sl pc Ls st := by
  intro p e s m args below meth c T locs X cx fr eT hn
  obtain ⟨s₂, o, h1, r⟩ := k _ _ _ _ _ _ _ _ _ _ X cx fr eT hn
  exact ⟨s₂, o, f X.here cx.1 cx.2.2.2.1 h1, r⟩
theorem Go.conseq {Q' : Option Value → Heap → Prop} (k : Go l Z R B n0 Q' h cl sl pc Ls st) (q : ∀ v h', Q' v h' → Q v h') : Go l Z R B n0 Q h cl sl pc Ls st := by
  intro p e s m args below meth c T locs X cx fr eT hn
  obtain ⟨s₂, o, h1, h2, h3, v, L, h4, h5, h6⟩ := k _ _ _ _ _ _ _ _ _ _ X cx fr eT hn
  exact ⟨s₂, o, h1, h2, h3, v, L, h4, ⟨q _ _ h5.1, h5.2⟩, h6⟩
/-! ### plain steps; each rule names the next pc first -/
theorem Go.aloadN (pc' : Nat) {i : Fin 4} {v : Value} (hd : decode B.2.1 pc = .ok (.aload_n i, 1)) (hp : pc + 1 = pc') (hl : Ls[i.val]? = some (.val v)) (hv : v.isRef = true) (k : Go l Z R B n0 Q h cl sl pc' Ls (v :: st)) : Go l Z R B n0 Q h cl sl pc Ls st := by
  subst hp; exact Go.lift (fun at_ hx hc q => XS.aloadN at_ hx rfl (hb hc hd) hl hv q) k
theorem Go.aload (pc' : Nat) {i : Nat} {v : Value} (hd : decode B.2.1 pc = .ok (.aload i, 2)) (hp : pc + 2 = pc') (hl : Ls[i]? = some (.val v)) (hv : v.isRef = true) (k : Go l Z R B n0 Q h cl sl pc' Ls (v :: st)) : Go l Z R B n0 Q h cl sl pc Ls st := by
  subst hp; exact Go.lift (fun at_ hx hc q => XS.aload at_ hx rfl (hb hc hd) hl hv q) k
theorem Go.iloadN (pc' : Nat) {i : Fin 4} {v : Int32} (hd : decode B.2.1 pc = .ok (.iload_n i, 1)) (hp : pc + 1 = pc') (hl : Ls[i.val]? = some (.val (.int v))) (k : Go l Z R B n0 Q h cl sl pc' Ls (.int v :: st)) : Go l Z R B n0 Q h cl sl pc Ls st := by
  subst hp; exact Go.lift (fun at_ hx hc q => XS.iloadN at_ hx rfl (hb hc hd) hl q) k
theorem Go.iload (pc' : Nat) {i : Nat} {v : Int32} (hd : decode B.2.1 pc = .ok (.iload i, 2)) (hp : pc + 2 = pc') (hl : Ls[i]? = some (.val (.int v))) (k : Go l Z R B n0 Q h cl sl pc' Ls (.int v :: st)) : Go l Z R B n0 Q h cl sl pc Ls st := by
  subst hp; exact Go.lift (fun at_ hx hc q => XS.iload at_ hx rfl (hb hc hd) hl q) k
theorem Go.lloadN (pc' : Nat) {i : Fin 4} {v : Int64} (hd : decode B.2.1 pc = .ok (.lload_n i, 1)) (hp : pc + 1 = pc') (hl : Ls[i.val]? = some (.val (.long v))) (k : Go l Z R B n0 Q h cl sl pc' Ls (.long v :: st)) : Go l Z R B n0 Q h cl sl pc Ls st := by
  subst hp; exact Go.lift (fun at_ hx hc q => XT.lloadN at_ hx rfl (hb hc hd) hl q) k
theorem Go.lload (pc' : Nat) {i : Nat} {v : Int64} (hd : decode B.2.1 pc = .ok (.lload i, 2)) (hp : pc + 2 = pc') (hl : Ls[i]? = some (.val (.long v))) (k : Go l Z R B n0 Q h cl sl pc' Ls (.long v :: st)) : Go l Z R B n0 Q h cl sl pc Ls st := by
  subst hp; exact Go.lift (fun at_ hx hc q => XT.lload at_ hx rfl (hb hc hd) hl q) k
theorem Go.dloadN (pc' : Nat) {i : Fin 4} {v : UInt64} (hd : decode B.2.1 pc = .ok (.dload_n i, 1)) (hp : pc + 1 = pc') (hl : Ls[i.val]? = some (.val (.double v))) (k : Go l Z R B n0 Q h cl sl pc' Ls (.double v :: st)) : Go l Z R B n0 Q h cl sl pc Ls st := by
  subst hp; exact Go.lift (fun at_ hx hc q => XS.dloadN at_ hx rfl (hb hc hd) hl q) k
theorem Go.dload (pc' : Nat) {i : Nat} {v : UInt64} (hd : decode B.2.1 pc = .ok (.dload i, 2)) (hp : pc + 2 = pc') (hl : Ls[i]? = some (.val (.double v))) (k : Go l Z R B n0 Q h cl sl pc' Ls (.double v :: st)) : Go l Z R B n0 Q h cl sl pc Ls st := by
  subst hp; exact Go.lift (fun at_ hx hc q => XS.dload at_ hx rfl (hb hc hd) hl q) k
theorem Go.istoreN (pc' : Nat) (Ls' : Array Slot) {i : Fin 4} {x : Int32} (hd : decode B.2.1 pc = .ok (.istore_n i, 1)) (hp : pc + 1 = pc') (hl : storeLocals Ls i.val (.int x) = some Ls') (k : Go l Z R B n0 Q h cl sl pc' Ls' st) : Go l Z R B n0 Q h cl sl pc Ls (.int x :: st) := by
  subst hp; exact Go.lift (fun at_ hx hc q => XS.istoreN at_ hx rfl (hb hc hd) rfl hl q) k
theorem Go.istore (pc' : Nat) (Ls' : Array Slot) {i : Nat} {x : Int32} (hd : decode B.2.1 pc = .ok (.istore i, 2)) (hp : pc + 2 = pc') (hl : storeLocals Ls i (.int x) = some Ls') (k : Go l Z R B n0 Q h cl sl pc' Ls' st) : Go l Z R B n0 Q h cl sl pc Ls (.int x :: st) := by
  subst hp; exact Go.lift (fun at_ hx hc q => XS.istore at_ hx rfl (hb hc hd) rfl hl q) k
theorem Go.lstoreN (pc' : Nat) (Ls' : Array Slot) {i : Fin 4} {x : Int64} (hd : decode B.2.1 pc = .ok (.lstore_n i, 1)) (hp : pc + 1 = pc') (hl : storeLocals Ls i.val (.long x) = some Ls') (k : Go l Z R B n0 Q h cl sl pc' Ls' st) : Go l Z R B n0 Q h cl sl pc Ls (.long x :: st) := by
  subst hp; exact Go.lift (fun at_ hx hc q => XT.lstoreN at_ hx rfl (hb hc hd) rfl hl q) k
theorem Go.lstore (pc' : Nat) (Ls' : Array Slot) {i : Nat} {x : Int64} (hd : decode B.2.1 pc = .ok (.lstore i, 2)) (hp : pc + 2 = pc') (hl : storeLocals Ls i (.long x) = some Ls') (k : Go l Z R B n0 Q h cl sl pc' Ls' st) : Go l Z R B n0 Q h cl sl pc Ls (.long x :: st) := by
  subst hp; exact Go.lift (fun at_ hx hc q => XT.lstore at_ hx rfl (hb hc hd) rfl hl q) k
theorem Go.dstoreN (pc' : Nat) (Ls' : Array Slot) {i : Fin 4} {x : UInt64} (hd : decode B.2.1 pc = .ok (.dstore_n i, 1)) (hp : pc + 1 = pc') (hl : storeLocals Ls i.val (.double x) = some Ls') (k : Go l Z R B n0 Q h cl sl pc' Ls' st) : Go l Z R B n0 Q h cl sl pc Ls (.double x :: st) := by
  subst hp; exact Go.lift (fun at_ hx hc q => XS.dstoreN at_ hx rfl (hb hc hd) rfl hl q) k
theorem Go.dstore (pc' : Nat) (Ls' : Array Slot) {i : Nat} {x : UInt64} (hd : decode B.2.1 pc = .ok (.dstore i, 2)) (hp : pc + 2 = pc') (hl : storeLocals Ls i (.double x) = some Ls') (k : Go l Z R B n0 Q h cl sl pc' Ls' st) : Go l Z R B n0 Q h cl sl pc Ls (.double x :: st) := by
  subst hp; exact Go.lift (fun at_ hx hc q => XS.dstore at_ hx rfl (hb hc hd) rfl hl q) k
theorem Go.astoreN (pc' : Nat) (Ls' : Array Slot) {i : Fin 4} {x : Value} (hd : decode B.2.1 pc = .ok (.astore_n i, 1)) (hp : pc + 1 = pc') (hv : x.isRef = true) (hl : storeLocals Ls i.val x = some Ls') (k : Go l Z R B n0 Q h cl sl pc' Ls' st) : Go l Z R B n0 Q h cl sl pc Ls (x :: st) := by
  subst hp; exact Go.lift (fun at_ hx hc q => XS.astoreN at_ hx rfl (hb hc hd) rfl hv hl q) k
theorem Go.astore (pc' : Nat) (Ls' : Array Slot) {i : Nat} {x : Value} (hd : decode B.2.1 pc = .ok (.astore i, 2)) (hp : pc + 2 = pc') (hv : x.isRef = true) (hl : storeLocals Ls i x = some Ls') (k : Go l Z R B n0 Q h cl sl pc' Ls' st) : Go l Z R B n0 Q h cl sl pc Ls (x :: st) := by
  subst hp; exact Go.lift (fun at_ hx hc q => XS.astore at_ hx rfl (hb hc hd) rfl hv hl q) k
theorem Go.iinc (pc' : Nat) (Ls' : Array Slot) (v : Int32) {i : Nat} {cst : Int} {x : Int32} (hd : decode B.2.1 pc = .ok (.iinc i cst, 3)) (hp : pc + 3 = pc') (hl : Ls[i]? = some (.val (.int x))) (hv : x + Int32.ofInt cst = v) (hl' : storeLocals Ls i (.int v) = some Ls') (k : Go l Z R B n0 Q h cl sl pc' Ls' st) : Go l Z R B n0 Q h cl sl pc Ls st := by
  subst hp; subst hv; exact Go.lift (fun at_ hx hc q => XS.iinc at_ hx rfl (hb hc hd) hl hl' q) k
theorem Go.iconst (pc' : Nat) (v : Int32) {i : Int} (hd : decode B.2.1 pc = .ok (.iconst i, 1)) (hp : pc + 1 = pc') (hv : Int32.ofInt i = v) (k : Go l Z R B n0 Q h cl sl pc' Ls (.int v :: st)) : Go l Z R B n0 Q h cl sl pc Ls st := by
  subst hp; exact Go.lift (fun at_ hx hc q => XT.iconstV at_ hx rfl v (hb hc hd) hv q) k
theorem Go.bipush (pc' : Nat) (v : Int32) {i : Int} (hd : decode B.2.1 pc = .ok (.bipush i, 2)) (hp : pc + 2 = pc') (hv : (Int8.ofInt i).toInt32 = v) (k : Go l Z R B n0 Q h cl sl pc' Ls (.int v :: st)) : Go l Z R B n0 Q h cl sl pc Ls st := by
  subst hp; exact Go.lift (fun at_ hx hc q => XT.bipushV at_ hx rfl v (hb hc hd) hv q) k
theorem Go.sipush (pc' : Nat) (v : Int32) {i : Int} (hd : decode B.2.1 pc = .ok (.sipush i, 3)) (hp : pc + 3 = pc') (hv : (Int16.ofInt i).toInt32 = v) (k : Go l Z R B n0 Q h cl sl pc' Ls (.int v :: st)) : Go l Z R B n0 Q h cl sl pc Ls st := by
  subst hp; exact Go.lift (fun at_ hx hc q => XT.sipushV at_ hx rfl v (hb hc hd) hv q) k
theorem Go.lconst (pc' : Nat) (v : Int64) {i : Fin 2} (hd : decode B.2.1 pc = .ok (.lconst i, 1)) (hp : pc + 1 = pc') (hv : Int64.ofNat i = v) (k : Go l Z R B n0 Q h cl sl pc' Ls (.long v :: st)) : Go l Z R B n0 Q h cl sl pc Ls st := by
  subst hp; exact Go.lift (fun at_ hx hc q => XT.lconstV at_ hx rfl v (hb hc hd) hv q) k
theorem Go.dconst0 (pc' : Nat) (v : UInt64) (hd : decode B.2.1 pc = .ok (.dconst 0, 1)) (hp : pc + 1 = pc') (hv : FP.dconst0 = v) (k : Go l Z R B n0 Q h cl sl pc' Ls (.double v :: st)) : Go l Z R B n0 Q h cl sl pc Ls st := by
  subst hp; exact Go.lift (fun at_ hx hc q => XS.dconst0 at_ hx rfl (hb hc hd) hv q) k
theorem Go.dconst1 (pc' : Nat) (v : UInt64) (hd : decode B.2.1 pc = .ok (.dconst 1, 1)) (hp : pc + 1 = pc') (hv : FP.dconst1 = v) (k : Go l Z R B n0 Q h cl sl pc' Ls (.double v :: st)) : Go l Z R B n0 Q h cl sl pc Ls st := by
  subst hp; exact Go.lift (fun at_ hx hc q => XS.dconst1 at_ hx rfl (hb hc hd) hv q) k
theorem Go.aconstNull (pc' : Nat) (hd : decode B.2.1 pc = .ok (.aconst_null, 1)) (hp : pc + 1 = pc') (k : Go l Z R B n0 Q h cl sl pc' Ls (.null :: st)) : Go l Z R B n0 Q h cl sl pc Ls st := by
  subst hp; exact Go.lift (fun at_ hx hc q => XS.aconstNull at_ hx rfl (hb hc hd) q) k
/-! arithmetic; the value is named: v, by an equation -/
theorem Go.iadd (pc' : Nat) (v : Int32) {x y : Int32} (hd : decode B.2.1 pc = .ok (.iadd, 1)) (hp : pc + 1 = pc') (hv : x + y = v) (k : Go l Z R B n0 Q h cl sl pc' Ls (.int v :: st)) : Go l Z R B n0 Q h cl sl pc Ls (.int y :: .int x :: st) := by
  subst hp; subst hv; exact Go.lift (fun at_ hx hc q => XS.iadd at_ hx rfl (hb hc hd) rfl q) k
theorem Go.isub (pc' : Nat) (v : Int32) {x y : Int32} (hd : decode B.2.1 pc = .ok (.isub, 1)) (hp : pc + 1 = pc') (hv : x - y = v) (k : Go l Z R B n0 Q h cl sl pc' Ls (.int v :: st)) : Go l Z R B n0 Q h cl sl pc Ls (.int y :: .int x :: st) := by
  subst hp; subst hv; exact Go.lift (fun at_ hx hc q => XS.isub at_ hx rfl (hb hc hd) rfl q) k
theorem Go.imul (pc' : Nat) (v : Int32) {x y : Int32} (hd : decode B.2.1 pc = .ok (.imul, 1)) (hp : pc + 1 = pc') (hv : x * y = v) (k : Go l Z R B n0 Q h cl sl pc' Ls (.int v :: st)) : Go l Z R B n0 Q h cl sl pc Ls (.int y :: .int x :: st) := by
  subst hp; subst hv; exact Go.lift (fun at_ hx hc q => XS.imul at_ hx rfl (hb hc hd) rfl q) k
theorem Go.idiv (pc' : Nat) (v : Int32) {x y : Int32} (hd : decode B.2.1 pc = .ok (.idiv, 1)) (hp : pc + 1 = pc') (hy : y ≠ 0) (hv : x / y = v) (k : Go l Z R B n0 Q h cl sl pc' Ls (.int v :: st)) : Go l Z R B n0 Q h cl sl pc Ls (.int y :: .int x :: st) := by
  subst hp; subst hv; exact Go.lift (fun at_ hx hc q => XS.idiv at_ hx rfl (hb hc hd) rfl hy q) k
theorem Go.irem (pc' : Nat) (v : Int32) {x y : Int32} (hd : decode B.2.1 pc = .ok (.irem, 1)) (hp : pc + 1 = pc') (hy : y ≠ 0) (hv : x % y = v) (k : Go l Z R B n0 Q h cl sl pc' Ls (.int v :: st)) : Go l Z R B n0 Q h cl sl pc Ls (.int y :: .int x :: st) := by
  subst hp; subst hv
  have q0 : x - x / y * y = x % y := irem_eq_mod x y
  have k' : Go l Z R B n0 Q h cl sl (pc + 1) Ls (.int (x - x / y * y) :: st) := by rw [q0]; exact k
  intro p e s m args below meth c T locs X cx fr eT hn
  obtain ⟨s₂, o, h1, r⟩ := k' _ _ _ _ _ _ _ _ _ _ X cx fr eT hn
  exact ⟨s₂, o, XS.irem X.here cx.1 (g := mkF m pc Ls (.int y :: .int x :: st)) rfl (hb cx.2.2.2.1 hd) rfl hy h1, r⟩
theorem Go.iand (pc' : Nat) (v : Int32) {x y : Int32} (hd : decode B.2.1 pc = .ok (.iand, 1)) (hp : pc + 1 = pc') (hv : x &&& y = v) (k : Go l Z R B n0 Q h cl sl pc' Ls (.int v :: st)) : Go l Z R B n0 Q h cl sl pc Ls (.int y :: .int x :: st) := by
  subst hp; subst hv; exact Go.lift (fun at_ hx hc q => XS.iand at_ hx rfl (hb hc hd) rfl q) k
theorem Go.ixor (pc' : Nat) (v : Int32) {x y : Int32} (hd : decode B.2.1 pc = .ok (.ixor, 1)) (hp : pc + 1 = pc') (hv : x ^^^ y = v) (k : Go l Z R B n0 Q h cl sl pc' Ls (.int v :: st)) : Go l Z R B n0 Q h cl sl pc Ls (.int y :: .int x :: st) := by
  subst hp; subst hv; exact Go.lift (fun at_ hx hc q => XT.ixor at_ hx rfl (hb hc hd) rfl q) k
theorem Go.ishl (pc' : Nat) (v : Int32) {x y : Int32} (hd : decode B.2.1 pc = .ok (.ishl, 1)) (hp : pc + 1 = pc') (hv : x <<< (y &&& 31) = v) (k : Go l Z R B n0 Q h cl sl pc' Ls (.int v :: st)) : Go l Z R B n0 Q h cl sl pc Ls (.int y :: .int x :: st) := by
  subst hp; subst hv; exact Go.lift (fun at_ hx hc q => XT.ishl at_ hx rfl (hb hc hd) rfl q) k
theorem Go.iushr (pc' : Nat) (v : Int32) {x y : Int32} (hd : decode B.2.1 pc = .ok (.iushr, 1)) (hp : pc + 1 = pc') (hv : XT.ushr x y = v) (k : Go l Z R B n0 Q h cl sl pc' Ls (.int v :: st)) : Go l Z R B n0 Q h cl sl pc Ls (.int y :: .int x :: st) := by
  subst hp; subst hv; exact Go.lift (fun at_ hx hc q => XT.iushr at_ hx rfl (hb hc hd) rfl q) k
theorem Go.ineg (pc' : Nat) (v : Int32) {x : Int32} (hd : decode B.2.1 pc = .ok (.ineg, 1)) (hp : pc + 1 = pc') (hv : -x = v) (k : Go l Z R B n0 Q h cl sl pc' Ls (.int v :: st)) : Go l Z R B n0 Q h cl sl pc Ls (.int x :: st) := by
  subst hp; subst hv; exact Go.lift (fun at_ hx hc q => XS.ineg at_ hx rfl (hb hc hd) rfl q) k
theorem Go.ladd (pc' : Nat) (v : Int64) {x y : Int64} (hd : decode B.2.1 pc = .ok (.ladd, 1)) (hp : pc + 1 = pc') (hv : x + y = v) (k : Go l Z R B n0 Q h cl sl pc' Ls (.long v :: st)) : Go l Z R B n0 Q h cl sl pc Ls (.long y :: .long x :: st) := by
  subst hp; subst hv; exact Go.lift (fun at_ hx hc q => XT.ladd at_ hx rfl (hb hc hd) rfl q) k
theorem Go.lsub (pc' : Nat) (v : Int64) {x y : Int64} (hd : decode B.2.1 pc = .ok (.lsub, 1)) (hp : pc + 1 = pc') (hv : x - y = v) (k : Go l Z R B n0 Q h cl sl pc' Ls (.long v :: st)) : Go l Z R B n0 Q h cl sl pc Ls (.long y :: .long x :: st) := by
  subst hp; subst hv; exact Go.lift (fun at_ hx hc q => XT.lsub at_ hx rfl (hb hc hd) rfl q) k
theorem Go.lmul (pc' : Nat) (v : Int64) {x y : Int64} (hd : decode B.2.1 pc = .ok (.lmul, 1)) (hp : pc + 1 = pc') (hv : x * y = v) (k : Go l Z R B n0 Q h cl sl pc' Ls (.long v :: st)) : Go l Z R B n0 Q h cl sl pc Ls (.long y :: .long x :: st) := by
  subst hp; subst hv; exact Go.lift (fun at_ hx hc q => XT.lmul at_ hx rfl (hb hc hd) rfl q) k
theorem Go.land (pc' : Nat) (v : Int64) {x y : Int64} (hd : decode B.2.1 pc = .ok (.land, 1)) (hp : pc + 1 = pc') (hv : x &&& y = v) (k : Go l Z R B n0 Q h cl sl pc' Ls (.long v :: st)) : Go l Z R B n0 Q h cl sl pc Ls (.long y :: .long x :: st) := by
  subst hp; subst hv; exact Go.lift (fun at_ hx hc q => XT.land at_ hx rfl (hb hc hd) rfl q) k
theorem Go.lshl (pc' : Nat) (v : Int64) {x : Int64} {y : Int32} (hd : decode B.2.1 pc = .ok (.lshl, 1)) (hp : pc + 1 = pc') (hv : x <<< (y.toInt64 &&& 63) = v) (k : Go l Z R B n0 Q h cl sl pc' Ls (.long v :: st)) : Go l Z R B n0 Q h cl sl pc Ls (.int y :: .long x :: st) := by
  subst hp; subst hv; exact Go.lift (fun at_ hx hc q => XT.lshl at_ hx rfl (hb hc hd) rfl q) k
theorem Go.lshr (pc' : Nat) (v : Int64) {x : Int64} {y : Int32} (hd : decode B.2.1 pc = .ok (.lshr, 1)) (hp : pc + 1 = pc') (hv : x >>> (y.toInt64 &&& 63) = v) (k : Go l Z R B n0 Q h cl sl pc' Ls (.long v :: st)) : Go l Z R B n0 Q h cl sl pc Ls (.int y :: .long x :: st) := by
  subst hp; subst hv; exact Go.lift (fun at_ hx hc q => XT.lshr at_ hx rfl (hb hc hd) rfl q) k
theorem Go.lushr (pc' : Nat) (v : Int64) {x : Int64} {y : Int32} (hd : decode B.2.1 pc = .ok (.lushr, 1)) (hp : pc + 1 = pc') (hv : XT.ushrL x y = v) (k : Go l Z R B n0 Q h cl sl pc' Ls (.long v :: st)) : Go l Z R B n0 Q h cl sl pc Ls (.int y :: .long x :: st) := by
  subst hp; subst hv; exact Go.lift (fun at_ hx hc q => XT.lushr at_ hx rfl (hb hc hd) rfl q) k
theorem Go.i2l (pc' : Nat) (v : Int64) {x : Int32} (hd : decode B.2.1 pc = .ok (.i2l, 1)) (hp : pc + 1 = pc') (hv : x.toInt64 = v) (k : Go l Z R B n0 Q h cl sl pc' Ls (.long v :: st)) : Go l Z R B n0 Q h cl sl pc Ls (.int x :: st) := by
  subst hp; subst hv; exact Go.lift (fun at_ hx hc q => XT.i2l at_ hx rfl (hb hc hd) rfl q) k
theorem Go.l2i (pc' : Nat) (v : Int32) {x : Int64} (hd : decode B.2.1 pc = .ok (.l2i, 1)) (hp : pc + 1 = pc') (hv : x.toInt32 = v) (k : Go l Z R B n0 Q h cl sl pc' Ls (.int v :: st)) : Go l Z R B n0 Q h cl sl pc Ls (.long x :: st) := by
  subst hp; subst hv; exact Go.lift (fun at_ hx hc q => XT.l2i at_ hx rfl (hb hc hd) rfl q) k
theorem Go.i2s (pc' : Nat) (v : Int32) {x : Int32} (hd : decode B.2.1 pc = .ok (.i2s, 1)) (hp : pc + 1 = pc') (hv : x.toInt16.toInt32 = v) (k : Go l Z R B n0 Q h cl sl pc' Ls (.int v :: st)) : Go l Z R B n0 Q h cl sl pc Ls (.int x :: st) := by
  subst hp; subst hv; exact Go.lift (fun at_ hx hc q => XT.i2s at_ hx rfl (hb hc hd) rfl q) k
theorem Go.i2d (pc' : Nat) (v : UInt64) {x : Int32} (hd : decode B.2.1 pc = .ok (.i2d, 1)) (hp : pc + 1 = pc') (hv : FP.i2d x = v) (k : Go l Z R B n0 Q h cl sl pc' Ls (.double v :: st)) : Go l Z R B n0 Q h cl sl pc Ls (.int x :: st) := by
  subst hp; exact Go.lift (fun at_ hx hc q => XS.i2dS at_ hx rfl (hb hc hd) rfl hv q) k
theorem Go.l2d (pc' : Nat) (v : UInt64) {x : Int64} (hd : decode B.2.1 pc = .ok (.l2d, 1)) (hp : pc + 1 = pc') (hv : FP.l2d x = v) (k : Go l Z R B n0 Q h cl sl pc' Ls (.double v :: st)) : Go l Z R B n0 Q h cl sl pc Ls (.long x :: st) := by
  subst hp; exact Go.lift (fun at_ hx hc q => XS.l2dS at_ hx rfl (hb hc hd) rfl hv q) k
theorem Go.d2l (pc' : Nat) (v : Int64) {x : UInt64} (hd : decode B.2.1 pc = .ok (.d2l, 1)) (hp : pc + 1 = pc') (hv : FP.d2l x = v) (k : Go l Z R B n0 Q h cl sl pc' Ls (.long v :: st)) : Go l Z R B n0 Q h cl sl pc Ls (.double x :: st) := by
  subst hp; exact Go.lift (fun at_ hx hc q => XS.d2lS at_ hx rfl (hb hc hd) rfl hv q) k
theorem Go.dadd (pc' : Nat) (v : UInt64) {x y : UInt64} (hd : decode B.2.1 pc = .ok (.dadd, 1)) (hp : pc + 1 = pc') (hv : FP.dadd x y = v) (hn : Jvm.Free.Fl.NoNaN64 v) (k : Go l Z R B n0 Q h cl sl pc' Ls (.double v :: st)) : Go l Z R B n0 Q h cl sl pc Ls (.double y :: .double x :: st) := by
  subst hp; exact Go.lift (fun at_ hx hc q => XS.daddS at_ hx rfl (hb hc hd) rfl (hv ▸ hn) hv q) k
theorem Go.dsub (pc' : Nat) (v : UInt64) {x y : UInt64} (hd : decode B.2.1 pc = .ok (.dsub, 1)) (hp : pc + 1 = pc') (hv : FP.dsub x y = v) (hn : Jvm.Free.Fl.NoNaN64 v) (k : Go l Z R B n0 Q h cl sl pc' Ls (.double v :: st)) : Go l Z R B n0 Q h cl sl pc Ls (.double y :: .double x :: st) := by
  subst hp; exact Go.lift (fun at_ hx hc q => XS.dsubS at_ hx rfl (hb hc hd) rfl (hv ▸ hn) hv q) k
theorem Go.dmul (pc' : Nat) (v : UInt64) {x y : UInt64} (hd : decode B.2.1 pc = .ok (.dmul, 1)) (hp : pc + 1 = pc') (hv : FP.dmul x y = v) (hn : Jvm.Free.Fl.NoNaN64 v) (k : Go l Z R B n0 Q h cl sl pc' Ls (.double v :: st)) : Go l Z R B n0 Q h cl sl pc Ls (.double y :: .double x :: st) := by
  subst hp; exact Go.lift (fun at_ hx hc q => XS.dmulS at_ hx rfl (hb hc hd) rfl (hv ▸ hn) hv q) k
theorem Go.ddiv (pc' : Nat) (v : UInt64) {x y : UInt64} (hd : decode B.2.1 pc = .ok (.ddiv, 1)) (hp : pc + 1 = pc') (hv : FP.ddiv x y = v) (hn : Jvm.Free.Fl.NoNaN64 v) (k : Go l Z R B n0 Q h cl sl pc' Ls (.double v :: st)) : Go l Z R B n0 Q h cl sl pc Ls (.double y :: .double x :: st) := by
  subst hp; exact Go.lift (fun at_ hx hc q => XS.ddivS at_ hx rfl (hb hc hd) rfl (hv ▸ hn) hv q) k
theorem Go.dcmp (pc' : Nat) (v : Int32) {o : CmpOp} {x y : UInt64} (hd : decode B.2.1 pc = .ok (.dcmp o, 1)) (hp : pc + 1 = pc') (hv : cmpValue (FP.dcmp x y) o = v) (k : Go l Z R B n0 Q h cl sl pc' Ls (.int v :: st)) : Go l Z R B n0 Q h cl sl pc Ls (.double y :: .double x :: st) := by
  subst hp; exact Go.lift (fun at_ hx hc q => XS.dcmpS at_ hx rfl (hb hc hd) rfl hv q) k
theorem Go.lcmp (pc' : Nat) (v : Int32) {x y : Int64} (hd : decode B.2.1 pc = .ok (.lcmp, 1)) (hp : pc + 1 = pc') (hv : XT.cmpL x y = v) (k : Go l Z R B n0 Q h cl sl pc' Ls (.int v :: st)) : Go l Z R B n0 Q h cl sl pc Ls (.long y :: .long x :: st) := by
  subst hp; subst hv; exact Go.lift (fun at_ hx hc q => XT.lcmp at_ hx rfl (hb hc hd) rfl q) k
theorem Go.dup (pc' : Nat) {x : Value} (hd : decode B.2.1 pc = .ok (.dup, 1)) (hp : pc + 1 = pc') (hc1 : x.category = 1) (k : Go l Z R B n0 Q h cl sl pc' Ls (x :: x :: st)) : Go l Z R B n0 Q h cl sl pc Ls (x :: st) := by
  subst hp; exact Go.lift (fun at_ hx hc q => XS.dup at_ hx rfl (hb hc hd) rfl hc1 q) k
theorem Go.pop (pc' : Nat) {x : Value} (hd : decode B.2.1 pc = .ok (.pop, 1)) (hp : pc + 1 = pc') (hc1 : x.category = 1) (k : Go l Z R B n0 Q h cl sl pc' Ls st) : Go l Z R B n0 Q h cl sl pc Ls (x :: st) := by
  subst hp; exact Go.lift (fun at_ hx hc q => XT.pop at_ hx rfl (hb hc hd) rfl hc1 q) k
theorem Go.dupX1 (pc' : Nat) {x y : Value} (hd : decode B.2.1 pc = .ok (.dup_x1, 1)) (hp : pc + 1 = pc') (hc1 : x.category = 1) (hc2 : y.category = 1) (k : Go l Z R B n0 Q h cl sl pc' Ls (x :: y :: x :: st)) : Go l Z R B n0 Q h cl sl pc Ls (x :: y :: st) := by
  subst hp; exact Go.lift (fun at_ hx hc q => XT.dupX1 at_ hx rfl (hb hc hd) rfl hc1 hc2 q) k
theorem Go.dup2 (pc' : Nat) {x y : Value} (hd : decode B.2.1 pc = .ok (.dup2, 1)) (hp : pc + 1 = pc') (hc1 : x.category = 1) (hc2 : y.category = 1) (k : Go l Z R B n0 Q h cl sl pc' Ls (x :: y :: x :: y :: st)) : Go l Z R B n0 Q h cl sl pc Ls (x :: y :: st) := by
  subst hp; exact Go.lift (fun at_ hx hc q => XT.dup2 at_ hx rfl (hb hc hd) rfl hc1 hc2 q) k
/-! jumps: both roads -/
theorem Go.goto (pc' : Nat) {o : Int} (hd : decode B.2.1 pc = .ok (.goto o, 3)) (ho : 0 ≤ (pc : Int) + o) (hp : ((pc : Int) + o).toNat = pc') (k : Go l Z R B n0 Q h cl sl pc' Ls st) : Go l Z R B n0 Q h cl sl pc Ls st :=
  Go.lift (fun at_ hx hc q => XS.goto at_ hx rfl (pc0 := pc) (pc' := pc') rfl (hb hc hd) ho hp q) k
theorem Go.ifC (pc' pc'' : Nat) {cd : ClassFile.Cond} {x : Int32} {o : Int} (hd : decode B.2.1 pc = .ok (.ifCond cd o, 3)) (ho : 0 ≤ (pc : Int) + o) (hp : ((pc : Int) + o).toNat = pc') (hp2 : pc + 3 = pc'')
    (k1 : ifCond.holds cd x = true → Go l Z R B n0 Q h cl sl pc' Ls st) (k2 : ifCond.holds cd x = false → Go l Z R B n0 Q h cl sl pc'' Ls st) : Go l Z R B n0 Q h cl sl pc Ls (.int x :: st) := by
  subst hp2
  cases hh : ifCond.holds cd x with
  | true => exact Go.lift (fun at_ hx hc q => XS.ifYes at_ hx rfl (pc0 := pc) (pc' := pc') rfl (hb hc hd) rfl hh ho hp q) (k1 hh)
  | false => exact Go.lift (fun at_ hx hc q => XS.ifNo at_ hx rfl (hb hc hd) rfl hh q) (k2 hh)
theorem Go.icmp (pc' pc'' : Nat) {cd : ClassFile.Cond} {x y : Int32} {o : Int} (hd : decode B.2.1 pc = .ok (.if_icmp cd o, 3)) (ho : 0 ≤ (pc : Int) + o) (hp : ((pc : Int) + o).toNat = pc') (hp2 : pc + 3 = pc'')
    (k1 : if_icmp.holds cd x y = true → Go l Z R B n0 Q h cl sl pc' Ls st) (k2 : if_icmp.holds cd x y = false → Go l Z R B n0 Q h cl sl pc'' Ls st) : Go l Z R B n0 Q h cl sl pc Ls (.int y :: .int x :: st) := by
  subst hp2
  cases hh : if_icmp.holds cd x y with
  | true => exact Go.lift (fun at_ hx hc q => XS.icmpYes at_ hx rfl (pc0 := pc) (pc' := pc') rfl (hb hc hd) rfl hh ho hp q) (k1 hh)
  | false => exact Go.lift (fun at_ hx hc q => XS.icmpNo at_ hx rfl (hb hc hd) rfl hh q) (k2 hh)
theorem Go.acmp (pc' pc'' : Nat) {cd : ClassFile.ACond} {x y : Value} {o : Int} (hd : decode B.2.1 pc = .ok (.if_acmp cd o, 3)) (ho : 0 ≤ (pc : Int) + o) (hp : ((pc : Int) + o).toNat = pc') (hp2 : pc + 3 = pc'') (hx1 : x.isRef = true) (hy1 : y.isRef = true)
    (k1 : XT.acmp cd x y = true → Go l Z R B n0 Q h cl sl pc' Ls st) (k2 : XT.acmp cd x y = false → Go l Z R B n0 Q h cl sl pc'' Ls st) : Go l Z R B n0 Q h cl sl pc Ls (y :: x :: st) := by
  subst hp2
  cases hh : XT.acmp cd x y with
  | true => exact Go.lift (fun at_ hx hc q => XT.acmpYes at_ hx rfl (pc0 := pc) (pc' := pc') rfl (hb hc hd) rfl hx1 hy1 hh ho hp q) (k1 hh)
  | false => exact Go.lift (fun at_ hx hc q => XT.acmpNo at_ hx rfl (hb hc hd) rfl hx1 hy1 hh q) (k2 hh)
/-! branches, said of whole numbers -/
def cmpP (cd : ClassFile.Cond) (x y : Int) : Prop := match cd with
  | .eq => x = y | .ne => x ≠ y | .lt => x < y | .ge => y ≤ x | .gt => y < x | .le => x ≤ y
def cmpN (cd : ClassFile.Cond) (x y : Int) : Prop := match cd with
  | .eq => x ≠ y | .ne => x = y | .lt => y ≤ x | .ge => x < y | .gt => x ≤ y | .le => y < x
theorem holds_t (cd : ClassFile.Cond) (x y : Int32) : if_icmp.holds cd x y = true ↔ cmpP cd x.toInt y.toInt := by
  cases cd <;> simp [if_icmp.holds, cmpP, Int32.lt_iff_toInt_lt, Int32.le_iff_toInt_le, ← Int32.toInt_inj]
theorem holds_f (cd : ClassFile.Cond) (x y : Int32) : if_icmp.holds cd x y = false ↔ cmpN cd x.toInt y.toInt := by
  cases cd <;> simp [if_icmp.holds, cmpN, Int32.lt_iff_toInt_lt, Int32.le_iff_toInt_le, ← Int32.toInt_inj]
theorem holds0_t (cd : ClassFile.Cond) (x : Int32) : ifCond.holds cd x = true ↔ cmpP cd x.toInt 0 := by rw [if0, holds_t]; exact Iff.rfl
theorem holds0_f (cd : ClassFile.Cond) (x : Int32) : ifCond.holds cd x = false ↔ cmpN cd x.toInt 0 := by rw [if0, holds_f]; exact Iff.rfl
theorem Go.icmpB (pc' pc'' : Nat) {cd : ClassFile.Cond} {x y : Int32} {o : Int} (hd : decode B.2.1 pc = .ok (.if_icmp cd o, 3)) (ho : 0 ≤ (pc : Int) + o) (hp : ((pc : Int) + o).toNat = pc') (hp2 : pc + 3 = pc'')
    (k1 : cmpP cd x.toInt y.toInt → Go l Z R B n0 Q h cl sl pc' Ls st) (k2 : cmpN cd x.toInt y.toInt → Go l Z R B n0 Q h cl sl pc'' Ls st) : Go l Z R B n0 Q h cl sl pc Ls (.int y :: .int x :: st) :=
  Go.icmp pc' pc'' hd ho hp hp2 (fun q => k1 ((holds_t _ _ _).mp q)) (fun q => k2 ((holds_f _ _ _).mp q))
theorem Go.icmpT (pc' : Nat) {cd : ClassFile.Cond} {x y : Int32} {o : Int} (hd : decode B.2.1 pc = .ok (.if_icmp cd o, 3)) (ho : 0 ≤ (pc : Int) + o) (hp : ((pc : Int) + o).toNat = pc')
    (q : cmpP cd x.toInt y.toInt) (k1 : Go l Z R B n0 Q h cl sl pc' Ls st) : Go l Z R B n0 Q h cl sl pc Ls (.int y :: .int x :: st) :=
  Go.icmp pc' (pc + 3) hd ho hp rfl (fun _ => k1) (fun r => by rw [(holds_t _ _ _).mpr q] at r; cases r)
theorem Go.icmpF (pc'' : Nat) {cd : ClassFile.Cond} {x y : Int32} {o : Int} (hd : decode B.2.1 pc = .ok (.if_icmp cd o, 3)) (hp2 : pc + 3 = pc'')
    (q : cmpN cd x.toInt y.toInt) (k2 : Go l Z R B n0 Q h cl sl pc'' Ls st) : Go l Z R B n0 Q h cl sl pc Ls (.int y :: .int x :: st) := by
  subst hp2; exact Go.lift (fun at_ hx hc q0 => XS.icmpNo at_ hx rfl (hb hc hd) rfl ((holds_f _ _ _).mpr q) q0) k2
theorem Go.ifCB (pc' pc'' : Nat) {cd : ClassFile.Cond} {x : Int32} {o : Int} (hd : decode B.2.1 pc = .ok (.ifCond cd o, 3)) (ho : 0 ≤ (pc : Int) + o) (hp : ((pc : Int) + o).toNat = pc') (hp2 : pc + 3 = pc'')
    (k1 : cmpP cd x.toInt 0 → Go l Z R B n0 Q h cl sl pc' Ls st) (k2 : cmpN cd x.toInt 0 → Go l Z R B n0 Q h cl sl pc'' Ls st) : Go l Z R B n0 Q h cl sl pc Ls (.int x :: st) :=
  Go.ifC pc' pc'' hd ho hp hp2 (fun q => k1 ((holds0_t _ _).mp q)) (fun q => k2 ((holds0_f _ _).mp q))
theorem Go.ifCT (pc' : Nat) {cd : ClassFile.Cond} {x : Int32} {o : Int} (hd : decode B.2.1 pc = .ok (.ifCond cd o, 3)) (ho : 0 ≤ (pc : Int) + o) (hp : ((pc : Int) + o).toNat = pc')
    (q : cmpP cd x.toInt 0) (k1 : Go l Z R B n0 Q h cl sl pc' Ls st) : Go l Z R B n0 Q h cl sl pc Ls (.int x :: st) :=
  Go.ifC pc' (pc + 3) hd ho hp rfl (fun _ => k1) (fun r => by rw [(holds0_t _ _).mpr q] at r; cases r)
theorem Go.ifCF (pc'' : Nat) {cd : ClassFile.Cond} {x : Int32} {o : Int} (hd : decode B.2.1 pc = .ok (.ifCond cd o, 3)) (hp2 : pc + 3 = pc'')
    (q : cmpN cd x.toInt 0) (k2 : Go l Z R B n0 Q h cl sl pc'' Ls st) : Go l Z R B n0 Q h cl sl pc Ls (.int x :: st) := by
  subst hp2; exact Go.lift (fun at_ hx hc q0 => XS.ifNo at_ hx rfl (hb hc hd) rfl ((holds0_f _ _).mpr q) q0) k2
/-! ### constants of the pool -/
theorem Go.ldc2J (pc' : Nat) (v : Int64) {index : Nat} (w : (Cond.constantLong B.1.cls index v).before a0 Z = true) (hd : decode B.2.1 pc = .ok (.ldc2_w index, 3)) (hp : pc + 3 = pc') (k : Go l Z R B n0 Q h cl sl pc' Ls (.long v :: st)) : Go l Z R B n0 Q h cl sl pc Ls st := by
  subst hp
  intro p e s m args below meth c T locs X cx fr eT hn
  obtain ⟨s₂, o, h1, r⟩ := k _ _ _ _ _ _ _ _ _ _ X cx fr eT hn
  exact ⟨s₂, o, X.ldc2J cx.1 cx.2.2.1 (mv cx.2.1 w) rfl (hb cx.2.2.2.1 hd) h1, r⟩
theorem Go.ldc2D (pc' : Nat) (v : UInt64) {index : Nat} (w : (Cond.constantDouble B.1.cls index v).before a0 Z = true) (hd : decode B.2.1 pc = .ok (.ldc2_w index, 3)) (hp : pc + 3 = pc') (k : Go l Z R B n0 Q h cl sl pc' Ls (.double v :: st)) : Go l Z R B n0 Q h cl sl pc Ls st := by
  subst hp
  intro p e s m args below meth c T locs X cx fr eT hn
  obtain ⟨s₂, o, h1, r⟩ := k _ _ _ _ _ _ _ _ _ _ X cx fr eT hn
  exact ⟨s₂, o, X.ldc2DoubleC cx.1 cx.2.2.1 (mv cx.2.1 w) (g := mkF m pc Ls st) rfl (hb cx.2.2.2.1 hd) _ h1, r⟩
theorem Go.ldcI (pc' : Nat) (v : Int32) {index : Nat} (w : (Cond.constant B.1.cls index v).before a0 Z = true) (hd : decode B.2.1 pc = .ok (.ldc index, 2)) (hp : pc + 2 = pc') (k : Go l Z R B n0 Q h cl sl pc' Ls (.int v :: st)) : Go l Z R B n0 Q h cl sl pc Ls st := by
  subst hp
  intro p e s m args below meth c T locs X cx fr eT hn
  obtain ⟨s₂, o, h1, r⟩ := k _ _ _ _ _ _ _ _ _ _ X cx fr eT hn
  exact ⟨s₂, o, X.ldcI cx.1 cx.2.2.1 (mv cx.2.1 w) rfl (hb cx.2.2.2.1 hd) h1, r⟩
/-! ### fields -/
theorem Go.getF (pc' : Nat) {R0 O n d host : String} {index : Nat} {a : Nat} {v : Value} (w : (Cond.fieldLink B.1.cls index R0 n d).before a0 Z = true ∨ (Cond.fieldLinkNest B.1.cls index R0 n d host).before a0 Z = true) (via : Via Z R0 O n d) (F : Fld Z h a O n d v) (hd : decode B.2.1 pc = .ok (.getfield index, 3)) (hp : pc + 3 = pc')
    (k : Go l Z R B n0 Q h cl sl pc' Ls (v :: st)) : Go l Z R B n0 Q h cl sl pc Ls (.ref a :: st) := by
  subst hp
  intro p e s m args below meth c T locs X cx fr eT hn
  obtain ⟨T', X', e', stp⟩ := RoadKit.getF X cx.1 cx.2.1 cx.2.2.1 w via eT F (g := mkF m pc Ls (.ref a :: st)) rfl rfl (hb cx.2.2.2.1 hd)
  obtain ⟨s₂, o, h1, r⟩ := k _ _ _ _ _ _ _ _ _ _ X' cx fr e' hn
  exact ⟨s₂, o, stp _ h1, r⟩
/-- getfield of a field that the class itself declares, by its plain link word -/
theorem Go.getf (pc' : Nat) {O n d : String} {index : Nat} {a : Nat} {v : Value} (w : (Cond.fieldLink B.1.cls index O n d).before a0 Z = true) (F : Fld Z h a O n d v) (hd : decode B.2.1 pc = .ok (.getfield index, 3)) (hp : pc + 3 = pc')
    (k : Go l Z R B n0 Q h cl sl pc' Ls (v :: st)) : Go l Z R B n0 Q h cl sl pc Ls (.ref a :: st) := Go.getF pc' (host := "") (Or.inl w) Via.refl F hd hp k
theorem Go.putF (pc' : Nat) {O n d C : String} {index kk : Nat} {ty : FieldType} {a : Nat} {v old : Value} (w : (Cond.fieldLink B.1.cls index O n d).before a0 Z = true) (F : Fld Z h a O n d old) (E : Exa Z h a C)
    (L : (Cond.lays C O n d).before a0 Z = true ∨ ((Cond.laysFinal C O n d).before a0 Z = true ∧ B.1.cls = O ∧ B.1.name = "<init>")) (wi : (Cond.instantiable C kk).before a0 Z = true)
    (hty : parseFieldDescriptor d = some ty) (hn : narrow ty v = v) (hf : fits ty v = true) (ha : n0 ≤ a) (hd : decode B.2.1 pc = .ok (.putfield index, 3)) (hp : pc + 3 = pc')
    (k : ∀ h', Wr h h' a (Jvm.RoadKit.slotOf Z O n d) v → Go l Z R B n0 Q h' cl sl pc' Ls st) : Go l Z R B n0 Q h cl sl pc Ls (v :: .ref a :: st) := by
  subst hp
  intro p e s m args below meth c T locs X cx fr eT hn'
  obtain ⟨T', h', X', e', W, stp⟩ := RoadKit.putF X cx.1 cx.2.1 (host := "") cx.2.2.1 (Or.inl w) Via.refl eT F E (L.imp id fun q => ⟨q.1, q.2.1, cx.2.2.2.2.2.2.2.1.trans q.2.2⟩) wi hty hn hf (g := mkF m pc Ls (v :: .ref a :: st)) rfl rfl (hb cx.2.2.2.1 hd)
  obtain ⟨s₂, o, h1, r⟩ := k h' W _ _ _ _ _ _ _ _ _ _ X' cx (Fr.snoc X' fr ha) e' (by rw [W.size]; exact hn')
  exact ⟨s₂, o, stp _ h1, r⟩
/-! ### objects -/
theorem Go.new (pc' : Nat) {C : String} {index n : Nat} (w : (Cond.classLink B.1.cls index C).before a0 Z = true) (wi : (Cond.instantiable C n).before a0 Z = true) (wz : (Cond.initialized C).before a0 Z = true) (hd : decode B.2.1 pc = .ok (.new index, 3)) (hp : pc + 3 = pc') (hc : cl + 1 ≤ R.cells) (hl : sl + n ≤ R.slots)
    (k : ∀ h' a, Ext h h' → h.size ≤ a → a < h'.size → n0 ≤ a → Exa Z h' a C → (∀ {O nm d : String} {ty : FieldType}, Laid Z a0 C O nm d → parseFieldDescriptor d = some ty → Fld Z h' a O nm d (defaultValue ty)) → Go l Z R B n0 Q h' (cl + 1) (sl + n) pc' Ls (.ref a :: st)) : Go l Z R B n0 Q h cl sl pc Ls st := by
  subst hp
  intro p e s m args below meth c T locs X cx fr eT hn
  obtain ⟨T', h', X', e', E, A, D, -, stp⟩ := newO X cx.1 cx.2.1 cx.2.2.1 w wi wz eT (g := mkF m pc Ls st) rfl (hb cx.2.2.2.1 hd) hc hl
  obtain ⟨s₂, o, h1, r⟩ := k h' h.size E (Nat.le_refl _) A.lt hn A D _ _ _ _ _ _ _ _ _ _ X' cx fr e' (Nat.le_trans hn E.1)
  exact ⟨s₂, o, stp _ h1, r⟩
/-- Object.<init> -/
theorem Go.initO (pc' : Nat) {index : Nat} {a : Nat} (w1 : (Cond.methodLink B.1.cls index Lib.objectInit).before a0 Z = true) (w2 : (Cond.instanceMethod Lib.objectInit).before a0 Z = true) (w3 : (Cond.code Lib.objectInit ⟨#[0xb1]⟩ 1 none).before a0 Z = true)
    (hsz : Ls.size = B.2.2.1) (hd : decode B.2.1 pc = .ok (.invokespecial index, 3)) (hp : pc + 3 = pc') (hfr : 1 ≤ R.frames) (hlo : (st.map fun v => v.category).sum + 12 ≤ R.locals) (k : Go l Z R B n0 Q h cl sl pc' Ls st) : Go l Z R B n0 Q h cl sl pc Ls (.ref a :: st) := by
  subst hp
  intro p e s m args below meth c T locs X cx fr eT hn
  obtain ⟨T', X', e', stp⟩ := RoadKit.initO X cx.1 cx.2.1 cx.2.2.1 w1 w2 w3 eT (g := mkF m pc Ls (.ref a :: st)) rfl (hsz.trans cx.2.2.2.2.1.symm) rfl (hb cx.2.2.2.1 hd) hfr (W := (st.map fun v => v.category).sum) (by show 2 * 0 + _ ≤ _; omega) hlo
  obtain ⟨s₂, o, h1, r⟩ := k _ _ _ _ _ _ _ _ _ _ X' cx fr e' hn
  exact ⟨s₂, o, stp _ h1, r⟩
/-! ### arrays -/
/-- the array at a holds just these values -/
def ArV (Z : State) (h : Heap) (a : Nat) (ty : FieldType) (vs : List Value) : Prop := ∃ c : Cell, Arr Z h a c ty ∧ c.slots.toList = vs ∧ vs.length < 2147483648
abbrev ArD (Z : State) (h : Heap) (a : Nat) (ds : List UInt64) : Prop := ArV Z h a .double (ds.map Value.double)
abbrev ArI (Z : State) (h : Heap) (a : Nat) (ds : List Int32) : Prop := ArV Z h a .int (ds.map Value.int)
abbrev ArJ (Z : State) (h : Heap) (a : Nat) (ds : List Int64) : Prop := ArV Z h a .long (ds.map Value.long)
theorem ArV.lt {a : Nat} {ty : FieldType} {vs : List Value} (A : ArV Z h a ty vs) : a < h.size := by obtain ⟨c, A, -⟩ := A; exact A.lt
theorem ArV.len {a : Nat} {ty : FieldType} {vs : List Value} (A : ArV Z h a ty vs) : vs.length < 2147483648 := by obtain ⟨c, -, -, q⟩ := A; exact q
theorem ArV.ext {h' : Heap} {a : Nat} {ty : FieldType} {vs : List Value} (A : ArV Z h a ty vs) (E : Ext h h') : ArV Z h' a ty vs := by obtain ⟨c, A, q⟩ := A; exact ⟨c, A.ext E, q⟩
theorem ArV.other {h' : Heap} {a b : Nat} {sl : Nat} {v : Value} {ty : FieldType} {vs : List Value} (A : ArV Z h b ty vs) (W : Wr h h' a sl v) (q : b ≠ a) : ArV Z h' b ty vs := by obtain ⟨c, A, r⟩ := A; exact ⟨c, A.other W q, r⟩
theorem ArV.keep {h' : Heap} {a : Nat} {ws : List Nat} {ty : FieldType} {vs : List Value} (A : ArV Z h a ty vs) (K : Keep h h' ws) (q : a ∉ ws) : ArV Z h' a ty vs := by obtain ⟨c, A, r⟩ := A; exact ⟨c, ⟨K.2.1 a c A.1 q, A.2⟩, r⟩
theorem idx_ok {j : Int32} {i n : Nat} (hj : j.toInt = (i : Int)) (hi : i < n) : ¬ (j < 0 ∨ n ≤ j.toNatClampNeg) ∧ j.toNatClampNeg = i := by
  have h1 : j.toNatClampNeg = i := by simp only [Int32.toNatClampNeg]; omega
  refine ⟨fun q => ?_, h1⟩
  rcases q with q | q
  · simp only [Int32.lt_iff_toInt_lt, Int32.reduceToInt] at q; omega
  · omega
theorem ArV.get {a : Nat} {ty : FieldType} {vs : List Value} {j : Int32} {i : Nat} {v : Value} (A : ArV Z h a ty vs) (hj : j.toInt = (i : Int)) (hi : vs[i]? = some v) : ∃ c : Cell, Arr Z h a c ty ∧ ¬ (j < 0 ∨ c.slots.size ≤ j.toNatClampNeg) ∧ c.slots[j.toNatClampNeg]? = some v := by
  obtain ⟨c, A, e, -⟩ := A
  have hlt : i < c.slots.size := by
    have := (List.getElem?_eq_some_iff.mp hi).1
    rw [← e] at this; simpa using this
  obtain ⟨q1, q2⟩ := idx_ok hj hlt
  refine ⟨c, A, q1, ?_⟩
  rw [q2, ← hi, ← e, Array.getElem?_toList]
theorem ArV.upd {h' : Heap} {a : Nat} {ty : FieldType} {vs : List Value} {j : Int32} {i : Nat} {v : Value} (A : ArV Z h a ty vs) (hj : j.toInt = (i : Int)) (hi : i < vs.length) (W : Wr h h' a j.toNatClampNeg v) : ArV Z h' a ty (vs.set i v) := by
  obtain ⟨c, A, e, hlen⟩ := A
  have hlt : i < c.slots.size := by rw [← e] at hi; simpa using hi
  obtain ⟨q1, q2⟩ := idx_ok hj hlt
  refine ⟨_, A.same W, ?_, by simpa using hlen⟩
  rw [q2, ← e]
  simp [Cell.setSlot, Array.toList_setIfInBounds]
theorem Wr.keep1 {h' : Heap} {a : Nat} {sl : Nat} {v : Value} (W : Wr h h' a sl v) : Keep h h' [a] := Keep.of_wr W
theorem Go.daload (pc' : Nat) {a : Nat} {ds : List UInt64} {j : Int32} {i : Nat} {x : UInt64} (A : ArD Z h a ds) (hj : j.toInt = (i : Int)) (hi : ds[i]? = some x) (hd : decode B.2.1 pc = .ok (.daload, 1)) (hp : pc + 1 = pc')
    (k : Go l Z R B n0 Q h cl sl pc' Ls (.double x :: st)) : Go l Z R B n0 Q h cl sl pc Ls (.int j :: .ref a :: st) := by
  subst hp
  intro p e s m args below meth c T locs X cx fr eT hn
  obtain ⟨s₂, o, h1, r⟩ := k _ _ _ _ _ _ _ _ _ _ X cx fr eT hn
  obtain ⟨c0, A0, q1, q2⟩ := A.get hj (v := .double x) (by rw [List.getElem?_map, hi]; rfl)
  exact ⟨s₂, o, X.daload cx.1 (by rw [eT]; exact A0.1) (State.isArrayOf_alike cx.2.1.alike A0.2.1) A0.2.2 q1 q2 (g := mkF m pc Ls (.int j :: .ref a :: st)) rfl rfl (hb cx.2.2.2.1 hd) _ h1, r⟩
theorem Go.iaload (pc' : Nat) {a : Nat} {ds : List Int32} {j : Int32} {i : Nat} {x : Int32} (A : ArI Z h a ds) (hj : j.toInt = (i : Int)) (hi : ds[i]? = some x) (hd : decode B.2.1 pc = .ok (.iaload, 1)) (hp : pc + 1 = pc')
    (k : Go l Z R B n0 Q h cl sl pc' Ls (.int x :: st)) : Go l Z R B n0 Q h cl sl pc Ls (.int j :: .ref a :: st) := by
  subst hp
  intro p e s m args below meth c T locs X cx fr eT hn
  obtain ⟨s₂, o, h1, r⟩ := k _ _ _ _ _ _ _ _ _ _ X cx fr eT hn
  obtain ⟨c0, A0, q1, q2⟩ := A.get hj (v := .int x) (by rw [List.getElem?_map, hi]; rfl)
  exact ⟨s₂, o, X.iaload cx.1 (by rw [eT]; exact A0.1) (State.isArrayOf_alike cx.2.1.alike A0.2.1) A0.2.2 q1 q2 (g := mkF m pc Ls (.int j :: .ref a :: st)) rfl rfl (hb cx.2.2.2.1 hd) _ h1, r⟩
theorem Go.laload (pc' : Nat) {a : Nat} {ds : List Int64} {j : Int32} {i : Nat} {x : Int64} (A : ArJ Z h a ds) (hj : j.toInt = (i : Int)) (hi : ds[i]? = some x) (hd : decode B.2.1 pc = .ok (.laload, 1)) (hp : pc + 1 = pc')
    (k : Go l Z R B n0 Q h cl sl pc' Ls (.long x :: st)) : Go l Z R B n0 Q h cl sl pc Ls (.int j :: .ref a :: st) := by
  subst hp
  intro p e s m args below meth c T locs X cx fr eT hn
  obtain ⟨s₂, o, h1, r⟩ := k _ _ _ _ _ _ _ _ _ _ X cx fr eT hn
  obtain ⟨c0, A0, q1, q2⟩ := A.get hj (v := .long x) (by rw [List.getElem?_map, hi]; rfl)
  exact ⟨s₂, o, X.laload cx.1 (by rw [eT]; exact A0.1) (State.isArrayOf_alike cx.2.1.alike A0.2.1) A0.2.2 q1 q2 (g := mkF m pc Ls (.int j :: .ref a :: st)) rfl rfl (hb cx.2.2.2.1 hd) _ h1, r⟩
theorem Go.alen (pc' : Nat) (v : Int32) {a : Nat} {ty : FieldType} {vs : List Value} (A : ArV Z h a ty vs) (hv : v.toInt = (vs.length : Int)) (hd : decode B.2.1 pc = .ok (.arraylength, 1)) (hp : pc + 1 = pc')
    (k : Go l Z R B n0 Q h cl sl pc' Ls (.int v :: st)) : Go l Z R B n0 Q h cl sl pc Ls (.ref a :: st) := by
  subst hp
  intro p e s m args below meth c T locs X cx fr eT hn
  obtain ⟨s₂, o, h1, r⟩ := k _ _ _ _ _ _ _ _ _ _ X cx fr eT hn
  obtain ⟨c0, A0, q1, q2⟩ := A
  have hsz : c0.slots.size = vs.length := by rw [← q1]; simp
  have hv' : c0.slots.size.toInt32 = v := by
    apply Int32.toInt_inj.mp
    rw [len_toInt (by omega), hv, hsz]
  exact ⟨s₂, o, X.arraylength cx.1 (by rw [eT]; exact A0.1) (State.isArrayOf_alike cx.2.1.alike A0.2.1) (g := mkF m pc Ls (.ref a :: st)) rfl rfl (hb cx.2.2.2.1 hd) _ (by rw [hv']; exact h1), r⟩
theorem Go.dastore (pc' : Nat) {a : Nat} {ds : List UInt64} {j : Int32} {i : Nat} {x : UInt64} (A : ArD Z h a ds) (hj : j.toInt = (i : Int)) (hi : i < ds.length) (ha : n0 ≤ a) (hd : decode B.2.1 pc = .ok (.dastore, 1)) (hp : pc + 1 = pc')
    (k : ∀ h', Keep h h' [a] → ArD Z h' a (ds.set i x) → Go l Z R B n0 Q h' cl sl pc' Ls st) : Go l Z R B n0 Q h cl sl pc Ls (.double x :: .int j :: .ref a :: st) := by
  subst hp
  intro p e s m args below meth c T locs X cx fr eT hn
  obtain ⟨c0, A0, q0, q⟩ := id A
  have hlt : i < c0.slots.size := by have : i < (c0.slots.toList).length := by rw [q0]; simpa using hi
                                     simpa using this
  obtain ⟨T', h', X', e', W, stp⟩ := stD X cx.1 cx.2.1 eT A0 (idx_ok hj hlt).1 (g := mkF m pc Ls (.double x :: .int j :: .ref a :: st)) rfl rfl (hb cx.2.2.2.1 hd)
  have A' := A.upd hj (by simpa using hi) W
  rw [← List.map_set] at A'
  obtain ⟨s₂, o, h1, r⟩ := k h' (Keep.of_wr W) A' _ _ _ _ _ _ _ _ _ _ X' cx (Fr.snoc X' fr ha) e' (by rw [W.size]; exact hn)
  exact ⟨s₂, o, stp _ h1, r⟩
theorem Go.iastore (pc' : Nat) {a : Nat} {ds : List Int32} {j : Int32} {i : Nat} {x : Int32} (A : ArI Z h a ds) (hj : j.toInt = (i : Int)) (hi : i < ds.length) (ha : n0 ≤ a) (hd : decode B.2.1 pc = .ok (.iastore, 1)) (hp : pc + 1 = pc')
    (k : ∀ h', Keep h h' [a] → ArI Z h' a (ds.set i x) → Go l Z R B n0 Q h' cl sl pc' Ls st) : Go l Z R B n0 Q h cl sl pc Ls (.int x :: .int j :: .ref a :: st) := by
  subst hp
  intro p e s m args below meth c T locs X cx fr eT hn
  obtain ⟨c0, A0, q0, q⟩ := id A
  have hlt : i < c0.slots.size := by have : i < (c0.slots.toList).length := by rw [q0]; simpa using hi
                                     simpa using this
  obtain ⟨T', h', X', e', W, stp⟩ := stI X cx.1 cx.2.1 eT A0 (idx_ok hj hlt).1 (g := mkF m pc Ls (.int x :: .int j :: .ref a :: st)) rfl rfl (hb cx.2.2.2.1 hd)
  have A' := A.upd hj (by simpa using hi) W
  rw [← List.map_set] at A'
  obtain ⟨s₂, o, h1, r⟩ := k h' (Keep.of_wr W) A' _ _ _ _ _ _ _ _ _ _ X' cx (Fr.snoc X' fr ha) e' (by rw [W.size]; exact hn)
  exact ⟨s₂, o, stp _ h1, r⟩
theorem Go.lastore (pc' : Nat) {a : Nat} {ds : List Int64} {j : Int32} {i : Nat} {x : Int64} (A : ArJ Z h a ds) (hj : j.toInt = (i : Int)) (hi : i < ds.length) (ha : n0 ≤ a) (hd : decode B.2.1 pc = .ok (.lastore, 1)) (hp : pc + 1 = pc')
    (k : ∀ h', Keep h h' [a] → ArJ Z h' a (ds.set i x) → Go l Z R B n0 Q h' cl sl pc' Ls st) : Go l Z R B n0 Q h cl sl pc Ls (.long x :: .int j :: .ref a :: st) := by
  subst hp
  intro p e s m args below meth c T locs X cx fr eT hn
  obtain ⟨c0, A0, q0, q⟩ := id A
  have hlt : i < c0.slots.size := by have : i < (c0.slots.toList).length := by rw [q0]; simpa using hi
                                     simpa using this
  obtain ⟨T', h', X', e', W, stp⟩ := stJ X cx.1 cx.2.1 eT A0 (idx_ok hj hlt).1 (g := mkF m pc Ls (.long x :: .int j :: .ref a :: st)) rfl rfl (hb cx.2.2.2.1 hd)
  have A' := A.upd hj (by simpa using hi) W
  rw [← List.map_set] at A'
  obtain ⟨s₂, o, h1, r⟩ := k h' (Keep.of_wr W) A' _ _ _ _ _ _ _ _ _ _ X' cx (Fr.snoc X' fr ha) e' (by rw [W.size]; exact hn)
  exact ⟨s₂, o, stp _ h1, r⟩
theorem Go.newarr (pc' : Nat) (cap : Nat) {aty : ArrayType} {n : Int32} {i : Nat} (w : (Cond.arrayClass (newarray.typeOf aty)).before a0 Z = true) (hi : n.toInt = (i : Int)) (hcap : i ≤ cap) (hbig : cap * 8 ≤ 536870912) (hd : decode B.2.1 pc = .ok (.newarray aty, 2)) (hp : pc + 2 = pc') (hc : cl + 1 ≤ R.cells) (hl : sl + cap ≤ R.slots)
    (k : ∀ h' a, Ext h h' → h.size ≤ a → n0 ≤ a → ArV Z h' a (newarray.typeOf aty) (List.replicate i (defaultValue (newarray.typeOf aty))) → Go l Z R B n0 Q h' (cl + 1) (sl + cap) pc' Ls (.ref a :: st)) : Go l Z R B n0 Q h cl sl pc Ls (.int n :: st) := by
  subst hp
  intro p e s m args below meth c T locs X cx fr eT hn
  have hnn : ¬ n < 0 := by simp only [Int32.lt_iff_toInt_lt, Int32.reduceToInt]; omega
  have hcl : n.toNatClampNeg = i := by simp only [Int32.toNatClampNeg]; omega
  obtain ⟨T', h', cA, X', e', E, A, stp⟩ := newP X cx.1 cx.2.1 w eT (g := mkF m pc Ls (.int n :: st)) rfl (hb cx.2.2.2.1 hd) rfl hnn (cap := cap) (by omega) hbig hc hl
  have A' : ArV Z h' h.size (newarray.typeOf aty) (List.replicate i (defaultValue (newarray.typeOf aty))) := ⟨_, A, by simp [newA, hcl], by
    have := Int32.toInt_lt n; simp only [List.length_replicate]; omega⟩
  obtain ⟨s₂, o, h1, r⟩ := k h' h.size E (Nat.le_refl _) hn A' _ _ _ _ _ _ _ _ _ _ X' cx fr e' (Nat.le_trans hn E.1)
  exact ⟨s₂, o, stp _ h1, r⟩
theorem Go.newD (pc' : Nat) (cap : Nat) {n : Int32} {i : Nat} (w : (Cond.arrayClass .double).before a0 Z = true) (hi : n.toInt = (i : Int)) (hcap : i ≤ cap) (hbig : cap * 8 ≤ 536870912) (hd : decode B.2.1 pc = .ok (.newarray .double, 2)) (hp : pc + 2 = pc') (hc : cl + 1 ≤ R.cells) (hl : sl + cap ≤ R.slots)
    (k : ∀ h' a, Ext h h' → h.size ≤ a → n0 ≤ a → ArD Z h' a (List.replicate i 0) → Go l Z R B n0 Q h' (cl + 1) (sl + cap) pc' Ls (.ref a :: st)) : Go l Z R B n0 Q h cl sl pc Ls (.int n :: st) :=
  Go.newarr pc' cap (aty := .double) w hi hcap hbig hd hp hc hl fun h' a E q1 q2 A => k h' a E q1 q2 (by show ArV _ _ _ _ _; rw [List.map_replicate]; exact A)
theorem Go.newI (pc' : Nat) (cap : Nat) {n : Int32} {i : Nat} (w : (Cond.arrayClass .int).before a0 Z = true) (hi : n.toInt = (i : Int)) (hcap : i ≤ cap) (hbig : cap * 8 ≤ 536870912) (hd : decode B.2.1 pc = .ok (.newarray .int, 2)) (hp : pc + 2 = pc') (hc : cl + 1 ≤ R.cells) (hl : sl + cap ≤ R.slots)
    (k : ∀ h' a, Ext h h' → h.size ≤ a → n0 ≤ a → ArI Z h' a (List.replicate i 0) → Go l Z R B n0 Q h' (cl + 1) (sl + cap) pc' Ls (.ref a :: st)) : Go l Z R B n0 Q h cl sl pc Ls (.int n :: st) :=
  Go.newarr pc' cap (aty := .int) w hi hcap hbig hd hp hc hl fun h' a E q1 q2 A => k h' a E q1 q2 (by show ArV _ _ _ _ _; rw [List.map_replicate]; exact A)
theorem Go.newJ (pc' : Nat) (cap : Nat) {n : Int32} {i : Nat} (w : (Cond.arrayClass .long).before a0 Z = true) (hi : n.toInt = (i : Int)) (hcap : i ≤ cap) (hbig : cap * 8 ≤ 536870912) (hd : decode B.2.1 pc = .ok (.newarray .long, 2)) (hp : pc + 2 = pc') (hc : cl + 1 ≤ R.cells) (hl : sl + cap ≤ R.slots)
    (k : ∀ h' a, Ext h h' → h.size ≤ a → n0 ≤ a → ArJ Z h' a (List.replicate i 0) → Go l Z R B n0 Q h' (cl + 1) (sl + cap) pc' Ls (.ref a :: st)) : Go l Z R B n0 Q h cl sl pc Ls (.int n :: st) :=
  Go.newarr pc' cap (aty := .long) w hi hcap hbig hd hp hc hl fun h' a E q1 q2 A => k h' a E q1 q2 (by show ArV _ _ _ _ _; rw [List.map_replicate]; exact A)
/-! ### returns -/
theorem Go.out {w : Option Value} (hv : B.2.2.2 = none → w = none) (q : Q w h) (hc : cl ≤ R.cells) (hs : sl ≤ R.slots)
    (f : ∀ {p : Program} {e : Env} {s : State} {m : MethodId} {args : Array Value} {below : List Frame} {meth : Method} {c : Code} {T : State} {locs : List Loc} {fs : List Frame}, Stand p l e R s m args below meth c T locs cl sl → p.tables.exec = Jvm.exec → c.code = B.2.1 → meth.sig.returnType = B.2.2.2 →
      (∀ (f : JFrame) (acts : List Action), f.method = m → f.locked = none → f.entered = [] → (doReturn e (T.setTop f) acts w).1 = T.setFrames fs) → Steps p.tables e below (T.setTop (mkF m pc Ls st)) (T.setFrames fs)) : Go l Z R B n0 Q h cl sl pc Ls st := by
  intro p e s m args below meth c T locs X cx fr eT hn
  obtain ⟨fs, hr, hrun, hended, hW, hsame⟩ := X.leave (v := w) (fun q0 => hv (cx.2.2.2.2.2.1.symm.trans q0)) cx.2.2.2.2.2.2.1
  refine ⟨_, _, f X cx.1 cx.2.2.2.1 cx.2.2.2.2.2.1 hr, hrun, hended, w, locs, rfl, ?_, ⟨_, rfl⟩, hW, hsame.mono hc hs⟩
  have e2 : (T.setFrames fs).heap = h := eT
  rw [e2]
  exact ⟨q, hn, fr⟩
theorem Go.ret (hd : decode B.2.1 pc = .ok (.return_, 1)) (hr : B.2.2.2 = none) (hc : cl ≤ R.cells) (hs : sl ≤ R.slots) (q : Q none h) : Go l Z R B n0 Q h cl sl pc Ls [] :=
  Go.out (w := none) (fun _ => rfl) q hc hs fun X hx hcd hrt hl => X.returnOut hx (hrt.trans hr) (hb hcd hd) hl
theorem Go.iret {x : Int32} (hd : decode B.2.1 pc = .ok (.ireturn, 1)) (hr : B.2.2.2 = some .int) (hc : cl ≤ R.cells) (hs : sl ≤ R.slots) (q : Q (some (.int x)) h) : Go l Z R B n0 Q h cl sl pc Ls (.int x :: st) :=
  Go.out (w := some (.int x)) (fun q0 => by rw [hr] at q0; cases q0) q hc hs fun X hx hcd hrt hl => retOut X hx (hrt.trans hr) rfl (Or.inl ⟨rfl, Or.inl rfl, x, rfl⟩) (hb hcd hd) hl
theorem Go.zret {x : Int32} (hd : decode B.2.1 pc = .ok (.ireturn, 1)) (hr : B.2.2.2 = some .boolean) (hx01 : x = 0 ∨ x = 1) (hc : cl ≤ R.cells) (hs : sl ≤ R.slots) (q : Q (some (.int x)) h) : Go l Z R B n0 Q h cl sl pc Ls (.int x :: st) :=
  Go.out (w := some (.int x)) (fun q0 => by rw [hr] at q0; cases q0) q hc hs fun X hx hcd hrt hl => retOut X hx (hrt.trans hr) (by rcases hx01 with rfl | rfl <;> rfl) (Or.inl ⟨rfl, Or.inr (Or.inl rfl), x, rfl⟩) (hb hcd hd) hl
theorem Go.lret {x : Int64} (hd : decode B.2.1 pc = .ok (.lreturn, 1)) (hr : B.2.2.2 = some .long) (hc : cl ≤ R.cells) (hs : sl ≤ R.slots) (q : Q (some (.long x)) h) : Go l Z R B n0 Q h cl sl pc Ls (.long x :: st) :=
  Go.out (w := some (.long x)) (fun q0 => by rw [hr] at q0; cases q0) q hc hs fun X hx hcd hrt hl => retOut X hx (hrt.trans hr) rfl (Or.inr (Or.inl ⟨rfl, rfl, x, rfl⟩)) (hb hcd hd) hl
theorem Go.dret {x : UInt64} (hd : decode B.2.1 pc = .ok (.dreturn, 1)) (hr : B.2.2.2 = some .double) (hc : cl ≤ R.cells) (hs : sl ≤ R.slots) (q : Q (some (.double x)) h) : Go l Z R B n0 Q h cl sl pc Ls (.double x :: st) :=
  Go.out (w := some (.double x)) (fun q0 => by rw [hr] at q0; cases q0) q hc hs fun X hx hcd hrt hl => retOut X hx (hrt.trans hr) rfl (Or.inr (Or.inr (Or.inl ⟨rfl, rfl, x, rfl⟩))) (hb hcd hd) hl
theorem Go.aret {x : Value} {t : FieldType} (hd : decode B.2.1 pc = .ok (.areturn, 1)) (hr : B.2.2.2 = some t) (ht : t.isReference = true) (hv : x.isRef = true) (hc : cl ≤ R.cells) (hs : sl ≤ R.slots) (q : Q (some x) h) : Go l Z R B n0 Q h cl sl pc Ls (x :: st) :=
  Go.out (w := some x) (fun q0 => by rw [hr] at q0; cases q0) q hc hs fun X hx hcd hrt hl => retOut X hx (hrt.trans hr) (by cases t <;> first | rfl | cases ht) (Or.inr (Or.inr (Or.inr (Or.inr ⟨rfl, ht, hv⟩)))) (hb hcd hd) hl
/-! ### calls -/
/-- a callee's contract pays a call, under the narrow word on the tables -/
theorem backH {p : Program} {e : Env} {s : State} {args : Array Value} {below : List Frame} {y : MethodName} {bytes : ByteArray} {maxL : Nat} {ret : Option FieldType} {rm : Room} {len W : Nat} {as' : Array Value} {P : Option Value → Heap → List Loc → Prop}
    (hM : MetFree l y (head1 [Cond.code y bytes maxL ret] rm) (fun a U => a = as' ∧ Z.WarmedH U.vm ∧ U.heap = h) (fun _ _ _ _ _ => True) (fun _ U o U' => ∃ v L, o = .returned v ∧ P v U'.heap L ∧ FrameEnd U o U' L rm.cells rm.slots))
    (hZ : Z.WarmedH s.vm) (wc : (Cond.code y bytes maxL ret).before a0 Z = true) (wz : (Cond.initialized y.cls).before a0 Z = true) (hf : rm.frames + 1 ≤ R.frames) (hl : W + (maxL + 11) + rm.locals ≤ R.locals) :
    Back l R p e below s args y len W (fun A a => a = as' ∧ A.U.heap = h ∧ A.cells + rm.cells ≤ R.cells ∧ A.slots + rm.slots ≤ R.slots)
      (fun A _ v B => ∃ L, P v B.U.heap L ∧ B.locs = A.locs ++ L ∧ B.cells = A.cells + rm.cells ∧ B.slots = A.slots + rm.slots) := by
  refine Back.of_free (bytes := bytes) (maxL := maxL) (ret := ret) (E := fun _ _ o t L k n => k = rm.cells ∧ n = rm.slots ∧ ∃ v, o = .returned v ∧ P v t.heap L) hM hf hl ?_ ?_ ?_ ?_ ?_
  · intro m meth c A a Y hp
    have hU : Z.Warmed39 A.U.vm := (State.WarmedH.trans hZ Y.warmed).wide
    refine ⟨?_, mv hU wc, mv hU wz, hp.2.2.1, hp.2.2.2⟩
    show (Cond.and _ .tt).before a A.U = true
    rw [Cond.before_and, mv hU wc]; rfl
  · intro m meth c A a g mk Y hp
    exact ⟨hp.1, State.WarmedH.trans hZ Y.warmed, hp.2.1⟩
  · intros; trivial
  · rintro _ _ _ _ ⟨v, L, h1, h2, h3⟩
    exact ⟨L, _, _, h3, rfl, rfl, v, h1, h2⟩
  · rintro m meth c A a g mk v t L k n Y hp _ _ ⟨e1, e2, v', e3, e4⟩
    cases e3; subst e1 e2; exact ⟨L, e4, rfl, rfl, rfl⟩
/-- a body's walk from its entry is its contract -/
theorem Go.met {y : MethodName} {bytes : ByteArray} {maxL : Nat} {ret : Option FieldType} {rm : Room} {as' : Array Value} {Ls' : Array Slot} {ws : List Jvm.Cond} (pn : plainName y.cls = true) (hn : n0 ≤ h.size) (ef : ∀ m, entryFrame m as' maxL = mkF m 0 Ls' [])
    (k : Go l Z rm (y, bytes, maxL, ret) n0 Q h 0 0 0 Ls' []) :
    MetFree l y (head1 (Jvm.Cond.code y bytes maxL ret :: ws) rm) (fun a U => a = as' ∧ Z.WarmedH U.vm ∧ U.heap = h) (fun _ _ _ _ _ => True) (fun _ U o U' => ∃ v L, o = .returned v ∧ (Q v U'.heap ∧ n0 ≤ U'.heap.size ∧ Fr n0 L) ∧ FrameEnd U o U' L rm.cells rm.slots) := by
  refine MetFree.of_bodySF (plainFor_of_name pn) hisR ?_
  intro p e s m args below meth c s₁ Bd hml0 hP hK
  obtain ⟨rfl, hZ, hh⟩ := hP
  have e0 : s₁.heap = h := by rw [← hh, Bd.state]; rfl
  obtain ⟨s₂, o, h1, r⟩ := k _ _ _ _ _ _ _ _ _ _ (Stand.of_body Bd) ⟨Bd.exec, hZ.wide, findClass_of_methodNamed Bd.named, Bd.bytes, hml0, Bd.returns, Bd.notSynchronized, (name_of_methodNamed Bd.named Bd.method).1, hZ, Bd.named⟩ (Fr.nil n0) e0 hn
  exact ⟨s₂, o, castTop (ef m) h1, r⟩
theorem Go.callV (pc' : Nat) {index : Nat} {y : MethodName} {bytes : ByteArray} {maxL : Nat} {ret : Option FieldType} {rm : Room} {Q' : Option Value → Heap → Prop} {Ls' : Array Slot} {a : Nat} (argsL rest : List Value) {ps : List FieldType} {rt : Option FieldType}
    (w1 : (Cond.methodLink B.1.cls index y).before a0 Z = true) (w2 : (Cond.declares y).before a0 Z = true) (w3 : (Cond.selects y.cls y y).before a0 Z = true) (w4 : (Cond.instanceMethod y).before a0 Z = true) (w5 : (Cond.code y bytes maxL ret).before a0 Z = true) (w6 : (Cond.initialized y.cls).before a0 Z = true)
    (hy : y.cls ≠ "java/lang/invoke/MethodHandle" ∧ y.cls ≠ "java/lang/invoke/VarHandle") (pn : plainName y.cls = true) (pd : parseMethodDescriptor y.desc = some ⟨ps, rt⟩) (hlen : argsL.length = ps.length)
    (E : Exa Z h a y.cls) (ef : ∀ m, entryFrame m (.ref a :: argsL).toArray maxL = mkF m 0 Ls' [])
    (callee : Go l Z rm (y, bytes, maxL, ret) n0 Q' h 0 0 0 Ls' [])
    (hst : st = argsL.reverse ++ .ref a :: rest) (hsz : Ls.size = B.2.2.1) (hfr : rm.frames + 1 ≤ R.frames) (hlo : (rest.map fun v => v.category).sum + (maxL + 11) + rm.locals ≤ R.locals) (hc : cl + rm.cells ≤ R.cells) (hs : sl + rm.slots ≤ R.slots)
    (hd : decode B.2.1 pc = .ok (.invokevirtual index, 3)) (hp : pc + 3 = pc')
    (k : ∀ v h', Q' v h' → Go l Z R B n0 Q h' (cl + rm.cells) (sl + rm.slots) pc' Ls (v.toList ++ rest)) : Go l Z R B n0 Q h cl sl pc Ls st := by
  subst hp
  intro p e s m args below meth c T locs X cx fr eT hn
  obtain ⟨cq, kq, qa, qb, qc⟩ := isOf cx.2.1 eT E
  obtain ⟨v, _, ⟨T', L', k', n'⟩, -, X', ⟨Lc, hQ, l', y', z'⟩, stp⟩ := X.virtualBack cx.1 (y := y) (z := y) cx.2.2.1 (mvT cx.2.1 w1) (mvT cx.2.1 w2) (notFace_of_selects (args := #[]) (mvT cx.2.1 w3)) (mvT cx.2.1 w3) (mvT cx.2.1 w4) hy
    (backH (W := (rest.map fun v => v.category).sum) (P := fun v h' L => Q' v h' ∧ n0 ≤ h'.size ∧ Fr n0 L) (callee.met (ws := []) pn hn ef) cx.2.2.2.2.2.2.2.2.1 w5 w6 hfr hlo) qa qc (g := mkF m pc Ls st) rfl (hsz.trans cx.2.2.2.2.1.symm) (Steps.refl _) (argsL := argsL) (rest := rest) (lenOf pd hlen) hst (by show 2 * 0 + _ ≤ _; omega) (hb cx.2.2.2.1 hd) (fun _ _ => ⟨rfl, eT, hc, hs⟩)
  dsimp only [Pt.U, Pt.locs, Pt.cells, Pt.slots] at X' l' y' z' stp hQ
  subst l' y' z'
  obtain ⟨hQ1, hQ2, hQ3⟩ := hQ
  obtain ⟨s₂, o, h1, r⟩ := k v T'.heap hQ1 _ _ _ _ _ _ _ _ _ _ X' cx (Fr.app fr hQ3) rfl hQ2
  exact ⟨s₂, o, stp.trans h1, r⟩
theorem Go.callN (pc' : Nat) {index : Nat} {y : MethodName} {bytes : ByteArray} {maxL : Nat} {rm : Room} {Q' : Option Value → Heap → Prop} {Ls' : Array Slot} {a : Nat} (argsL rest : List Value) {ps : List FieldType} {rt : Option FieldType} (hy1 : y.name = "<init>")
    (w1 : (Cond.methodLink B.1.cls index y).before a0 Z = true) (w4 : (Cond.instanceMethod y).before a0 Z = true) (w5 : (Cond.code y bytes maxL none).before a0 Z = true) (w6 : (Cond.initialized y.cls).before a0 Z = true)
    (hy : y.cls ≠ "java/lang/invoke/MethodHandle" ∧ y.cls ≠ "java/lang/invoke/VarHandle") (pn : plainName y.cls = true) (pd : parseMethodDescriptor y.desc = some ⟨ps, rt⟩) (hlen : argsL.length = ps.length)
    (ef : ∀ m, entryFrame m (.ref a :: argsL).toArray maxL = mkF m 0 Ls' [])
    (callee : Go l Z rm (y, bytes, maxL, none) n0 Q' h 0 0 0 Ls' [])
    (hst : st = argsL.reverse ++ .ref a :: rest) (hsz : Ls.size = B.2.2.1) (hfr : rm.frames + 1 ≤ R.frames) (hlo : (rest.map fun v => v.category).sum + (maxL + 11) + rm.locals ≤ R.locals) (hc : cl + rm.cells ≤ R.cells) (hs : sl + rm.slots ≤ R.slots)
    (hd : decode B.2.1 pc = .ok (.invokespecial index, 3)) (hp : pc + 3 = pc')
    (k : ∀ v h', Q' v h' → Go l Z R B n0 Q h' (cl + rm.cells) (sl + rm.slots) pc' Ls (v.toList ++ rest)) : Go l Z R B n0 Q h cl sl pc Ls st := by
  subst hp
  intro p e s m args below meth c T locs X cx fr eT hn
  obtain ⟨v, _, ⟨T', L', k', n'⟩, -, X', ⟨Lc, hQ, l', y', z'⟩, stp⟩ := X.specialBack cx.1 (y := y) hy1 cx.2.2.1 (mvT cx.2.1 w1) (mvT cx.2.1 w4) (mvT cx.2.1 w5) hy
    (backH (W := (rest.map fun v => v.category).sum) (P := fun v h' L => Q' v h' ∧ n0 ≤ h'.size ∧ Fr n0 L) (callee.met (ws := []) pn hn ef) cx.2.2.2.2.2.2.2.2.1 w5 w6 hfr hlo) (g := mkF m pc Ls st) rfl (hsz.trans cx.2.2.2.2.1.symm) (Steps.refl _) (a := a) (argsL := argsL) (rest := rest) (lenOf pd hlen) hst (by show 2 * 0 + _ ≤ _; omega) (hb cx.2.2.2.1 hd) (fun _ _ => ⟨rfl, eT, hc, hs⟩)
  dsimp only [Pt.U, Pt.locs, Pt.cells, Pt.slots] at X' l' y' z' stp hQ
  subst l' y' z'
  obtain ⟨hQ1, hQ2, hQ3⟩ := hQ
  obtain ⟨s₂, o, h1, r⟩ := k v T'.heap hQ1 _ _ _ _ _ _ _ _ _ _ X' cx (Fr.app fr hQ3) rfl hQ2
  exact ⟨s₂, o, stp.trans h1, r⟩
theorem Go.callS (pc' : Nat) {index : Nat} {y : MethodName} {bytes : ByteArray} {maxL : Nat} {ret : Option FieldType} {rm : Room} {Q' : Option Value → Heap → Prop} {Ls' : Array Slot} (argsL rest : List Value) {ps : List FieldType} {rt : Option FieldType}
    (w1 : (Cond.methodLink B.1.cls index y).before a0 Z = true) (w2 : (Cond.static y).before a0 Z = true) (w5 : (Cond.code y bytes maxL ret).before a0 Z = true) (w6 : (Cond.initialized y.cls).before a0 Z = true)
    (hy : y.cls ≠ "java/lang/invoke/MethodHandle" ∧ y.cls ≠ "java/lang/invoke/VarHandle") (pn : plainName y.cls = true) (pd : parseMethodDescriptor y.desc = some ⟨ps, rt⟩) (hlen : argsL.length = ps.length)
    (ef : ∀ m, entryFrame m argsL.toArray maxL = mkF m 0 Ls' [])
    (callee : Go l Z rm (y, bytes, maxL, ret) n0 Q' h 0 0 0 Ls' [])
    (hst : st = argsL.reverse ++ rest) (hsz : Ls.size = B.2.2.1) (hfr : rm.frames + 1 ≤ R.frames) (hlo : (rest.map fun v => v.category).sum + (maxL + 11) + rm.locals ≤ R.locals) (hc : cl + rm.cells ≤ R.cells) (hs : sl + rm.slots ≤ R.slots)
    (hd : decode B.2.1 pc = .ok (.invokestatic index, 3)) (hp : pc + 3 = pc')
    (k : ∀ v h', Q' v h' → Go l Z R B n0 Q h' (cl + rm.cells) (sl + rm.slots) pc' Ls (v.toList ++ rest)) : Go l Z R B n0 Q h cl sl pc Ls st := by
  subst hp
  intro p e s m args below meth c T locs X cx fr eT hn
  obtain ⟨v, _, ⟨T', L', k', n'⟩, -, X', ⟨Lc, hQ, l', y', z'⟩, stp⟩ := Jvm.LawKit.callS X cx.1 (y := y) cx.2.2.1 (mvT cx.2.1 w1) (mvT cx.2.1 w2) (mvT cx.2.1 w6) (mvT cx.2.1 w5) hy
    (backH (W := (rest.map fun v => v.category).sum) (P := fun v h' L => Q' v h' ∧ n0 ≤ h'.size ∧ Fr n0 L) (callee.met (ws := []) pn hn ef) cx.2.2.2.2.2.2.2.2.1 w5 w6 hfr hlo) (g := mkF m pc Ls st) rfl (hsz.trans cx.2.2.2.2.1.symm) (argsL := argsL) (rest := rest) (lenOf pd hlen) hst (by show 2 * 0 + _ ≤ _; omega) (hb cx.2.2.2.1 hd) (fun _ _ => ⟨rfl, eT, hc, hs⟩)
  dsimp only [Pt.U, Pt.locs, Pt.cells, Pt.slots] at X' l' y' z' stp hQ
  subst l' y' z'
  obtain ⟨hQ1, hQ2, hQ3⟩ := hQ
  obtain ⟨s₂, o, h1, r⟩ := k v T'.heap hQ1 _ _ _ _ _ _ _ _ _ _ X' cx (Fr.app fr hQ3) rfl hQ2
  exact ⟨s₂, o, stp _ h1, r⟩
end Rules
end Jvm.GoK
namespace Jvm.GoK
open Jvm.Free
theorem toInt_add {x y : Int32} {a b : Int} {c : Int} (hx : x.toInt = a) (hy : y.toInt = b) (h1 : -2147483648 ≤ a + b) (h2 : a + b < 2147483648) (e : a + b = c) : (x + y).toInt = c := by
  rw [XT.add32 (show XT.fits32 _ from ⟨by rw [hx, hy]; omega, by rw [hx, hy]; omega⟩), hx, hy, e]
theorem toInt_add' {x y z : Int32} {a b : Int} {c : Int} (hx : x.toInt = a) (hy : y.toInt = b) (hz : x + y = z) (h1 : -2147483648 ≤ a + b) (h2 : a + b < 2147483648) (e : a + b = c) : z.toInt = c := hz ▸ toInt_add hx hy h1 h2 e
theorem toInt_sub {x y : Int32} {a b : Int} {c : Int} (hx : x.toInt = a) (hy : y.toInt = b) (h1 : -2147483648 ≤ a - b) (h2 : a - b < 2147483648) (e : a - b = c) : (x - y).toInt = c := by
  rw [XT.sub32 (show XT.fits32 _ from ⟨by rw [hx, hy]; omega, by rw [hx, hy]; omega⟩), hx, hy, e]
theorem toInt_mul {x y : Int32} {a b : Int} {c : Int} (hx : x.toInt = a) (hy : y.toInt = b) (h1 : -2147483648 ≤ a * b) (h2 : a * b < 2147483648) (e : a * b = c) : (x * y).toInt = c := by
  rw [XT.mul32 (show XT.fits32 _ from ⟨by rw [hx, hy]; omega, by rw [hx, hy]; omega⟩), hx, hy, e]
end Jvm.GoK
namespace Jvm.GoK
open Jvm.Free
theorem toInt_ladd {x y : Int64} {a b c : Int} (hx : x.toInt = a) (hy : y.toInt = b) (h1 : -9223372036854775808 ≤ a + b) (h2 : a + b < 9223372036854775808) (e : a + b = c) : (x + y).toInt = c := by
  rw [XT.add64 (show XT.fits64 _ from ⟨by rw [hx, hy]; omega, by rw [hx, hy]; omega⟩), hx, hy, e]
theorem toInt_lsub {x y : Int64} {a b c : Int} (hx : x.toInt = a) (hy : y.toInt = b) (h1 : -9223372036854775808 ≤ a - b) (h2 : a - b < 9223372036854775808) (e : a - b = c) : (x - y).toInt = c := by
  rw [XT.sub64 (show XT.fits64 _ from ⟨by rw [hx, hy]; omega, by rw [hx, hy]; omega⟩), hx, hy, e]
theorem toInt_lmul {x y : Int64} {a b c : Int} (hx : x.toInt = a) (hy : y.toInt = b) (h1 : -9223372036854775808 ≤ a * b) (h2 : a * b < 9223372036854775808) (e : a * b = c) : (x * y).toInt = c := by
  rw [XT.mul64 (show XT.fits64 _ from ⟨by rw [hx, hy]; omega, by rw [hx, hy]; omega⟩), hx, hy, e]
theorem b32 (x : Int32) : -2147483648 ≤ x.toInt ∧ x.toInt < 2147483648 := ⟨x.le_toInt, x.toInt_lt⟩
theorem and_nat (n : Int32) (k : Nat) (hk : k < 2147483648) : ∃ j : Nat, j ≤ k ∧ (n &&& Int32.ofNat k).toInt = (j : Int) := by
  have h : (n &&& Int32.ofNat k).toInt = ((n.toBitVec &&& BitVec.ofNat 32 k).toNat : Int) := by
    show (n.toBitVec &&& BitVec.ofNat 32 k).toInt = _
    rw [BitVec.toInt_eq_toNat_of_lt]
    have h2 : (n.toBitVec &&& BitVec.ofNat 32 k).toNat ≤ (BitVec.ofNat 32 k).toNat := by rw [BitVec.toNat_and]; exact Nat.and_le_right
    have h3 : (BitVec.ofNat 32 k).toNat = k := by rw [BitVec.toNat_ofNat]; omega
    omega
  refine ⟨_, ?_, h⟩
  have h3 : (BitVec.ofNat 32 k).toNat = k := by rw [BitVec.toNat_ofNat]; omega
  rw [BitVec.toNat_and]
  exact Nat.le_trans Nat.and_le_right (Nat.le_of_eq h3)
theorem and3 (n : Int32) : n &&& 3 = 0 ∨ n &&& 3 = 1 ∨ n &&& 3 = 2 ∨ n &&& 3 = 3 := by
  obtain ⟨j, h1, h2⟩ := and_nat n 3 (by decide)
  have h2 : (n &&& 3).toInt = (j : Int) := h2
  have : j = 0 ∨ j = 1 ∨ j = 2 ∨ j = 3 := by omega
  rcases this with rfl | rfl | rfl | rfl
  · exact Or.inl (Int32.toInt_inj.mp h2)
  · exact Or.inr (Or.inl (Int32.toInt_inj.mp h2))
  · exact Or.inr (Or.inr (Or.inl (Int32.toInt_inj.mp h2)))
  · exact Or.inr (Or.inr (Or.inr (Int32.toInt_inj.mp h2)))
theorem fill_step {α : Type} {rs : List α} {z g : α} {j k : Nat} (hg : rs[j]? = some g) (hk : rs.length = k) : (rs.take j ++ List.replicate (k - j) z).set j g = rs.take (j + 1) ++ List.replicate (k - (j + 1)) z := by
  have hj := (List.getElem?_eq_some_iff.mp hg).1
  have hlen : (rs.take j).length = j := by rw [List.length_take]; omega
  rw [List.set_append, hlen, if_neg (Nat.lt_irrefl j), Nat.sub_self, List.take_add_one, hg]
  obtain ⟨m, hm⟩ : ∃ m, k - j = m + 1 := ⟨k - j - 1, by omega⟩
  rw [hm, show k - (j + 1) = m by omega, List.replicate_succ, List.set_cons_zero, List.append_assoc]
  rfl
end Jvm.GoK
namespace Jvm.GoK
theorem fill_step2 {α : Type} {rs : List α} {z g : α} {j m : Nat} (hg : rs[j]? = some g) : (rs.take j ++ List.replicate (m + 1) z).set j g = rs.take (j + 1) ++ List.replicate m z := by
  have hj := (List.getElem?_eq_some_iff.mp hg).1
  have hlen : (rs.take j).length = j := by rw [List.length_take]; omega
  rw [List.set_append, hlen, if_neg (Nat.lt_irrefl j), Nat.sub_self, List.take_add_one, hg, List.replicate_succ, List.set_cons_zero, List.append_assoc]
  rfl
end Jvm.GoK
namespace Jvm.GoK
theorem leB {a b : Nat} (h : Nat.ble a b = true) : a ≤ b := Nat.le_of_ble_eq_true h
end Jvm.GoK
namespace Jvm.GoK
theorem lit1 : (1 : Int32).toInt = 1 := by decide
theorem lit2 : (2 : Int32).toInt = 2 := by decide
theorem lit3 : (3 : Int32).toInt = 3 := by decide
theorem olit1 : (Int32.ofInt 1).toInt = 1 := by decide
theorem olit2 : (Int32.ofInt 2).toInt = 2 := by decide
theorem olitm : (Int32.ofInt (-1)).toInt = -1 := by decide
end Jvm.GoK
namespace Jvm.GoK
theorem ninN {a b : Nat} {l : List Nat} (h : a ≠ b) (q : a ∉ l) : a ∉ b :: l := Jvm.RoadKit.ninS h q
end Jvm.GoK
namespace Jvm.GoK
open Sem ClassFile Op Lib Jvm.Stand Jvm.Free Jvm.LawKit Jvm.RoadKit Jvm.Lambda
open Jvm.LamKit (fwdOK made_static madeSelects capOK made_cap noFields zip_narrow getCap)
theorem made_warm {Z s : State} {host : String} {σ : Lambda.Shape} {cK : ClassId} (hW : Z.WarmedH s.vm) (q : Jvm.LamKit.Made Z host σ cK) : Jvm.LamKit.Made s host σ cK := by
  obtain ⟨d, dk, hd, hn, hm, hc⟩ := q
  obtain ⟨dk', hd', he⟩ := hW.alike.2.2 _ _ hd
  refine ⟨d, dk', hd', by rw [he]; exact hn, Lambda.isMade_warmer hW hm, ?_⟩
  have hA := hW.alike
  simp only [State.lambdaCallable, hA.findClass, hA.assignable, hA.superclasses, hA.declaredIn] at hc ⊢
  exact hc
/-- a function object: its class was made for the shape σ in 'host'; it holds vals -/
def Fn (Z : State) (h : Heap) (a : Nat) (host : String) (σ : Lambda.Shape) (vals : List Value) : Prop := ∃ cell : Cell, Jvm.LamKit.Made Z host σ cell.cls ∧ h[a]? = some cell ∧ cell.vm = .none ∧ cell.slots = vals.toArray
section
variable {l : Launch} {Z : State} {R : Room} {B : Bdy} {n0 : Nat} {Q : Option Value → Heap → Prop} {h : Heap} {cl sl pc : Nat} {Ls : Array Slot} {st : List Value} {a0 : Array Value}
theorem Fn.lt {a : Nat} {host : String} {σ : Lambda.Shape} {vals : List Value} (F : Fn Z h a host σ vals) : a < h.size := by
  obtain ⟨c, -, q, -⟩ := F; exact (Array.getElem?_eq_some_iff.mp q).1
theorem Fn.ext {h' : Heap} {a : Nat} {host : String} {σ : Lambda.Shape} {vals : List Value} (F : Fn Z h a host σ vals) (E : Ext h h') : Fn Z h' a host σ vals := by
  obtain ⟨c, m, q, r⟩ := F; exact ⟨c, m, E.2 _ _ q, r⟩
theorem Fn.keep {h' : Heap} {a : Nat} {ws : List Nat} {host : String} {σ : Lambda.Shape} {vals : List Value} (F : Fn Z h a host σ vals) (K : Keep h h' ws) (q : a ∉ ws) : Fn Z h' a host σ vals := by
  obtain ⟨c, m, r, t⟩ := F; exact ⟨c, m, K.2.1 a c r q, t⟩
theorem Fn.other {h' : Heap} {a b : Nat} {sl : Nat} {v : Value} {host : String} {σ : Lambda.Shape} {vals : List Value} (F : Fn Z h b host σ vals) (W : Wr h h' a sl v) (q : b ≠ a) : Fn Z h' b host σ vals :=
  F.keep (Keep.of_wr W) (by simpa using q)
/-- 'invokedynamic' at a linked site that captures vals -/
theorem Go.site (pc' : Nat) {index fi : Nat} {σ : Lambda.Shape} (vals rest : List Value) (w : (Cond.lambdaSite B.1 pc index σ).before a0 Z = true) (hcap : σ.captured ≠ []) (hok : capOK σ B.1.cls fi 0 = true) (wO : (Cond.instantiable "java/lang/Object" 0).before a0 Z = true)
    (hlen : vals.length = σ.captured.length) (hst : st = vals.reverse ++ rest) (hfit : ∀ (i : Nat) t v, σ.captured[i]? = some t → vals[i]? = some v → narrow t v = v ∧ fits t v = true)
    (hsz : Ls.size = B.2.2.1) (hwords : (st.map fun v => v.category).sum + 3072 ≤ R.locals) (hc : cl + 1 ≤ R.cells) (hs : sl + vals.length ≤ R.slots)
    (hd : decode B.2.1 pc = .ok (.invokedynamic index, 5)) (hp : pc + 5 = pc')
    (k : ∀ h' a, Ext h h' → h.size ≤ a → n0 ≤ a → Fn Z h' a B.1.cls σ vals → Go l Z R B n0 Q h' (cl + 1) (sl + vals.length) pc' Ls (.ref a :: rest)) : Go l Z R B n0 Q h cl sl pc Ls st := by
  subst hp
  intro p e s m args below meth c T locs X cx fr eT hn
  have hW : Z.WarmedH s.vm := cx.2.2.2.2.2.2.2.2.1
  have hnm : s.methodNamed? B.1 = some m := cx.2.2.2.2.2.2.2.2.2
  obtain ⟨cK, one, hat⟩ := Cond.lambdaSite_spec w
  obtain ⟨mD, kD, cfD, i0, p0, lk, hmD, hkD, hcfD, hsh, -, hfind, hmade, hcan, hl⟩ := State.lambdaAt?_spec hat
  have hmD' : s.methodNamed? B.1 = some mD := by
    have q := State.methodNamed?_setVm (s := Z) hW.alike B.1
    rw [hmD] at q; exact q
  cases hnm.symm.trans hmD'
  obtain ⟨kN, hkN, hnameD⟩ := className_of_methodNamed hmD
  cases hkD.symm.trans hkN
  have hM : Jvm.LamKit.Made Z B.1.cls σ cK := ⟨_, kD, hkD, hnameD, hmade, hcan⟩
  rcases hl with ⟨a, cell, -, -, hc0, -⟩ | ⟨rfl, -, -⟩
  · exact absurd hc0 hcap
  · obtain ⟨b, nt, desc, site, h1, h2, h3, h4⟩ := shapeOf?_site hsh
    obtain ⟨kS, hkS, heS⟩ := hW.alike.2.2 _ _ hkD
    obtain ⟨d, dk, hd1, hdn, hmade', -⟩ := made_warm hW hM
    obtain ⟨kc, f, hkc, hkind, hty, -⟩ := made_cap hok hd1 hdn hmade' (noFields wO hW)
    have hz : ((kc.instanceTypes.toList.zip vals).map fun (t, v) => narrow t v) = vals := by rw [hty]; exact zip_narrow _ _ hlen fun i t v a b => (hfit i t v a b).1
    have hw : e.platform.lambdaLinkWords = 3072 := by rw [X.admits.platform]
    have q := X.lambdaMakes cx.1 (g := mkF m pc Ls st) rfl (hsz.trans cx.2.2.2.2.1.symm) (hb cx.2.2.2.1 hd) (vals := vals) (rest := rest) hkS (by rw [heS]; exact hfind) (by rw [heS]; exact hcfD) h1 h2 (parseLong_of_parse h3) (by rw [h4]; exact hlen) hst hkc
      (by rw [hw, show (mkF m pc Ls st).monitorRoom = 0 from rfl, Nat.mul_zero, Nat.zero_add]; exact hwords) hc (by rw [hz]; exact hs)
      (fun i v hv => by
        rw [hz] at hv
        have hv' : vals[i]? = some v := by simpa using hv
        have hi : i < σ.captured.length := by rw [← hlen]; exact (List.getElem?_eq_some_iff.mp hv').1
        have := (hfit i _ v (List.getElem?_eq_getElem hi) hv').2
        simp [State.fitsSlot, State.slotType?, hkc, hkind, hty, List.getElem?_eq_getElem hi, this])
    rw [hz] at q
    obtain ⟨X', stp⟩ := q
    subst eT
    have hN : (T.heap.push { cls := cK, slots := vals.toArray, vm := .none })[T.heap.size]? = some { cls := cK, slots := vals.toArray, vm := .none } := by simp
    have E : Ext T.heap (T.heap.push { cls := cK, slots := vals.toArray, vm := .none }) := ⟨by simp, fun a c q => by
      rw [Array.getElem?_push_lt (Array.getElem?_eq_some_iff.mp q).1]; exact (Array.getElem?_eq_getElem _).symm.trans q⟩
    obtain ⟨s₂, o, h1, r⟩ := k _ _ E (Nat.le_refl _) hn ⟨_, hM, hN, rfl, rfl⟩ _ _ _ _ _ _ _ _ _ _ (by simpa using X') cx fr rfl (Nat.le_trans hn E.1)
    exact ⟨s₂, o, stp _ h1, r⟩
end
/-- the answer fits the forwarder's last instruction: an int or a double -/
def RetK (fret : Option FieldType) (op : Instr) (v : Option Value) : Prop :=
  (∃ w, fret = some .int ∧ op = .ireturn ∧ v = some (.int w)) ∨ (∃ w, fret = some .double ∧ op = .dreturn ∧ v = some (.double w))
section
variable {p : Program} {l : Launch} {e : Env} {R : Room} {s Z : State} {m : MethodId} {args a0 : Array Value} {below : List Frame} {meth : Method} {c : Code} {T : State} {locs : List Loc} {cells slots n0 : Nat} {h : Heap}
theorem retK (Y : Stand p l e R s m args below meth c T locs cells slots) (hexec : p.tables.exec = Jvm.exec) {pc : Nat} {Ls : Array Slot} {ret : Option FieldType} {op : Instr} {v : Option Value} (hret : meth.sig.returnType = ret) (hok : RetK ret op v)
    (hdg : decode c.code pc = .ok (op, 1)) {fs : List Frame} (hleave : ∀ (f : JFrame) (acts : List Action), f.method = m → f.locked = none → f.entered = [] → (doReturn e (T.setTop f) acts v).1 = T.setFrames fs) :
    Steps p.tables e below (T.setTop (mkF m pc Ls v.toList)) (T.setFrames fs) := by
  rcases hok with ⟨w, rfl, rfl, rfl⟩ | ⟨w, rfl, rfl, rfl⟩
  · exact Jvm.RoadKit.retOut Y hexec hret rfl (Or.inl ⟨rfl, Or.inl rfl, w, rfl⟩) hdg hleave
  · exact Jvm.RoadKit.retOut Y hexec hret rfl (Or.inr (Or.inr (Or.inl ⟨rfl, rfl, w, rfl⟩))) hdg hleave
/-- the function object's forwarder runs: its loads, the static target by its walk, and back -/
theorem fwdGo (X : Stand p l e R s m args below meth c T locs cells slots) (hexec : p.tables.exec = Jvm.exec) (hW : Z.WarmedH s.vm) {host : String} {y : MethodName} {σ : Lambda.Shape}
    {bytes : ByteArray} {maxL : Nat} {ret : Option FieldType} {rm : Room} {Q' : Option Value → Heap → Prop} {Ls' : Array Slot}
    (wc : (Cond.code y bytes maxL ret).before a0 Z = true) (wst : (Cond.static y).before a0 Z = true) (wz : (Cond.initialized y.cls).before a0 Z = true)
    (hy : y.cls = σ.implClass ∧ y.name = σ.implName ∧ y.desc = σ.implDesc.toString) (hpoly : y.cls ≠ "java/lang/invoke/MethodHandle" ∧ y.cls ≠ "java/lang/invoke/VarHandle") (pn : plainName y.cls = true)
    {cK : ClassId} (hmd : Jvm.LamKit.Made Z host σ cK)
    {fcode : ByteArray} {fml idx ci pcI : Nat} {fret : Option FieldType} {op : Instr} (hok : fwdOK σ host fcode fml fret idx ci = true)
    (hdI : decode fcode pcI = .ok (.invokestatic idx, 3)) (hdR : decode fcode (pcI + 3) = .ok (op, 1))
    {g : JFrame} (hg : g.method = m) (hsize : g.locals.size = c.maxLocals) {ig : Instr} {len : Nat} (hdg : decode c.code g.pc = .ok (ig, len)) {av : Array Value} {argsT : List Value} {L0 : Array Slot}
    (hlenT : ∀ sig, parseMethodDescriptor y.desc = some sig → argsT.length = sig.parameters.length)
    (hL0 : ∀ mk, entryFrame mk av fml = mkF mk 0 L0 []) (hsz : L0.size = fml)
    (hload : ∀ (U : State) (ck : Code) (bl : List Frame) (target : State), At U ⟨cK, 1⟩ ck bl → ck.code = fcode → U.heap = T.heap → Z.WarmedH U.vm →
      Steps p.tables e bl (U.setTop (mkF ⟨cK, 1⟩ pcI L0 argsT.reverse)) target → Steps p.tables e bl (U.setTop (mkF ⟨cK, 1⟩ 0 L0 [])) target)
    (eT : T.heap = h) (hn : n0 ≤ h.size) (ef : ∀ m, entryFrame m argsT.toArray maxL = mkF m 0 Ls' []) (callee : Go l Z rm (y, bytes, maxL, ret) n0 Q' h 0 0 0 Ls' [])
    (hout : ∀ v h', Q' v h' → RetK fret op v)
    (hfr : rm.frames + 2 ≤ R.frames) (hlo : 2 * g.monitorRoom + (g.stack.map fun v => v.category).sum + (fml + 11) + ((maxL + 11) + rm.locals) ≤ R.locals)
    (hcells : cells + rm.cells ≤ R.cells) (hslots : slots + rm.slots ≤ R.slots) :
    ∃ (v : Option Value) (T' : State) (L : List Loc), Stand p l e R s m args below meth c T' (locs ++ L) (cells + rm.cells) (slots + rm.slots) ∧ Q' v T'.heap ∧ n0 ≤ T'.heap.size ∧ Fr n0 L ∧
      ∀ acts, Steps p.tables e below (doInvoke e (T.setTop g) acts ⟨cK, 1⟩ av).1 (T'.setTop { g with pc := g.pc + len, stack := v.toList ++ g.stack }) := by
  obtain ⟨d, dk, hd, hdn, hmade, -⟩ := hmd
  obtain ⟨y1, y2, y3⟩ := hy
  obtain ⟨mT, hmT⟩ := Cond.code_named wc
  obtain ⟨methT, cT, hmethT, -, -, -, -, -, -, hsigT⟩ := Cond.code_spec hmT wc
  have hstaticT : methT.isStatic = true := Cond.static_spec hmT hmethT wst
  obtain ⟨kT, hkT, hnameT⟩ := className_of_methodNamed hmT
  have hfT : Z.vm.findClass y.cls = some mT.cls := findClass_of_methodNamed hmT
  have hinitK : kT.init = .initialized := Cond.initialized_spec hfT hkT wz
  have hW₁ : Z.WarmedH T.vm := State.WarmedH.trans hW X.warmed
  obtain ⟨kD₁, hkD₁, heD₁⟩ := hW₁.alike.2.2 _ _ hd
  obtain ⟨kK₁, tk₁, file₁, methk₁, ck₁, toy₁, t₁, nt, hkK₁, hpn₁, hfile₁, hidx₁, hnt₁, hmk₁, hck₁, hbytes₁, hml₁, hlk₁, -, hretk₁, htoy₁, htk₁, hlook₁, hready₁, hclsR₁⟩ := made_static hok hkD₁ (by rw [heD₁]; exact hdn) (Lambda.isMade_warmer hW₁ hmade)
  have hfT₁ : T.vm.findClass σ.implClass = some mT.cls := by rw [hW₁.alike.findClass, ← y1]; exact hfT
  cases htoy₁.symm.trans hfT₁
  have ht₁ : t₁ = mT := by
    have h1 : (Z.setVm T.vm).methodFound? y.cls y.name y.desc = some mT := by rw [State.methodFound?_setVm hW₁.alike]; exact State.methodFound?_of_named hmT hpoly
    rw [y1, y2, y3] at h1
    simp only [State.methodFound?, State.vm_setVm, hfT₁, htk₁, Option.bind_eq_bind, Option.bind_some] at h1
    rw [hlook₁] at h1
    exact Option.some.inj h1
  subst ht₁
  have hmethT₁ : T.vm.method? t₁ = some methT := by rw [hW₁.alike.method?]; exact hmethT
  obtain ⟨kT₁, hkT₁, heT₁⟩ := hW₁.alike.2.2 _ _ hkT
  cases htk₁.symm.trans hkT₁
  have hsp : ∀ z : Method, signaturePolymorphic tk₁ z = false := fun z => by
    have hn' : tk₁.name = y.cls := by rw [heT₁]; exact hnameT
    simp [signaturePolymorphic, hn', hpoly.1, hpoly.2]
  obtain ⟨b, hmem⟩ := memberRef_ask' (e := e) (vm := T.vm) (d := cK) (index := idx) hkK₁ hfile₁ (Or.inl hidx₁) hnt₁
  have hpk : T.plainMethod ⟨cK, 1⟩ := State.plainMethod.of_name (fun k' hk' => by cases hkK₁.symm.trans hk'; exact hpn₁)
  obtain ⟨Y₀, hin⟩ := X.into hg hsize hdg av (R' := { frames := rm.frames + 1, cells := rm.cells, slots := rm.slots, locals := (maxL + 11) + rm.locals }) hmk₁ hck₁ hlk₁ hpk hfr (by rw [hml₁]; exact hlo) hcells hslots
  rw [hml₁, hL0] at Y₀ hin
  generalize hU : (T.setTop g).pushFrame (.java (mkF ⟨cK, 1⟩ 0 L0 [])) = U at Y₀ hin
  have hvmU : U.vm = T.vm := by rw [← hU]; rfl
  have hheapU : U.heap = T.heap := by rw [← hU]; rfl
  generalize hs' : T.calling g ⟨cK, 1⟩ av = s' at Y₀
  have hvm' : s'.vm = T.vm := by rw [← hs']; rfl
  have hWs' : Z.WarmedH s'.vm := by rw [hvm']; exact hW₁
  have hK := backH (R := { frames := rm.frames + 1, cells := rm.cells, slots := rm.slots, locals := (maxL + 11) + rm.locals }) (p := p) (e := e) (s := s') (args := av) (below := .java g :: below) (len := 3) (W := 0)
    (P := fun v h' L => Q' v h' ∧ n0 ≤ h'.size ∧ Fr n0 L) (callee.met (ws := []) pn hn ef) hWs' wc wz (Nat.le_refl _) (by show 0 + (maxL + 11) + rm.locals ≤ (maxL + 11) + rm.locals; omega)
  have hnamedU : U.methodNamed? y = some t₁ := by
    have q : (Z.setVm T.vm).methodNamed? y = some t₁ := by rw [State.methodNamed?_setVm hW₁.alike]; exact hmT
    rw [← hU]; exact q
  obtain ⟨v, ⟨U', ls, cc, sl⟩, Y₁, ⟨L, hq, hl, hc, hs⟩, hsteps⟩ := hK ⟨cK, 1⟩ methk₁ ck₁ ⟨U, [], 0, 0⟩ (mkF ⟨cK, 1⟩ pcI L0 []) (.invokestatic idx) t₁ argsT.toArray Y₀ rfl (by rw [hml₁]; exact hsz)
    (by rw [hbytes₁]; exact hdI) (Nat.le_refl _) hnamedU ⟨rfl, hheapU.trans eT, by show 0 + rm.cells ≤ rm.cells; omega, by show 0 + rm.slots ≤ rm.slots; omega⟩
  dsimp only [Pt.U, Pt.locs, Pt.cells, Pt.slots] at Y₁ hq hl hc hs hsteps
  subst hl; subst hc; subst hs
  have hro := hout _ _ hq.1
  obtain ⟨fs, hleave, -, hended, hWe, hsame⟩ := Y₁.leave (v := v) (fun h => by
    rw [hretk₁] at h
    rcases hro with ⟨w, e', -⟩ | ⟨w, e', -⟩
    · rw [e'] at h; cases h
    · rw [e'] at h; cases h) hlk₁
  subst hs'
  obtain ⟨T', X', -, -, ht⟩ := X.outOf hg hdg hended hWe hsame
  have hheap' : T'.heap = U'.heap := by
    have q : (U'.setFrames fs).heap = (T'.setTop { g with pc := g.pc + len, stack := v.toList ++ g.stack }).heap := congrArg State.heap ht
    exact q.symm
  refine ⟨v, T', _, by simpa using X', by rw [hheap']; exact hq.1, by rw [hheap']; exact hq.2.1, by simpa using hq.2.2, fun acts => ?_⟩
  rw [hin acts, ← ht]
  refine Steps.weaken (mid := [.java g]) ?_
  refine hload U ck₁ _ _ Y₀.here hbytes₁ hheapU (by rw [hvmU]; exact hW₁) ?_
  have hsU : U.topJava?.isSome := Y₀.here.top
  have hdI' : decode ck₁.code pcI = .ok (.invokestatic idx, 3) := by rw [hbytes₁]; exact hdI
  show Steps p.tables e _ (U.setTop { method := ⟨cK, 1⟩, pc := pcI, locals := L0, stack := argsT.reverse, locked := none }) _
  jvm_step Y₀.here [hexec, hdI', invokestatic.wp_ready (e := e) (s := U) (m := t₁) (k := tk₁) (meth := methT) (args := argsT) (rest := [])
    (f := { method := ⟨cK, 1⟩, pc := pcI, locals := L0, stack := argsT.reverse, locked := none }) hsU ⟨ci, _, _, b, t₁.cls, tk₁, by rw [hvmU]; exact hmem, by rw [hvmU]; exact hclsR₁, by rw [hvmU]; exact htk₁, by simp [hsp]⟩ (by rw [hvmU]; exact hready₁) (by rw [hvmU]; exact htk₁) (by rw [hvmU]; exact hmethT₁) (hsp _) hstaticT (by rw [heT₁]; exact hinitK) (hlenT _ hsigT) (by simp)]
  intro acts'
  rw [doInvoke_state]
  refine hsteps.trans ?_
  have hfin := retK Y₁ hexec (pc := pcI + 3) (Ls := L0) hretk₁ hro (by rw [hbytes₁]; exact hdR) hleave
  simpa using hfin
end
section
variable {l : Launch} {Z : State} {R : Room} {B : Bdy} {n0 : Nat} {Q : Option Value → Heap → Prop} {h : Heap} {cl sl pc : Nat} {Ls : Array Slot} {st : List Value} {a0 : Array Value}
set_option maxHeartbeats 4000000 in
/-- 'invokeinterface' on a function object, with one int argument -/
theorem Go.lam (pc' : Nat) {index count : Nat} {xi y : MethodName} {σ : Lambda.Shape} {host : String} {bytes : ByteArray} {maxL : Nat} {ret : Option FieldType} {rm : Room} {Q' : Option Value → Heap → Prop} {Ls' : Array Slot} {a : Nat} {vals : List Value} {j : Int32} (rest : List Value)
    (w1 : (Cond.methodLink B.1.cls index xi).before a0 Z = true) (w2 : (Cond.declares xi).before a0 Z = true) (w3 : (Cond.interfaceMethod xi.cls xi.cls xi.name xi.desc).before a0 Z = true)
    (wc : (Cond.code y bytes maxL ret).before a0 Z = true) (wst : (Cond.static y).before a0 Z = true) (wz : (Cond.initialized y.cls).before a0 Z = true)
    (hxi : xi.cls = σ.iface ∧ xi.name = σ.name ∧ xi.desc = σ.sam.toString) (hy : y.cls = σ.implClass ∧ y.name = σ.implName ∧ y.desc = σ.implDesc.toString)
    (hp1 : xi.cls ≠ "java/lang/invoke/MethodHandle" ∧ xi.cls ≠ "java/lang/invoke/VarHandle") (hp2 : y.cls ≠ "java/lang/invoke/MethodHandle" ∧ y.cls ≠ "java/lang/invoke/VarHandle") (pn : plainName y.cls = true)
    (F : Fn Z h a host σ vals)
    {fcode : ByteArray} {fml idx ci pcI : Nat} {fret : Option FieldType} {op : Instr} (hok : fwdOK σ host fcode fml fret idx ci = true)
    (hdI : decode fcode pcI = .ok (.invokestatic idx, 3)) (hdR : decode fcode (pcI + 3) = .ok (op, 1)) {L0 : Array Slot}
    {ps : List FieldType} {rt : Option FieldType} (pd : parseMethodDescriptor xi.desc = some ⟨[.int], fret⟩) (pdT : parseMethodDescriptor y.desc = some ⟨ps, rt⟩) (hlenT : (vals ++ [Value.int j]).length = ps.length)
    (hL0 : ∀ mk, entryFrame mk #[.ref a, .int j] fml = mkF mk 0 L0 []) (hsz0 : L0.size = fml)
    (hload : ∀ {p : Program} {e : Env} (cK : ClassId) (cell : Cell) (U : State) (ck : Code) (bl : List Frame) (target : State), p.tables.exec = Jvm.exec → Jvm.LamKit.Made Z host σ cK → cell.vm = .none → cell.slots = vals.toArray → At U ⟨cK, 1⟩ ck bl → ck.code = fcode → U.heap[a]? = some cell → Z.WarmedH U.vm →
      Steps p.tables e bl (U.setTop (mkF ⟨cK, 1⟩ pcI L0 (vals ++ [Value.int j]).reverse)) target → Steps p.tables e bl (U.setTop (mkF ⟨cK, 1⟩ 0 L0 [])) target)
    (ef : ∀ m, entryFrame m (vals ++ [Value.int j]).toArray maxL = mkF m 0 Ls' []) (callee : Go l Z rm (y, bytes, maxL, ret) n0 Q' h 0 0 0 Ls' [])
    (hout : ∀ v h', Q' v h' → RetK fret op v)
    (hst : st = .int j :: .ref a :: rest) (hsz : Ls.size = B.2.2.1) (hfr : rm.frames + 2 ≤ R.frames) (hlo : (rest.map fun v => v.category).sum + (fml + 11) + ((maxL + 11) + rm.locals) ≤ R.locals) (hc : cl + rm.cells ≤ R.cells) (hs : sl + rm.slots ≤ R.slots)
    (hd : decode B.2.1 pc = .ok (.invokeinterface index count, 5)) (hp : pc + 5 = pc')
    (k : ∀ v h', Q' v h' → Go l Z R B n0 Q h' (cl + rm.cells) (sl + rm.slots) pc' Ls (v.toList ++ rest)) : Go l Z R B n0 Q h cl sl pc Ls st := by
  subst hp; subst hst
  intro p e s m args below meth c T locs X cx fr eT hn
  have hW : Z.WarmedH s.vm := cx.2.2.2.2.2.2.2.2.1
  obtain ⟨cell, hmd, hcell, hvmc, hslots⟩ := F
  have hmd' := made_warm hW hmd
  have hface : (Cond.interfaceMethod xi.cls xi.cls xi.name xi.desc).before args s = true := mvT cx.2.1 w3 (by simp [Cond.onTables, Cond.keepsFace, Cond.keeps, Cond.steady, Cond.faceAtom, hp1.1, hp1.2])
  obtain ⟨kK, methk, hkK, hmk, hpub, habs, hsel⟩ := madeSelects hmd' hok hface hxi
  obtain ⟨r0, r, hn0, hrm, hstR, hsigR⟩ := Cond.declares_spec (show (Cond.declares xi).before args s = true from mvT cx.2.1 w2)
  obtain ⟨cL, kL, r1, hcL, hkL, hiL, -, -⟩ := Cond.interfaceMethod_spec hface
  have hr0cls : r0.cls = cL := Option.some.inj ((findClass_of_methodNamed hn0).symm.trans hcL)
  obtain ⟨hasg, hsel', hway⟩ := hsel r0 r hn0 hrm
  have hcellT : T.heap[a]? = some cell := by rw [eT]; exact hcell
  have hlenI : ([Value.int j] : List Value).length = r.sig.parameters.length := by
    rw [← Option.some.inj (pd.symm.trans hsigR)]; rfl
  obtain ⟨vm₁, X₁, hstep₁⟩ := X.invokeinterface cx.1 cx.2.2.1 (mvT cx.2.1 w1) hn0 hrm hstR (by rw [hr0cls]; exact hkL) hiL hp1 (a := a) (cell := cell) (kcell := kK) hcellT (fun z h => by rw [hvmc] at h; cases h) hkK hasg
    (m' := ⟨cell.cls, 1⟩) (meth' := methk) (by rw [Launch.admits_selectMethod X.admits]; exact hsel') hmk hway hpub habs (g := mkF m pc Ls (.int j :: .ref a :: rest)) rfl (argsL := [.int j]) (rest := rest) hlenI rfl (hb cx.2.2.2.1 hd)
  have eT1 : (T.setVm vm₁).heap = h := eT
  have hlo1 : 2 * (mkF m pc Ls rest).monitorRoom + ((mkF m pc Ls rest).stack.map fun v => v.category).sum + (fml + 11) + ((maxL + 11) + rm.locals) ≤ R.locals := by
    have e0 : (mkF m pc Ls rest).monitorRoom = 0 := rfl
    rw [e0, Nat.mul_zero, Nat.zero_add]; exact hlo
  have hcell1 : (T.setVm vm₁).heap[a]? = some cell := hcellT
  have hld : ∀ (U : State) (ck : Code) (bl : List Frame) (target : State), At U ⟨cell.cls, 1⟩ ck bl → ck.code = fcode → U.heap = (T.setVm vm₁).heap → Z.WarmedH U.vm →
      Steps p.tables e bl (U.setTop (mkF ⟨cell.cls, 1⟩ pcI L0 (vals ++ [Value.int j]).reverse)) target → Steps p.tables e bl (U.setTop (mkF ⟨cell.cls, 1⟩ 0 L0 [])) target := by
    intro U ck bl target at_ hcd hh hWU q
    exact hload cell.cls cell U ck bl target cx.1 hmd hvmc hslots at_ hcd (by rw [hh]; exact hcell1) hWU q
  have hsz1 : (mkF m pc Ls rest).locals.size = c.maxLocals := hsz.trans cx.2.2.2.2.1.symm
  have hdg1 : decode c.code (mkF m pc Ls rest).pc = .ok (.invokeinterface index count, 5) := hb cx.2.2.2.1 hd
  have hT1 : ∀ sig, parseMethodDescriptor y.desc = some sig → (vals ++ [Value.int j]).length = sig.parameters.length := lenOf pdT hlenT
  have G := fwdGo (n0 := n0) (h := h) X₁ cx.1 hW wc wst wz hy hp2 pn hmd hok hdI hdR (g := mkF m pc Ls rest) rfl hsz1 hdg1 (av := #[.ref a, .int j]) (argsT := vals ++ [Value.int j]) hT1 hL0 hsz0 hld eT1 hn ef callee hout hfr hlo1 hc hs
  obtain ⟨v, T', L, X', q1, q2, q3, hsteps⟩ := G
  obtain ⟨s₂, o, h1, rr⟩ := k v T'.heap q1 _ _ _ _ _ _ _ _ _ _ X' cx (Fr.app fr q3) rfl q2
  exact ⟨s₂, o, hstep₁ _ fun acts => (hsteps acts).trans h1, rr⟩
/-- the loads of a forwarder with one captured value -/
theorem load1 {host : String} {σ : Lambda.Shape} {fcode : ByteArray} {f0 : Nat} {v0 : Value} {a : Nat} {j : Int32} {L0 : Array Slot} (wO : (Cond.instantiable "java/lang/Object" 0).before a0 Z = true) (k0 : capOK σ host f0 0 = true) (hr0 : v0.isRef = true)
    (d0 : decode fcode 0 = .ok (.aload_n 0, 1)) (d1 : decode fcode 1 = .ok (.getfield f0, 3)) (d2 : decode fcode 4 = .ok (.iload_n 1, 1)) (hl0 : L0[0]? = some (.val (.ref a))) (hl1 : L0[1]? = some (.val (.int j)))
    {p : Program} {e : Env} (cK : ClassId) (cell : Cell) (U : State) (ck : Code) (bl : List Frame) (target : State) (hx : p.tables.exec = Jvm.exec) (hmd : Jvm.LamKit.Made Z host σ cK) (hvm : cell.vm = .none) (hsl : cell.slots = [v0].toArray) (at_ : At U ⟨cK, 1⟩ ck bl) (hcd : ck.code = fcode) (hcell : U.heap[a]? = some cell) (hW : Z.WarmedH U.vm)
    (q : Steps p.tables e bl (U.setTop (mkF ⟨cK, 1⟩ 5 L0 ([v0] ++ [Value.int j]).reverse)) target) : Steps p.tables e bl (U.setTop (mkF ⟨cK, 1⟩ 0 L0 [])) target := by
  refine XS.aloadN at_ hx rfl (hb hcd d0) hl0 rfl ?_
  refine getCap hx at_ hW hmd k0 wO hcell hvm (by rw [hsl]; rfl) (g := mkF ⟨cK, 1⟩ 1 L0 [.ref a]) rfl rfl (hb hcd d1) ?_
  exact XS.iloadN at_ hx rfl (hb hcd d2) hl1 q
/-- .. with two -/
theorem load2 {host : String} {σ : Lambda.Shape} {fcode : ByteArray} {f0 f1 : Nat} {v0 v1 : Value} {a : Nat} {j : Int32} {L0 : Array Slot} (wO : (Cond.instantiable "java/lang/Object" 0).before a0 Z = true) (k0 : capOK σ host f0 0 = true) (k1 : capOK σ host f1 1 = true)
    (d0 : decode fcode 0 = .ok (.aload_n 0, 1)) (d1 : decode fcode 1 = .ok (.getfield f0, 3)) (d2 : decode fcode 4 = .ok (.aload_n 0, 1)) (d3 : decode fcode 5 = .ok (.getfield f1, 3)) (d4 : decode fcode 8 = .ok (.iload_n 1, 1)) (hl0 : L0[0]? = some (.val (.ref a))) (hl1 : L0[1]? = some (.val (.int j)))
    {p : Program} {e : Env} (cK : ClassId) (cell : Cell) (U : State) (ck : Code) (bl : List Frame) (target : State) (hx : p.tables.exec = Jvm.exec) (hmd : Jvm.LamKit.Made Z host σ cK) (hvm : cell.vm = .none) (hsl : cell.slots = [v0, v1].toArray) (at_ : At U ⟨cK, 1⟩ ck bl) (hcd : ck.code = fcode) (hcell : U.heap[a]? = some cell) (hW : Z.WarmedH U.vm)
    (q : Steps p.tables e bl (U.setTop (mkF ⟨cK, 1⟩ 9 L0 ([v0, v1] ++ [Value.int j]).reverse)) target) : Steps p.tables e bl (U.setTop (mkF ⟨cK, 1⟩ 0 L0 [])) target := by
  refine XS.aloadN at_ hx rfl (hb hcd d0) hl0 rfl ?_
  refine getCap hx at_ hW hmd k0 wO hcell hvm (by rw [hsl]; rfl) (g := mkF ⟨cK, 1⟩ 1 L0 [.ref a]) rfl rfl (hb hcd d1) ?_
  refine XS.aloadN at_ hx rfl (hb hcd d2) hl0 rfl ?_
  refine getCap hx at_ hW hmd k1 wO hcell hvm (by rw [hsl]; rfl) (g := mkF ⟨cK, 1⟩ 5 L0 [.ref a, v0]) rfl rfl (hb hcd d3) ?_
  exact XS.iloadN at_ hx rfl (hb hcd d4) hl1 q
end
end Jvm.GoK
namespace Jvm.GoK
open Jvm.FP Jvm.Free.Fl Jvm.FP.Core
/-! ### doubles that are whole numbers: what each step makes of them -/
def DAdd (x y v : UInt64) : Prop := FP.dadd x y = v ∧ NoNaN64 v
def DSub (x y v : UInt64) : Prop := FP.dsub x y = v ∧ NoNaN64 v
def DMul (x y v : UInt64) : Prop := FP.dmul x y = v ∧ NoNaN64 v
def DDiv (x y v : UInt64) : Prop := FP.ddiv x y = v ∧ NoNaN64 v
theorem dint_nn {i : Int} {v : UInt64} (h : DInt i v) : NoNaN64 v := val64_no.mpr (DInt_ne_nan h)
theorem dint_cast {i j : Int} {v : UInt64} (h : DInt i v) (e : i = j) : DInt j v := e ▸ h
theorem dint_zero : DInt 0 0 := by
  unfold DInt
  rw [val64_zero]
  show signed false (0 * _) = 0 * _
  simp [signed]
theorem addI {i j : Int} {x y : UInt64} (hx : DInt i x) (hy : DInt j y) (b1 : -9007199254740992 ≤ i + j) (b2 : i + j ≤ 9007199254740992) : ∃ v, DAdd x y v ∧ DInt (i + j) v := by
  have q : DInt (i + j) (FP.dadd x y) := dadd_int hx hy (by omega)
  exact ⟨_, ⟨rfl, dint_nn q⟩, q⟩
theorem subI {i j : Int} {x y : UInt64} (hx : DInt i x) (hy : DInt j y) (b1 : -9007199254740992 ≤ i - j) (b2 : i - j ≤ 9007199254740992) : ∃ v, DSub x y v ∧ DInt (i - j) v := by
  have q : DInt (i - j) (FP.dsub x y) := dsub_int hx hy (by omega)
  exact ⟨_, ⟨rfl, dint_nn q⟩, q⟩
theorem mulI {i j : Int} {x y : UInt64} (hx : DInt i x) (hy : DInt j y) (b1 : -9007199254740992 ≤ i * j) (b2 : i * j ≤ 9007199254740992) : ∃ v, DMul x y v ∧ DInt (i * j) v := by
  have q : DInt (i * j) (FP.dmul x y) := dmul_int hx hy (by omega)
  exact ⟨_, ⟨rfl, dint_nn q⟩, q⟩
/-- what a comparison pushes -/
def sg (i j : Int) : Int32 := if i < j then -1 else if i = j then 0 else 1
theorem sg_cases (i j : Int) : ((sg i j).toInt = -1 ∧ i < j) ∨ ((sg i j).toInt = 0 ∧ i = j) ∨ ((sg i j).toInt = 1 ∧ j < i) := by
  unfold sg
  by_cases h1 : i < j
  · rw [if_pos h1]; exact Or.inl ⟨by decide, h1⟩
  · rw [if_neg h1]
    by_cases h2 : i = j
    · rw [if_pos h2]; exact Or.inr (Or.inl ⟨by decide, h2⟩)
    · rw [if_neg h2]; exact Or.inr (Or.inr ⟨by decide, by omega⟩)
theorem cmpV_sg (i j : Int) (o : ClassFile.CmpOp) : Op.cmpValue (some (compare i j)) o = sg i j := by
  unfold sg
  by_cases h1 : i < j
  · rw [if_pos h1, (compare_lt_iff i j).mpr h1]; cases o <;> rfl
  · rw [if_neg h1]
    by_cases h2 : i = j
    · rw [if_pos h2, (compare_eq_iff i j).mpr h2]; cases o <;> rfl
    · rw [if_neg h2, (compare_gt_iff i j).mpr (by omega)]; cases o <;> rfl
theorem cmpI {i j : Int} {x y : UInt64} (hx : DInt i x) (hy : DInt j y) (o : ClassFile.CmpOp) : Op.cmpValue (FP.dcmp x y) o = sg i j := by
  rw [show FP.dcmp x y = some (compare i j) from dcmp_int hx hy]; exact cmpV_sg i j o
end Jvm.GoK
namespace Jvm.GoK
theorem sg_self {i j : Int} (h : i = j) : (sg i j).toInt = 0 := by have := sg_cases i j; omega
end Jvm.GoK
namespace Jvm.Pilot.@@N@@
open Jvm Jvm.ClassFile Sem Op Lib Jvm.Free Jvm.Stand Jvm.LawKit Jvm.RoadKit Bundle Jvm.GoK Jvm.Pilot.@@N@@.Jvm.D
theorem d1_0 : decode method_3_code 0 = .ok (.lload_n 0, 1) := by decide +kernel
theorem d1_1 : decode method_3_code 1 = .ok (.bipush 6, 2) := by decide +kernel
theorem d1_3 : decode method_3_code 3 = .ok (.iload_n 2, 1) := by decide +kernel
theorem d1_4 : decode method_3_code 4 = .ok (.imul, 1) := by decide +kernel
theorem d1_5 : decode method_3_code 5 = .ok (.lushr, 1) := by decide +kernel
theorem d1_6 : decode method_3_code 6 = .ok (.ldc2_w 30, 3) := by decide +kernel
theorem d1_9 : decode method_3_code 9 = .ok (.land, 1) := by decide +kernel
theorem d1_10 : decode method_3_code 10 = .ok (.l2i, 1) := by decide +kernel
theorem d1_11 : decode method_3_code 11 = .ok (.iconst 3, 1) := by decide +kernel
theorem d1_12 : decode method_3_code 12 = .ok (.irem, 1) := by decide +kernel
theorem d1_13 : decode method_3_code 13 = .ok (.ireturn, 1) := by decide +kernel
theorem d2_0 : decode method_4_code 0 = .ok (.lload_n 0, 1) := by decide +kernel
theorem d2_1 : decode method_4_code 1 = .ok (.bipush 6, 2) := by decide +kernel
theorem d2_3 : decode method_4_code 3 = .ok (.iload_n 2, 1) := by decide +kernel
theorem d2_4 : decode method_4_code 4 = .ok (.imul, 1) := by decide +kernel
theorem d2_5 : decode method_4_code 5 = .ok (.iconst 2, 1) := by decide +kernel
theorem d2_6 : decode method_4_code 6 = .ok (.iadd, 1) := by decide +kernel
theorem d2_7 : decode method_4_code 7 = .ok (.lushr, 1) := by decide +kernel
theorem d2_8 : decode method_4_code 8 = .ok (.ldc2_w 32, 3) := by decide +kernel
theorem d2_11 : decode method_4_code 11 = .ok (.land, 1) := by decide +kernel
theorem d2_12 : decode method_4_code 12 = .ok (.l2i, 1) := by decide +kernel
theorem d2_13 : decode method_4_code 13 = .ok (.bipush 8, 2) := by decide +kernel
theorem d2_15 : decode method_4_code 15 = .ok (.isub, 1) := by decide +kernel
theorem d2_16 : decode method_4_code 16 = .ok (.i2d, 1) := by decide +kernel
theorem d2_17 : decode method_4_code 17 = .ok (.dreturn, 1) := by decide +kernel
theorem d3_0 : decode prog_170_method_1_code 0 = .ok (.aload_n 0, 1) := by decide +kernel
theorem d3_1 : decode prog_170_method_1_code 1 = .ok (.iload_n 1, 1) := by decide +kernel
theorem d3_2 : decode prog_170_method_1_code 2 = .ok (.aload_n 2, 1) := by decide +kernel
theorem d3_3 : decode prog_170_method_1_code 3 = .ok (.aload 5, 2) := by decide +kernel
theorem d3_5 : decode prog_170_method_1_code 5 = .ok (.invokedynamic 1, 5) := by decide +kernel
theorem d3_10 : decode prog_170_method_1_code 10 = .ok (.aload_n 2, 1) := by decide +kernel
theorem d3_11 : decode prog_170_method_1_code 11 = .ok (.aload 5, 2) := by decide +kernel
theorem d3_13 : decode prog_170_method_1_code 13 = .ok (.invokedynamic 5, 5) := by decide +kernel
theorem d3_18 : decode prog_170_method_1_code 18 = .ok (.aload_n 3, 1) := by decide +kernel
theorem d3_19 : decode prog_170_method_1_code 19 = .ok (.invokedynamic 6, 5) := by decide +kernel
theorem d3_24 : decode prog_170_method_1_code 24 = .ok (.aload 4, 2) := by decide +kernel
theorem d3_26 : decode prog_170_method_1_code 26 = .ok (.invokedynamic 9, 5) := by decide +kernel
theorem d3_31 : decode prog_170_method_1_code 31 = .ok (.invokespecial 13, 3) := by decide +kernel
theorem d3_34 : decode prog_170_method_1_code 34 = .ok (.return_, 1) := by decide +kernel
theorem d4_0 : decode prog_170_method_2_code 0 = .ok (.aload_n 0, 1) := by decide +kernel
theorem d4_1 : decode prog_170_method_2_code 1 = .ok (.invokespecial 19, 3) := by decide +kernel
theorem d4_4 : decode prog_170_method_2_code 4 = .ok (.aload_n 0, 1) := by decide +kernel
theorem d4_5 : decode prog_170_method_2_code 5 = .ok (.iload_n 1, 1) := by decide +kernel
theorem d4_6 : decode prog_170_method_2_code 6 = .ok (.putfield 24, 3) := by decide +kernel
theorem d4_9 : decode prog_170_method_2_code 9 = .ok (.aload_n 0, 1) := by decide +kernel
theorem d4_10 : decode prog_170_method_2_code 10 = .ok (.iload_n 1, 1) := by decide +kernel
theorem d4_11 : decode prog_170_method_2_code 11 = .ok (.iconst 1, 1) := by decide +kernel
theorem d4_12 : decode prog_170_method_2_code 12 = .ok (.iadd, 1) := by decide +kernel
theorem d4_13 : decode prog_170_method_2_code 13 = .ok (.newarray .int, 2) := by decide +kernel
theorem d4_15 : decode prog_170_method_2_code 15 = .ok (.putfield 28, 3) := by decide +kernel
theorem d4_18 : decode prog_170_method_2_code 18 = .ok (.aload_n 0, 1) := by decide +kernel
theorem d4_19 : decode prog_170_method_2_code 19 = .ok (.iload_n 1, 1) := by decide +kernel
theorem d4_20 : decode prog_170_method_2_code 20 = .ok (.iconst 1, 1) := by decide +kernel
theorem d4_21 : decode prog_170_method_2_code 21 = .ok (.iadd, 1) := by decide +kernel
theorem d4_22 : decode prog_170_method_2_code 22 = .ok (.newarray .int, 2) := by decide +kernel
theorem d4_24 : decode prog_170_method_2_code 24 = .ok (.putfield 32, 3) := by decide +kernel
theorem d4_27 : decode prog_170_method_2_code 27 = .ok (.iconst 0, 1) := by decide +kernel
theorem d4_28 : decode prog_170_method_2_code 28 = .ok (.istore 6, 2) := by decide +kernel
theorem d4_30 : decode prog_170_method_2_code 30 = .ok (.iconst 0, 1) := by decide +kernel
theorem d4_31 : decode prog_170_method_2_code 31 = .ok (.istore 7, 2) := by decide +kernel
theorem d4_33 : decode prog_170_method_2_code 33 = .ok (.iconst 0, 1) := by decide +kernel
theorem d4_34 : decode prog_170_method_2_code 34 = .ok (.istore 8, 2) := by decide +kernel
theorem d4_36 : decode prog_170_method_2_code 36 = .ok (.iload 8, 2) := by decide +kernel
theorem d4_38 : decode prog_170_method_2_code 38 = .ok (.iload_n 1, 1) := by decide +kernel
theorem d4_39 : decode prog_170_method_2_code 39 = .ok (.if_icmp .ge 61, 3) := by decide +kernel
theorem d4_42 : decode prog_170_method_2_code 42 = .ok (.aload_n 2, 1) := by decide +kernel
theorem d4_43 : decode prog_170_method_2_code 43 = .ok (.iload 8, 2) := by decide +kernel
theorem d4_45 : decode prog_170_method_2_code 45 = .ok (.invokeinterface 35 2, 5) := by decide +kernel
theorem d4_50 : decode prog_170_method_2_code 50 = .ok (.istore 9, 2) := by decide +kernel
theorem d4_52 : decode prog_170_method_2_code 52 = .ok (.iload 9, 2) := by decide +kernel
theorem d4_54 : decode prog_170_method_2_code 54 = .ok (.aload_n 3, 1) := by decide +kernel
theorem d4_55 : decode prog_170_method_2_code 55 = .ok (.iload 8, 2) := by decide +kernel
theorem d4_57 : decode prog_170_method_2_code 57 = .ok (.invokeinterface 35 2, 5) := by decide +kernel
theorem d4_62 : decode prog_170_method_2_code 62 = .ok (.if_icmp .ge 32, 3) := by decide +kernel
theorem d4_65 : decode prog_170_method_2_code 65 = .ok (.aload 4, 2) := by decide +kernel
theorem d4_67 : decode prog_170_method_2_code 67 = .ok (.iload 9, 2) := by decide +kernel
theorem d4_69 : decode prog_170_method_2_code 69 = .ok (.invokeinterface 35 2, 5) := by decide +kernel
theorem d4_74 : decode prog_170_method_2_code 74 = .ok (.iload 8, 2) := by decide +kernel
theorem d4_76 : decode prog_170_method_2_code 76 = .ok (.if_icmp .ge 9, 3) := by decide +kernel
theorem d4_79 : decode prog_170_method_2_code 79 = .ok (.iinc 6 1, 3) := by decide +kernel
theorem d4_82 : decode prog_170_method_2_code 82 = .ok (.goto 6, 3) := by decide +kernel
theorem d4_85 : decode prog_170_method_2_code 85 = .ok (.iinc 7 1, 3) := by decide +kernel
theorem d4_88 : decode prog_170_method_2_code 88 = .ok (.iinc 9 1, 3) := by decide +kernel
theorem d4_91 : decode prog_170_method_2_code 91 = .ok (.goto (-39), 3) := by decide +kernel
theorem d4_94 : decode prog_170_method_2_code 94 = .ok (.iinc 8 1, 3) := by decide +kernel
theorem d4_97 : decode prog_170_method_2_code 97 = .ok (.goto (-61), 3) := by decide +kernel
theorem d4_100 : decode prog_170_method_2_code 100 = .ok (.aload_n 0, 1) := by decide +kernel
theorem d4_101 : decode prog_170_method_2_code 101 = .ok (.iload 6, 2) := by decide +kernel
theorem d4_103 : decode prog_170_method_2_code 103 = .ok (.newarray .int, 2) := by decide +kernel
theorem d4_105 : decode prog_170_method_2_code 105 = .ok (.putfield 40, 3) := by decide +kernel
theorem d4_108 : decode prog_170_method_2_code 108 = .ok (.aload_n 0, 1) := by decide +kernel
theorem d4_109 : decode prog_170_method_2_code 109 = .ok (.iload 6, 2) := by decide +kernel
theorem d4_111 : decode prog_170_method_2_code 111 = .ok (.newarray .double, 2) := by decide +kernel
theorem d4_113 : decode prog_170_method_2_code 113 = .ok (.putfield 43, 3) := by decide +kernel
theorem d4_116 : decode prog_170_method_2_code 116 = .ok (.aload_n 0, 1) := by decide +kernel
theorem d4_117 : decode prog_170_method_2_code 117 = .ok (.iload 7, 2) := by decide +kernel
theorem d4_119 : decode prog_170_method_2_code 119 = .ok (.newarray .int, 2) := by decide +kernel
theorem d4_121 : decode prog_170_method_2_code 121 = .ok (.putfield 47, 3) := by decide +kernel
theorem d4_124 : decode prog_170_method_2_code 124 = .ok (.aload_n 0, 1) := by decide +kernel
theorem d4_125 : decode prog_170_method_2_code 125 = .ok (.iload 7, 2) := by decide +kernel
theorem d4_127 : decode prog_170_method_2_code 127 = .ok (.newarray .double, 2) := by decide +kernel
theorem d4_129 : decode prog_170_method_2_code 129 = .ok (.putfield 50, 3) := by decide +kernel
theorem d4_132 : decode prog_170_method_2_code 132 = .ok (.iconst 0, 1) := by decide +kernel
theorem d4_133 : decode prog_170_method_2_code 133 = .ok (.istore 6, 2) := by decide +kernel
theorem d4_135 : decode prog_170_method_2_code 135 = .ok (.iconst 0, 1) := by decide +kernel
theorem d4_136 : decode prog_170_method_2_code 136 = .ok (.istore 7, 2) := by decide +kernel
theorem d4_138 : decode prog_170_method_2_code 138 = .ok (.iconst 0, 1) := by decide +kernel
theorem d4_139 : decode prog_170_method_2_code 139 = .ok (.istore 8, 2) := by decide +kernel
theorem d4_141 : decode prog_170_method_2_code 141 = .ok (.iload 8, 2) := by decide +kernel
theorem d4_143 : decode prog_170_method_2_code 143 = .ok (.iload_n 1, 1) := by decide +kernel
theorem d4_144 : decode prog_170_method_2_code 144 = .ok (.if_icmp .ge 143, 3) := by decide +kernel
theorem d4_147 : decode prog_170_method_2_code 147 = .ok (.aload_n 0, 1) := by decide +kernel
theorem d4_148 : decode prog_170_method_2_code 148 = .ok (.getfield 28, 3) := by decide +kernel
theorem d4_151 : decode prog_170_method_2_code 151 = .ok (.iload 8, 2) := by decide +kernel
theorem d4_153 : decode prog_170_method_2_code 153 = .ok (.iload 6, 2) := by decide +kernel
theorem d4_155 : decode prog_170_method_2_code 155 = .ok (.iastore, 1) := by decide +kernel
theorem d4_156 : decode prog_170_method_2_code 156 = .ok (.aload_n 0, 1) := by decide +kernel
theorem d4_157 : decode prog_170_method_2_code 157 = .ok (.getfield 32, 3) := by decide +kernel
theorem d4_160 : decode prog_170_method_2_code 160 = .ok (.iload 8, 2) := by decide +kernel
theorem d4_162 : decode prog_170_method_2_code 162 = .ok (.iload 7, 2) := by decide +kernel
theorem d4_164 : decode prog_170_method_2_code 164 = .ok (.iastore, 1) := by decide +kernel
theorem d4_165 : decode prog_170_method_2_code 165 = .ok (.aload_n 2, 1) := by decide +kernel
theorem d4_166 : decode prog_170_method_2_code 166 = .ok (.iload 8, 2) := by decide +kernel
theorem d4_168 : decode prog_170_method_2_code 168 = .ok (.invokeinterface 35 2, 5) := by decide +kernel
theorem d4_173 : decode prog_170_method_2_code 173 = .ok (.istore 9, 2) := by decide +kernel
theorem d4_175 : decode prog_170_method_2_code 175 = .ok (.iload 9, 2) := by decide +kernel
theorem d4_177 : decode prog_170_method_2_code 177 = .ok (.aload_n 3, 1) := by decide +kernel
theorem d4_178 : decode prog_170_method_2_code 178 = .ok (.iload 8, 2) := by decide +kernel
theorem d4_180 : decode prog_170_method_2_code 180 = .ok (.invokeinterface 35 2, 5) := by decide +kernel
theorem d4_185 : decode prog_170_method_2_code 185 = .ok (.if_icmp .ge 96, 3) := by decide +kernel
theorem d4_188 : decode prog_170_method_2_code 188 = .ok (.aload 4, 2) := by decide +kernel
theorem d4_190 : decode prog_170_method_2_code 190 = .ok (.iload 9, 2) := by decide +kernel
theorem d4_192 : decode prog_170_method_2_code 192 = .ok (.invokeinterface 35 2, 5) := by decide +kernel
theorem d4_197 : decode prog_170_method_2_code 197 = .ok (.iload 8, 2) := by decide +kernel
theorem d4_199 : decode prog_170_method_2_code 199 = .ok (.if_icmp .ge 41, 3) := by decide +kernel
theorem d4_202 : decode prog_170_method_2_code 202 = .ok (.aload_n 0, 1) := by decide +kernel
theorem d4_203 : decode prog_170_method_2_code 203 = .ok (.getfield 40, 3) := by decide +kernel
theorem d4_206 : decode prog_170_method_2_code 206 = .ok (.iload 6, 2) := by decide +kernel
theorem d4_208 : decode prog_170_method_2_code 208 = .ok (.aload 4, 2) := by decide +kernel
theorem d4_210 : decode prog_170_method_2_code 210 = .ok (.iload 9, 2) := by decide +kernel
theorem d4_212 : decode prog_170_method_2_code 212 = .ok (.invokeinterface 35 2, 5) := by decide +kernel
theorem d4_217 : decode prog_170_method_2_code 217 = .ok (.iastore, 1) := by decide +kernel
theorem d4_218 : decode prog_170_method_2_code 218 = .ok (.aload_n 0, 1) := by decide +kernel
theorem d4_219 : decode prog_170_method_2_code 219 = .ok (.getfield 43, 3) := by decide +kernel
theorem d4_222 : decode prog_170_method_2_code 222 = .ok (.iload 6, 2) := by decide +kernel
theorem d4_224 : decode prog_170_method_2_code 224 = .ok (.iinc 6 1, 3) := by decide +kernel
theorem d4_227 : decode prog_170_method_2_code 227 = .ok (.aload 5, 2) := by decide +kernel
theorem d4_229 : decode prog_170_method_2_code 229 = .ok (.iload 9, 2) := by decide +kernel
theorem d4_231 : decode prog_170_method_2_code 231 = .ok (.invokeinterface 53 2, 5) := by decide +kernel
theorem d4_236 : decode prog_170_method_2_code 236 = .ok (.dastore, 1) := by decide +kernel
theorem d4_237 : decode prog_170_method_2_code 237 = .ok (.goto 38, 3) := by decide +kernel
theorem d4_240 : decode prog_170_method_2_code 240 = .ok (.aload_n 0, 1) := by decide +kernel
theorem d4_241 : decode prog_170_method_2_code 241 = .ok (.getfield 47, 3) := by decide +kernel
theorem d4_244 : decode prog_170_method_2_code 244 = .ok (.iload 7, 2) := by decide +kernel
theorem d4_246 : decode prog_170_method_2_code 246 = .ok (.aload 4, 2) := by decide +kernel
theorem d4_248 : decode prog_170_method_2_code 248 = .ok (.iload 9, 2) := by decide +kernel
theorem d4_250 : decode prog_170_method_2_code 250 = .ok (.invokeinterface 35 2, 5) := by decide +kernel
theorem d4_255 : decode prog_170_method_2_code 255 = .ok (.iastore, 1) := by decide +kernel
theorem d4_256 : decode prog_170_method_2_code 256 = .ok (.aload_n 0, 1) := by decide +kernel
theorem d4_257 : decode prog_170_method_2_code 257 = .ok (.getfield 50, 3) := by decide +kernel
theorem d4_260 : decode prog_170_method_2_code 260 = .ok (.iload 7, 2) := by decide +kernel
theorem d4_262 : decode prog_170_method_2_code 262 = .ok (.iinc 7 1, 3) := by decide +kernel
theorem d4_265 : decode prog_170_method_2_code 265 = .ok (.aload 5, 2) := by decide +kernel
theorem d4_267 : decode prog_170_method_2_code 267 = .ok (.iload 9, 2) := by decide +kernel
theorem d4_269 : decode prog_170_method_2_code 269 = .ok (.invokeinterface 53 2, 5) := by decide +kernel
theorem d4_274 : decode prog_170_method_2_code 274 = .ok (.dastore, 1) := by decide +kernel
theorem d4_275 : decode prog_170_method_2_code 275 = .ok (.iinc 9 1, 3) := by decide +kernel
theorem d4_278 : decode prog_170_method_2_code 278 = .ok (.goto (-103), 3) := by decide +kernel
theorem d4_281 : decode prog_170_method_2_code 281 = .ok (.iinc 8 1, 3) := by decide +kernel
theorem d4_284 : decode prog_170_method_2_code 284 = .ok (.goto (-143), 3) := by decide +kernel
theorem d4_287 : decode prog_170_method_2_code 287 = .ok (.aload_n 0, 1) := by decide +kernel
theorem d4_288 : decode prog_170_method_2_code 288 = .ok (.getfield 28, 3) := by decide +kernel
theorem d4_291 : decode prog_170_method_2_code 291 = .ok (.iload_n 1, 1) := by decide +kernel
theorem d4_292 : decode prog_170_method_2_code 292 = .ok (.iload 6, 2) := by decide +kernel
theorem d4_294 : decode prog_170_method_2_code 294 = .ok (.iastore, 1) := by decide +kernel
theorem d4_295 : decode prog_170_method_2_code 295 = .ok (.aload_n 0, 1) := by decide +kernel
theorem d4_296 : decode prog_170_method_2_code 296 = .ok (.getfield 32, 3) := by decide +kernel
theorem d4_299 : decode prog_170_method_2_code 299 = .ok (.iload_n 1, 1) := by decide +kernel
theorem d4_300 : decode prog_170_method_2_code 300 = .ok (.iload 7, 2) := by decide +kernel
theorem d4_302 : decode prog_170_method_2_code 302 = .ok (.iastore, 1) := by decide +kernel
theorem d4_303 : decode prog_170_method_2_code 303 = .ok (.return_, 1) := by decide +kernel
theorem d6_0 : decode prog_170_method_13_code 0 = .ok (.aload_n 0, 1) := by decide +kernel
theorem d6_1 : decode prog_170_method_13_code 1 = .ok (.aload_n 1, 1) := by decide +kernel
theorem d6_2 : decode prog_170_method_13_code 2 = .ok (.iload_n 2, 1) := by decide +kernel
theorem d6_3 : decode prog_170_method_13_code 3 = .ok (.iaload, 1) := by decide +kernel
theorem d6_4 : decode prog_170_method_13_code 4 = .ok (.iaload, 1) := by decide +kernel
theorem d6_5 : decode prog_170_method_13_code 5 = .ok (.ireturn, 1) := by decide +kernel
theorem d7_0 : decode prog_170_method_12_code 0 = .ok (.aload_n 0, 1) := by decide +kernel
theorem d7_1 : decode prog_170_method_12_code 1 = .ok (.aload_n 1, 1) := by decide +kernel
theorem d7_2 : decode prog_170_method_12_code 2 = .ok (.iload_n 2, 1) := by decide +kernel
theorem d7_3 : decode prog_170_method_12_code 3 = .ok (.iaload, 1) := by decide +kernel
theorem d7_4 : decode prog_170_method_12_code 4 = .ok (.iconst 1, 1) := by decide +kernel
theorem d7_5 : decode prog_170_method_12_code 5 = .ok (.iadd, 1) := by decide +kernel
theorem d7_6 : decode prog_170_method_12_code 6 = .ok (.iaload, 1) := by decide +kernel
theorem d7_7 : decode prog_170_method_12_code 7 = .ok (.ireturn, 1) := by decide +kernel
theorem d8_0 : decode prog_170_method_11_code 0 = .ok (.aload_n 0, 1) := by decide +kernel
theorem d8_1 : decode prog_170_method_11_code 1 = .ok (.iload_n 1, 1) := by decide +kernel
theorem d8_2 : decode prog_170_method_11_code 2 = .ok (.iaload, 1) := by decide +kernel
theorem d8_3 : decode prog_170_method_11_code 3 = .ok (.ireturn, 1) := by decide +kernel
theorem d9_0 : decode prog_170_method_10_code 0 = .ok (.aload_n 0, 1) := by decide +kernel
theorem d9_1 : decode prog_170_method_10_code 1 = .ok (.iload_n 1, 1) := by decide +kernel
theorem d9_2 : decode prog_170_method_10_code 2 = .ok (.daload, 1) := by decide +kernel
theorem d9_3 : decode prog_170_method_10_code 3 = .ok (.dreturn, 1) := by decide +kernel
theorem d10_0 : decode prog_170_method_7_code 0 = .ok (.iconst 0, 1) := by decide +kernel
theorem d10_1 : decode prog_170_method_7_code 1 = .ok (.istore_n 3, 1) := by decide +kernel
theorem d10_2 : decode prog_170_method_7_code 2 = .ok (.iload_n 3, 1) := by decide +kernel
theorem d10_3 : decode prog_170_method_7_code 3 = .ok (.aload_n 0, 1) := by decide +kernel
theorem d10_4 : decode prog_170_method_7_code 4 = .ok (.getfield 24, 3) := by decide +kernel
theorem d10_7 : decode prog_170_method_7_code 7 = .ok (.if_icmp .ge 68, 3) := by decide +kernel
theorem d10_10 : decode prog_170_method_7_code 10 = .ok (.aload_n 1, 1) := by decide +kernel
theorem d10_11 : decode prog_170_method_7_code 11 = .ok (.iload_n 3, 1) := by decide +kernel
theorem d10_12 : decode prog_170_method_7_code 12 = .ok (.daload, 1) := by decide +kernel
theorem d10_13 : decode prog_170_method_7_code 13 = .ok (.dstore 4, 2) := by decide +kernel
theorem d10_15 : decode prog_170_method_7_code 15 = .ok (.aload_n 0, 1) := by decide +kernel
theorem d10_16 : decode prog_170_method_7_code 16 = .ok (.getfield 28, 3) := by decide +kernel
theorem d10_19 : decode prog_170_method_7_code 19 = .ok (.iload_n 3, 1) := by decide +kernel
theorem d10_20 : decode prog_170_method_7_code 20 = .ok (.iaload, 1) := by decide +kernel
theorem d10_21 : decode prog_170_method_7_code 21 = .ok (.istore 6, 2) := by decide +kernel
theorem d10_23 : decode prog_170_method_7_code 23 = .ok (.iload 6, 2) := by decide +kernel
theorem d10_25 : decode prog_170_method_7_code 25 = .ok (.aload_n 0, 1) := by decide +kernel
theorem d10_26 : decode prog_170_method_7_code 26 = .ok (.getfield 28, 3) := by decide +kernel
theorem d10_29 : decode prog_170_method_7_code 29 = .ok (.iload_n 3, 1) := by decide +kernel
theorem d10_30 : decode prog_170_method_7_code 30 = .ok (.iconst 1, 1) := by decide +kernel
theorem d10_31 : decode prog_170_method_7_code 31 = .ok (.iadd, 1) := by decide +kernel
theorem d10_32 : decode prog_170_method_7_code 32 = .ok (.iaload, 1) := by decide +kernel
theorem d10_33 : decode prog_170_method_7_code 33 = .ok (.if_icmp .ge 31, 3) := by decide +kernel
theorem d10_36 : decode prog_170_method_7_code 36 = .ok (.dload 4, 2) := by decide +kernel
theorem d10_38 : decode prog_170_method_7_code 38 = .ok (.aload_n 0, 1) := by decide +kernel
theorem d10_39 : decode prog_170_method_7_code 39 = .ok (.getfield 43, 3) := by decide +kernel
theorem d10_42 : decode prog_170_method_7_code 42 = .ok (.iload 6, 2) := by decide +kernel
theorem d10_44 : decode prog_170_method_7_code 44 = .ok (.daload, 1) := by decide +kernel
theorem d10_45 : decode prog_170_method_7_code 45 = .ok (.aload_n 2, 1) := by decide +kernel
theorem d10_46 : decode prog_170_method_7_code 46 = .ok (.aload_n 0, 1) := by decide +kernel
theorem d10_47 : decode prog_170_method_7_code 47 = .ok (.getfield 40, 3) := by decide +kernel
theorem d10_50 : decode prog_170_method_7_code 50 = .ok (.iload 6, 2) := by decide +kernel
theorem d10_52 : decode prog_170_method_7_code 52 = .ok (.iaload, 1) := by decide +kernel
theorem d10_53 : decode prog_170_method_7_code 53 = .ok (.daload, 1) := by decide +kernel
theorem d10_54 : decode prog_170_method_7_code 54 = .ok (.dmul, 1) := by decide +kernel
theorem d10_55 : decode prog_170_method_7_code 55 = .ok (.dadd, 1) := by decide +kernel
theorem d10_56 : decode prog_170_method_7_code 56 = .ok (.dstore 4, 2) := by decide +kernel
theorem d10_58 : decode prog_170_method_7_code 58 = .ok (.iinc 6 1, 3) := by decide +kernel
theorem d10_61 : decode prog_170_method_7_code 61 = .ok (.goto (-38), 3) := by decide +kernel
theorem d10_64 : decode prog_170_method_7_code 64 = .ok (.aload_n 2, 1) := by decide +kernel
theorem d10_65 : decode prog_170_method_7_code 65 = .ok (.iload_n 3, 1) := by decide +kernel
theorem d10_66 : decode prog_170_method_7_code 66 = .ok (.dload 4, 2) := by decide +kernel
theorem d10_68 : decode prog_170_method_7_code 68 = .ok (.dastore, 1) := by decide +kernel
theorem d10_69 : decode prog_170_method_7_code 69 = .ok (.iinc 3 1, 3) := by decide +kernel
theorem d10_72 : decode prog_170_method_7_code 72 = .ok (.goto (-70), 3) := by decide +kernel
theorem d10_75 : decode prog_170_method_7_code 75 = .ok (.aload_n 0, 1) := by decide +kernel
theorem d10_76 : decode prog_170_method_7_code 76 = .ok (.getfield 24, 3) := by decide +kernel
theorem d10_79 : decode prog_170_method_7_code 79 = .ok (.iconst 1, 1) := by decide +kernel
theorem d10_80 : decode prog_170_method_7_code 80 = .ok (.isub, 1) := by decide +kernel
theorem d10_81 : decode prog_170_method_7_code 81 = .ok (.istore_n 3, 1) := by decide +kernel
theorem d10_82 : decode prog_170_method_7_code 82 = .ok (.iload_n 3, 1) := by decide +kernel
theorem d10_83 : decode prog_170_method_7_code 83 = .ok (.ifCond .lt 79, 3) := by decide +kernel
theorem d10_86 : decode prog_170_method_7_code 86 = .ok (.aload_n 2, 1) := by decide +kernel
theorem d10_87 : decode prog_170_method_7_code 87 = .ok (.iload_n 3, 1) := by decide +kernel
theorem d10_88 : decode prog_170_method_7_code 88 = .ok (.daload, 1) := by decide +kernel
theorem d10_89 : decode prog_170_method_7_code 89 = .ok (.dstore 4, 2) := by decide +kernel
theorem d10_91 : decode prog_170_method_7_code 91 = .ok (.aload_n 0, 1) := by decide +kernel
theorem d10_92 : decode prog_170_method_7_code 92 = .ok (.getfield 32, 3) := by decide +kernel
theorem d10_95 : decode prog_170_method_7_code 95 = .ok (.iload_n 3, 1) := by decide +kernel
theorem d10_96 : decode prog_170_method_7_code 96 = .ok (.iaload, 1) := by decide +kernel
theorem d10_97 : decode prog_170_method_7_code 97 = .ok (.istore 6, 2) := by decide +kernel
theorem d10_99 : decode prog_170_method_7_code 99 = .ok (.iload 6, 2) := by decide +kernel
theorem d10_101 : decode prog_170_method_7_code 101 = .ok (.aload_n 0, 1) := by decide +kernel
theorem d10_102 : decode prog_170_method_7_code 102 = .ok (.getfield 32, 3) := by decide +kernel
theorem d10_105 : decode prog_170_method_7_code 105 = .ok (.iload_n 3, 1) := by decide +kernel
theorem d10_106 : decode prog_170_method_7_code 106 = .ok (.iconst 1, 1) := by decide +kernel
theorem d10_107 : decode prog_170_method_7_code 107 = .ok (.iadd, 1) := by decide +kernel
theorem d10_108 : decode prog_170_method_7_code 108 = .ok (.iaload, 1) := by decide +kernel
theorem d10_109 : decode prog_170_method_7_code 109 = .ok (.if_icmp .ge 42, 3) := by decide +kernel
theorem d10_112 : decode prog_170_method_7_code 112 = .ok (.aload_n 0, 1) := by decide +kernel
theorem d10_113 : decode prog_170_method_7_code 113 = .ok (.getfield 47, 3) := by decide +kernel
theorem d10_116 : decode prog_170_method_7_code 116 = .ok (.iload 6, 2) := by decide +kernel
theorem d10_118 : decode prog_170_method_7_code 118 = .ok (.iaload, 1) := by decide +kernel
theorem d10_119 : decode prog_170_method_7_code 119 = .ok (.iload_n 3, 1) := by decide +kernel
theorem d10_120 : decode prog_170_method_7_code 120 = .ok (.if_icmp .eq 25, 3) := by decide +kernel
theorem d10_123 : decode prog_170_method_7_code 123 = .ok (.dload 4, 2) := by decide +kernel
theorem d10_125 : decode prog_170_method_7_code 125 = .ok (.aload_n 0, 1) := by decide +kernel
theorem d10_126 : decode prog_170_method_7_code 126 = .ok (.getfield 50, 3) := by decide +kernel
theorem d10_129 : decode prog_170_method_7_code 129 = .ok (.iload 6, 2) := by decide +kernel
theorem d10_131 : decode prog_170_method_7_code 131 = .ok (.daload, 1) := by decide +kernel
theorem d10_132 : decode prog_170_method_7_code 132 = .ok (.aload_n 2, 1) := by decide +kernel
theorem d10_133 : decode prog_170_method_7_code 133 = .ok (.aload_n 0, 1) := by decide +kernel
theorem d10_134 : decode prog_170_method_7_code 134 = .ok (.getfield 47, 3) := by decide +kernel
theorem d10_137 : decode prog_170_method_7_code 137 = .ok (.iload 6, 2) := by decide +kernel
theorem d10_139 : decode prog_170_method_7_code 139 = .ok (.iaload, 1) := by decide +kernel
theorem d10_140 : decode prog_170_method_7_code 140 = .ok (.daload, 1) := by decide +kernel
theorem d10_141 : decode prog_170_method_7_code 141 = .ok (.dmul, 1) := by decide +kernel
theorem d10_142 : decode prog_170_method_7_code 142 = .ok (.dadd, 1) := by decide +kernel
theorem d10_143 : decode prog_170_method_7_code 143 = .ok (.dstore 4, 2) := by decide +kernel
theorem d10_145 : decode prog_170_method_7_code 145 = .ok (.iinc 6 1, 3) := by decide +kernel
theorem d10_148 : decode prog_170_method_7_code 148 = .ok (.goto (-49), 3) := by decide +kernel
theorem d10_151 : decode prog_170_method_7_code 151 = .ok (.aload_n 2, 1) := by decide +kernel
theorem d10_152 : decode prog_170_method_7_code 152 = .ok (.iload_n 3, 1) := by decide +kernel
theorem d10_153 : decode prog_170_method_7_code 153 = .ok (.dload 4, 2) := by decide +kernel
theorem d10_155 : decode prog_170_method_7_code 155 = .ok (.dastore, 1) := by decide +kernel
theorem d10_156 : decode prog_170_method_7_code 156 = .ok (.iinc 3 (-1), 3) := by decide +kernel
theorem d10_159 : decode prog_170_method_7_code 159 = .ok (.goto (-77), 3) := by decide +kernel
theorem d10_162 : decode prog_170_method_7_code 162 = .ok (.return_, 1) := by decide +kernel
theorem d11_0 : decode method_5_code 0 = .ok (.dconst 0, 1) := by decide +kernel
theorem d11_1 : decode method_5_code 1 = .ok (.dstore 5, 2) := by decide +kernel
theorem d11_3 : decode method_5_code 3 = .ok (.aload_n 2, 1) := by decide +kernel
theorem d11_4 : decode method_5_code 4 = .ok (.iload_n 3, 1) := by decide +kernel
theorem d11_5 : decode method_5_code 5 = .ok (.iaload, 1) := by decide +kernel
theorem d11_6 : decode method_5_code 6 = .ok (.istore 7, 2) := by decide +kernel
theorem d11_8 : decode method_5_code 8 = .ok (.aload_n 2, 1) := by decide +kernel
theorem d11_9 : decode method_5_code 9 = .ok (.iload_n 3, 1) := by decide +kernel
theorem d11_10 : decode method_5_code 10 = .ok (.iconst 1, 1) := by decide +kernel
theorem d11_11 : decode method_5_code 11 = .ok (.iadd, 1) := by decide +kernel
theorem d11_12 : decode method_5_code 12 = .ok (.iaload, 1) := by decide +kernel
theorem d11_13 : decode method_5_code 13 = .ok (.istore 8, 2) := by decide +kernel
theorem d11_15 : decode method_5_code 15 = .ok (.iload 7, 2) := by decide +kernel
theorem d11_17 : decode method_5_code 17 = .ok (.iload 8, 2) := by decide +kernel
theorem d11_19 : decode method_5_code 19 = .ok (.if_icmp .ge 21, 3) := by decide +kernel
theorem d11_22 : decode method_5_code 22 = .ok (.aload_n 0, 1) := by decide +kernel
theorem d11_23 : decode method_5_code 23 = .ok (.iload 7, 2) := by decide +kernel
theorem d11_25 : decode method_5_code 25 = .ok (.iaload, 1) := by decide +kernel
theorem d11_26 : decode method_5_code 26 = .ok (.iload 4, 2) := by decide +kernel
theorem d11_28 : decode method_5_code 28 = .ok (.if_icmp .ne 12, 3) := by decide +kernel
theorem d11_31 : decode method_5_code 31 = .ok (.dload 5, 2) := by decide +kernel
theorem d11_33 : decode method_5_code 33 = .ok (.aload_n 1, 1) := by decide +kernel
theorem d11_34 : decode method_5_code 34 = .ok (.iload 7, 2) := by decide +kernel
theorem d11_36 : decode method_5_code 36 = .ok (.daload, 1) := by decide +kernel
theorem d11_37 : decode method_5_code 37 = .ok (.dadd, 1) := by decide +kernel
theorem d11_38 : decode method_5_code 38 = .ok (.dstore 5, 2) := by decide +kernel
theorem d11_40 : decode method_5_code 40 = .ok (.iload 7, 2) := by decide +kernel
theorem d11_42 : decode method_5_code 42 = .ok (.iconst 1, 1) := by decide +kernel
theorem d11_43 : decode method_5_code 43 = .ok (.iadd, 1) := by decide +kernel
theorem d11_44 : decode method_5_code 44 = .ok (.iload 8, 2) := by decide +kernel
theorem d11_46 : decode method_5_code 46 = .ok (.if_icmp .ge 25, 3) := by decide +kernel
theorem d11_49 : decode method_5_code 49 = .ok (.aload_n 0, 1) := by decide +kernel
theorem d11_50 : decode method_5_code 50 = .ok (.iload 7, 2) := by decide +kernel
theorem d11_52 : decode method_5_code 52 = .ok (.iconst 1, 1) := by decide +kernel
theorem d11_53 : decode method_5_code 53 = .ok (.iadd, 1) := by decide +kernel
theorem d11_54 : decode method_5_code 54 = .ok (.iaload, 1) := by decide +kernel
theorem d11_55 : decode method_5_code 55 = .ok (.iload 4, 2) := by decide +kernel
theorem d11_57 : decode method_5_code 57 = .ok (.if_icmp .ne 14, 3) := by decide +kernel
theorem d11_60 : decode method_5_code 60 = .ok (.dload 5, 2) := by decide +kernel
theorem d11_62 : decode method_5_code 62 = .ok (.aload_n 1, 1) := by decide +kernel
theorem d11_63 : decode method_5_code 63 = .ok (.iload 7, 2) := by decide +kernel
theorem d11_65 : decode method_5_code 65 = .ok (.iconst 1, 1) := by decide +kernel
theorem d11_66 : decode method_5_code 66 = .ok (.iadd, 1) := by decide +kernel
theorem d11_67 : decode method_5_code 67 = .ok (.daload, 1) := by decide +kernel
theorem d11_68 : decode method_5_code 68 = .ok (.dadd, 1) := by decide +kernel
theorem d11_69 : decode method_5_code 69 = .ok (.dstore 5, 2) := by decide +kernel
theorem d11_71 : decode method_5_code 71 = .ok (.iload 7, 2) := by decide +kernel
theorem d11_73 : decode method_5_code 73 = .ok (.iconst 2, 1) := by decide +kernel
theorem d11_74 : decode method_5_code 74 = .ok (.iadd, 1) := by decide +kernel
theorem d11_75 : decode method_5_code 75 = .ok (.iload 8, 2) := by decide +kernel
theorem d11_77 : decode method_5_code 77 = .ok (.if_icmp .ge 25, 3) := by decide +kernel
theorem d11_80 : decode method_5_code 80 = .ok (.aload_n 0, 1) := by decide +kernel
theorem d11_81 : decode method_5_code 81 = .ok (.iload 7, 2) := by decide +kernel
theorem d11_83 : decode method_5_code 83 = .ok (.iconst 2, 1) := by decide +kernel
theorem d11_84 : decode method_5_code 84 = .ok (.iadd, 1) := by decide +kernel
theorem d11_85 : decode method_5_code 85 = .ok (.iaload, 1) := by decide +kernel
theorem d11_86 : decode method_5_code 86 = .ok (.iload 4, 2) := by decide +kernel
theorem d11_88 : decode method_5_code 88 = .ok (.if_icmp .ne 14, 3) := by decide +kernel
theorem d11_91 : decode method_5_code 91 = .ok (.dload 5, 2) := by decide +kernel
theorem d11_93 : decode method_5_code 93 = .ok (.aload_n 1, 1) := by decide +kernel
theorem d11_94 : decode method_5_code 94 = .ok (.iload 7, 2) := by decide +kernel
theorem d11_96 : decode method_5_code 96 = .ok (.iconst 2, 1) := by decide +kernel
theorem d11_97 : decode method_5_code 97 = .ok (.iadd, 1) := by decide +kernel
theorem d11_98 : decode method_5_code 98 = .ok (.daload, 1) := by decide +kernel
theorem d11_99 : decode method_5_code 99 = .ok (.dadd, 1) := by decide +kernel
theorem d11_100 : decode method_5_code 100 = .ok (.dstore 5, 2) := by decide +kernel
theorem d11_102 : decode method_5_code 102 = .ok (.dload 5, 2) := by decide +kernel
theorem d11_104 : decode method_5_code 104 = .ok (.dreturn, 1) := by decide +kernel
theorem pn_0 : plainName "com/example/orbifold/orbifold/solvers/Bicgstab$Equations" = true := by first | (simp [plainName, overriddenIn]; done) | decide +kernel
theorem ef_6_AAI (x0 : Nat) (x1 : Nat) (x2 : Int32) (m : MethodId) : entryFrame m #[(.ref x0), (.ref x1), (.int x2)] 3 = mkF m 0 #[.val (.ref x0), .val (.ref x1), .val (.int x2)] [] := by first | (simp [entryFrame, mkF, argsToLocals, Value.category, maxLocals]; done) | rfl
theorem pd_2 : parseMethodDescriptor "(I)I" = some ⟨[.int], some .int⟩ := by decide +kernel
theorem pd_3 : parseMethodDescriptor "([I[II)I" = some ⟨[(.array .int), (.array .int), .int], some .int⟩ := by decide +kernel
theorem ef_7_AAI (x0 : Nat) (x1 : Nat) (x2 : Int32) (m : MethodId) : entryFrame m #[(.ref x0), (.ref x1), (.int x2)] 3 = mkF m 0 #[.val (.ref x0), .val (.ref x1), .val (.int x2)] [] := by first | (simp [entryFrame, mkF, argsToLocals, Value.category, maxLocals]; done) | rfl
theorem ef_8_AI (x0 : Nat) (x1 : Int32) (m : MethodId) : entryFrame m #[(.ref x0), (.int x1)] 2 = mkF m 0 #[.val (.ref x0), .val (.int x1)] [] := by first | (simp [entryFrame, mkF, argsToLocals, Value.category, maxLocals]; done) | rfl
theorem pd_6 : parseMethodDescriptor "([II)I" = some ⟨[(.array .int), .int], some .int⟩ := by decide +kernel
theorem ef_9_AI (x0 : Nat) (x1 : Int32) (m : MethodId) : entryFrame m #[(.ref x0), (.int x1)] 2 = mkF m 0 #[.val (.ref x0), .val (.int x1)] [] := by first | (simp [entryFrame, mkF, argsToLocals, Value.category, maxLocals]; done) | rfl
theorem pd_8 : parseMethodDescriptor "(I)D" = some ⟨[.int], some .double⟩ := by decide +kernel
theorem pd_9 : parseMethodDescriptor "([DI)D" = some ⟨[(.array .double), .int], some .double⟩ := by decide +kernel
theorem ef_4_AIAAAA (x0 : Nat) (x1 : Int32) (x2 : Nat) (x3 : Nat) (x4 : Nat) (x5 : Nat) (m : MethodId) : entryFrame m #[(.ref x0), (.int x1), (.ref x2), (.ref x3), (.ref x4), (.ref x5)] 10 = mkF m 0 #[.val (.ref x0), .val (.int x1), .val (.ref x2), .val (.ref x3), .val (.ref x4), .val (.ref x5), .unset, .unset, .unset, .unset] [] := by first | (simp [entryFrame, mkF, argsToLocals, Value.category, maxLocals]; done) | rfl
theorem pd_11 : parseMethodDescriptor "(ILjava/util/function/IntUnaryOperator;Ljava/util/function/IntUnaryOperator;Ljava/util/function/IntUnaryOperator;Ljava/util/function/IntToDoubleFunction;)V" = some ⟨[.int, (.object "java/util/function/IntUnaryOperator"), (.object "java/util/function/IntUnaryOperator"), (.object "java/util/function/IntUnaryOperator"), (.object "java/util/function/IntToDoubleFunction")], none⟩ := by decide +kernel
theorem ef_1_JI (x0 : Int64) (x1 : Int32) (m : MethodId) : entryFrame m #[(.long x0), (.int x1)] 3 = mkF m 0 #[.val (.long x0), .second, .val (.int x1)] [] := by first | (simp [entryFrame, mkF, argsToLocals, Value.category, maxLocals]; done) | rfl
theorem pn_13 : plainName "com/example/orbifold/orbifold/solvers/BicgstabPreconditionPinLaw" = true := by first | (simp [plainName, overriddenIn]; done) | decide +kernel
theorem pd_14 : parseMethodDescriptor "(JI)I" = some ⟨[.long, .int], some .int⟩ := by decide +kernel
theorem ef_2_JI (x0 : Int64) (x1 : Int32) (m : MethodId) : entryFrame m #[(.long x0), (.int x1)] 3 = mkF m 0 #[.val (.long x0), .second, .val (.int x1)] [] := by first | (simp [entryFrame, mkF, argsToLocals, Value.category, maxLocals]; done) | rfl
theorem pd_16 : parseMethodDescriptor "(JI)D" = some ⟨[.long, .int], some .double⟩ := by decide +kernel
theorem ef_3_AIAAAA (x0 : Nat) (x1 : Int32) (x2 : Nat) (x3 : Nat) (x4 : Nat) (x5 : Nat) (m : MethodId) : entryFrame m #[(.ref x0), (.int x1), (.ref x2), (.ref x3), (.ref x4), (.ref x5)] 6 = mkF m 0 #[.val (.ref x0), .val (.int x1), .val (.ref x2), .val (.ref x3), .val (.ref x4), .val (.ref x5)] [] := by first | (simp [entryFrame, mkF, argsToLocals, Value.category, maxLocals]; done) | rfl
theorem pd_18 : parseMethodDescriptor "(I[I[I[D[I)V" = some ⟨[.int, (.array .int), (.array .int), (.array .double), (.array .int)], none⟩ := by decide +kernel
theorem ef_10_AAA (x0 : Nat) (x1 : Nat) (x2 : Nat) (m : MethodId) : entryFrame m #[(.ref x0), (.ref x1), (.ref x2)] 7 = mkF m 0 #[.val (.ref x0), .val (.ref x1), .val (.ref x2), .unset, .unset, .unset, .unset] [] := by first | (simp [entryFrame, mkF, argsToLocals, Value.category, maxLocals]; done) | rfl
theorem pd_20 : parseMethodDescriptor "([D[D)V" = some ⟨[(.array .double), (.array .double)], none⟩ := by decide +kernel
theorem ef_11_AAAII (x0 : Nat) (x1 : Nat) (x2 : Nat) (x3 : Int32) (x4 : Int32) (m : MethodId) : entryFrame m #[(.ref x0), (.ref x1), (.ref x2), (.int x3), (.int x4)] 9 = mkF m 0 #[.val (.ref x0), .val (.ref x1), .val (.ref x2), .val (.int x3), .val (.int x4), .unset, .unset, .unset, .unset] [] := by first | (simp [entryFrame, mkF, argsToLocals, Value.category, maxLocals]; done) | rfl
theorem pd_22 : parseMethodDescriptor "([I[D[III)D" = some ⟨[(.array .int), (.array .double), (.array .int), .int, .int], some .double⟩ := by decide +kernel
theorem ef_0_JIIIII (x0 : Int64) (x1 : Int32) (x2 : Int32) (x3 : Int32) (x4 : Int32) (x5 : Int32) (m : MethodId) : entryFrame m #[(.long x0), (.int x1), (.int x2), (.int x3), (.int x4), (.int x5)] maxLocals = mkF m 0 #[.val (.long x0), .second, .val (.int x1), .val (.int x2), .val (.int x3), .val (.int x4), .val (.int x5), .unset, .unset, .unset, .unset, .unset, .unset, .unset, .unset, .unset, .unset, .unset, .unset, .unset, .unset, .unset, .unset, .unset, .unset, .unset, .unset, .unset, .unset, .unset, .unset, .unset, .unset, .unset, .unset, .unset, .unset, .unset, .unset, .unset, .unset, .unset, .unset] [] := by first | (simp [entryFrame, mkF, argsToLocals, Value.category, maxLocals]; done) | rfl
theorem law_pn0 : plainName "com/example/orbifold/orbifold/solvers/BicgstabPreconditionPinLaw" = true := by first | (simp [plainName, overriddenIn]; done) | decide +kernel
theorem law_pn : plainName x.cls = true := law_pn0
def EN (Z : State) (h : Heap) (a : Nat) (sz : Int32) (u1 : Value) (u2 : Value) (u3 : Value) (u4 : Value) (u5 : Value) (u6 : Value) : Prop := Exa Z h a "com/example/orbifold/orbifold/solvers/Bicgstab$Equations" ∧ Fld Z h a "com/example/orbifold/orbifold/solvers/Bicgstab$Equations" "size" "I" (.int sz) ∧ Fld Z h a "com/example/orbifold/orbifold/solvers/Bicgstab$Equations" "beforeStart" "[I" ( u1) ∧ Fld Z h a "com/example/orbifold/orbifold/solvers/Bicgstab$Equations" "afterStart" "[I" ( u2) ∧ Fld Z h a "com/example/orbifold/orbifold/solvers/Bicgstab$Equations" "beforeColumns" "[I" ( u3) ∧ Fld Z h a "com/example/orbifold/orbifold/solvers/Bicgstab$Equations" "beforeCoefficients" "[D" ( u4) ∧ Fld Z h a "com/example/orbifold/orbifold/solvers/Bicgstab$Equations" "afterColumns" "[I" ( u5) ∧ Fld Z h a "com/example/orbifold/orbifold/solvers/Bicgstab$Equations" "afterCoefficients" "[D" ( u6)
theorem EN.ext {Z : State} {h h' : Heap} {a : Nat} {sz : Int32} {u1 : Value} {u2 : Value} {u3 : Value} {u4 : Value} {u5 : Value} {u6 : Value} (H : EN Z h a sz u1 u2 u3 u4 u5 u6) (E : Ext h h') : EN Z h' a sz u1 u2 u3 u4 u5 u6 := ⟨H.1.ext E, (H.2.1).ext E, (H.2.2.1).ext E, (H.2.2.2.1).ext E, (H.2.2.2.2.1).ext E, (H.2.2.2.2.2.1).ext E, (H.2.2.2.2.2.2.1).ext E, (H.2.2.2.2.2.2.2).ext E⟩
theorem EN.keep {Z : State} {h h' : Heap} {a : Nat} {sz : Int32} {u1 : Value} {u2 : Value} {u3 : Value} {u4 : Value} {u5 : Value} {u6 : Value} {ws : List Nat} (H : EN Z h a sz u1 u2 u3 u4 u5 u6) (K : Keep h h' ws) (q : a ∉ ws) : EN Z h' a sz u1 u2 u3 u4 u5 u6 := ⟨H.1.keep K, (H.2.1).keep K q, (H.2.2.1).keep K q, (H.2.2.2.1).keep K q, (H.2.2.2.2.1).keep K q, (H.2.2.2.2.2.1).keep K q, (H.2.2.2.2.2.2.1).keep K q, (H.2.2.2.2.2.2.2).keep K q⟩
theorem EN.put_size {Z : State} {h h' : Heap} {a : Nat} {sz : Int32} {u1 : Value} {u2 : Value} {u3 : Value} {u4 : Value} {u5 : Value} {u6 : Value} {w : Int32} (a0 : Array Value) (hw : ∀ d ∈ tables_1, d.before a0 Z = true) (H : EN Z h a sz u1 u2 u3 u4 u5 u6) (W : Wr h h' a (Jvm.RoadKit.slotOf Z "com/example/orbifold/orbifold/solvers/Bicgstab$Equations" "size" "I") (.int w)) : EN Z h' a w u1 u2 u3 u4 u5 u6 := ⟨H.1.wr W, (H.2.1).same W, (H.2.2.1).other W (Or.inr (slot_ne (a0 := a0) (C := "com/example/orbifold/orbifold/solvers/Bicgstab$Equations") (Or.inr (hw _ (List.mem_of_getElem? (i := 34) rfl))) (Or.inr (hw _ (List.mem_of_getElem? (i := 32) rfl))) (by decide) (t := (.array .int)) (t' := .int) (by decide) (by decide))), (H.2.2.2.1).other W (Or.inr (slot_ne (a0 := a0) (C := "com/example/orbifold/orbifold/solvers/Bicgstab$Equations") (Or.inr (hw _ (List.mem_of_getElem? (i := 36) rfl))) (Or.inr (hw _ (List.mem_of_getElem? (i := 32) rfl))) (by decide) (t := (.array .int)) (t' := .int) (by decide) (by decide))), (H.2.2.2.2.1).other W (Or.inr (slot_ne (a0 := a0) (C := "com/example/orbifold/orbifold/solvers/Bicgstab$Equations") (Or.inr (hw _ (List.mem_of_getElem? (i := 47) rfl))) (Or.inr (hw _ (List.mem_of_getElem? (i := 32) rfl))) (by decide) (t := (.array .int)) (t' := .int) (by decide) (by decide))), (H.2.2.2.2.2.1).other W (Or.inr (slot_ne (a0 := a0) (C := "com/example/orbifold/orbifold/solvers/Bicgstab$Equations") (Or.inr (hw _ (List.mem_of_getElem? (i := 49) rfl))) (Or.inr (hw _ (List.mem_of_getElem? (i := 32) rfl))) (by decide) (t := (.array .double)) (t' := .int) (by decide) (by decide))), (H.2.2.2.2.2.2.1).other W (Or.inr (slot_ne (a0 := a0) (C := "com/example/orbifold/orbifold/solvers/Bicgstab$Equations") (Or.inr (hw _ (List.mem_of_getElem? (i := 51) rfl))) (Or.inr (hw _ (List.mem_of_getElem? (i := 32) rfl))) (by decide) (t := (.array .int)) (t' := .int) (by decide) (by decide))), (H.2.2.2.2.2.2.2).other W (Or.inr (slot_ne (a0 := a0) (C := "com/example/orbifold/orbifold/solvers/Bicgstab$Equations") (Or.inr (hw _ (List.mem_of_getElem? (i := 53) rfl))) (Or.inr (hw _ (List.mem_of_getElem? (i := 32) rfl))) (by decide) (t := (.array .double)) (t' := .int) (by decide) (by decide)))⟩
theorem EN.put_beforeStart {Z : State} {h h' : Heap} {a : Nat} {sz : Int32} {u1 : Value} {u2 : Value} {u3 : Value} {u4 : Value} {u5 : Value} {u6 : Value} {w : Value} (a0 : Array Value) (hw : ∀ d ∈ tables_1, d.before a0 Z = true) (H : EN Z h a sz u1 u2 u3 u4 u5 u6) (W : Wr h h' a (Jvm.RoadKit.slotOf Z "com/example/orbifold/orbifold/solvers/Bicgstab$Equations" "beforeStart" "[I") ( w)) : EN Z h' a sz w u2 u3 u4 u5 u6 := ⟨H.1.wr W, (H.2.1).other W (Or.inr (slot_ne (a0 := a0) (C := "com/example/orbifold/orbifold/solvers/Bicgstab$Equations") (Or.inr (hw _ (List.mem_of_getElem? (i := 32) rfl))) (Or.inr (hw _ (List.mem_of_getElem? (i := 34) rfl))) (by decide) (t := .int) (t' := (.array .int)) (by decide) (by decide))), (H.2.2.1).same W, (H.2.2.2.1).other W (Or.inr (slot_ne (a0 := a0) (C := "com/example/orbifold/orbifold/solvers/Bicgstab$Equations") (Or.inr (hw _ (List.mem_of_getElem? (i := 36) rfl))) (Or.inr (hw _ (List.mem_of_getElem? (i := 34) rfl))) (by decide) (t := (.array .int)) (t' := (.array .int)) (by decide) (by decide))), (H.2.2.2.2.1).other W (Or.inr (slot_ne (a0 := a0) (C := "com/example/orbifold/orbifold/solvers/Bicgstab$Equations") (Or.inr (hw _ (List.mem_of_getElem? (i := 47) rfl))) (Or.inr (hw _ (List.mem_of_getElem? (i := 34) rfl))) (by decide) (t := (.array .int)) (t' := (.array .int)) (by decide) (by decide))), (H.2.2.2.2.2.1).other W (Or.inr (slot_ne (a0 := a0) (C := "com/example/orbifold/orbifold/solvers/Bicgstab$Equations") (Or.inr (hw _ (List.mem_of_getElem? (i := 49) rfl))) (Or.inr (hw _ (List.mem_of_getElem? (i := 34) rfl))) (by decide) (t := (.array .double)) (t' := (.array .int)) (by decide) (by decide))), (H.2.2.2.2.2.2.1).other W (Or.inr (slot_ne (a0 := a0) (C := "com/example/orbifold/orbifold/solvers/Bicgstab$Equations") (Or.inr (hw _ (List.mem_of_getElem? (i := 51) rfl))) (Or.inr (hw _ (List.mem_of_getElem? (i := 34) rfl))) (by decide) (t := (.array .int)) (t' := (.array .int)) (by decide) (by decide))), (H.2.2.2.2.2.2.2).other W (Or.inr (slot_ne (a0 := a0) (C := "com/example/orbifold/orbifold/solvers/Bicgstab$Equations") (Or.inr (hw _ (List.mem_of_getElem? (i := 53) rfl))) (Or.inr (hw _ (List.mem_of_getElem? (i := 34) rfl))) (by decide) (t := (.array .double)) (t' := (.array .int)) (by decide) (by decide)))⟩
theorem EN.put_afterStart {Z : State} {h h' : Heap} {a : Nat} {sz : Int32} {u1 : Value} {u2 : Value} {u3 : Value} {u4 : Value} {u5 : Value} {u6 : Value} {w : Value} (a0 : Array Value) (hw : ∀ d ∈ tables_1, d.before a0 Z = true) (H : EN Z h a sz u1 u2 u3 u4 u5 u6) (W : Wr h h' a (Jvm.RoadKit.slotOf Z "com/example/orbifold/orbifold/solvers/Bicgstab$Equations" "afterStart" "[I") ( w)) : EN Z h' a sz u1 w u3 u4 u5 u6 := ⟨H.1.wr W, (H.2.1).other W (Or.inr (slot_ne (a0 := a0) (C := "com/example/orbifold/orbifold/solvers/Bicgstab$Equations") (Or.inr (hw _ (List.mem_of_getElem? (i := 32) rfl))) (Or.inr (hw _ (List.mem_of_getElem? (i := 36) rfl))) (by decide) (t := .int) (t' := (.array .int)) (by decide) (by decide))), (H.2.2.1).other W (Or.inr (slot_ne (a0 := a0) (C := "com/example/orbifold/orbifold/solvers/Bicgstab$Equations") (Or.inr (hw _ (List.mem_of_getElem? (i := 34) rfl))) (Or.inr (hw _ (List.mem_of_getElem? (i := 36) rfl))) (by decide) (t := (.array .int)) (t' := (.array .int)) (by decide) (by decide))), (H.2.2.2.1).same W, (H.2.2.2.2.1).other W (Or.inr (slot_ne (a0 := a0) (C := "com/example/orbifold/orbifold/solvers/Bicgstab$Equations") (Or.inr (hw _ (List.mem_of_getElem? (i := 47) rfl))) (Or.inr (hw _ (List.mem_of_getElem? (i := 36) rfl))) (by decide) (t := (.array .int)) (t' := (.array .int)) (by decide) (by decide))), (H.2.2.2.2.2.1).other W (Or.inr (slot_ne (a0 := a0) (C := "com/example/orbifold/orbifold/solvers/Bicgstab$Equations") (Or.inr (hw _ (List.mem_of_getElem? (i := 49) rfl))) (Or.inr (hw _ (List.mem_of_getElem? (i := 36) rfl))) (by decide) (t := (.array .double)) (t' := (.array .int)) (by decide) (by decide))), (H.2.2.2.2.2.2.1).other W (Or.inr (slot_ne (a0 := a0) (C := "com/example/orbifold/orbifold/solvers/Bicgstab$Equations") (Or.inr (hw _ (List.mem_of_getElem? (i := 51) rfl))) (Or.inr (hw _ (List.mem_of_getElem? (i := 36) rfl))) (by decide) (t := (.array .int)) (t' := (.array .int)) (by decide) (by decide))), (H.2.2.2.2.2.2.2).other W (Or.inr (slot_ne (a0 := a0) (C := "com/example/orbifold/orbifold/solvers/Bicgstab$Equations") (Or.inr (hw _ (List.mem_of_getElem? (i := 53) rfl))) (Or.inr (hw _ (List.mem_of_getElem? (i := 36) rfl))) (by decide) (t := (.array .double)) (t' := (.array .int)) (by decide) (by decide)))⟩
theorem EN.put_beforeColumns {Z : State} {h h' : Heap} {a : Nat} {sz : Int32} {u1 : Value} {u2 : Value} {u3 : Value} {u4 : Value} {u5 : Value} {u6 : Value} {w : Value} (a0 : Array Value) (hw : ∀ d ∈ tables_1, d.before a0 Z = true) (H : EN Z h a sz u1 u2 u3 u4 u5 u6) (W : Wr h h' a (Jvm.RoadKit.slotOf Z "com/example/orbifold/orbifold/solvers/Bicgstab$Equations" "beforeColumns" "[I") ( w)) : EN Z h' a sz u1 u2 w u4 u5 u6 := ⟨H.1.wr W, (H.2.1).other W (Or.inr (slot_ne (a0 := a0) (C := "com/example/orbifold/orbifold/solvers/Bicgstab$Equations") (Or.inr (hw _ (List.mem_of_getElem? (i := 32) rfl))) (Or.inr (hw _ (List.mem_of_getElem? (i := 47) rfl))) (by decide) (t := .int) (t' := (.array .int)) (by decide) (by decide))), (H.2.2.1).other W (Or.inr (slot_ne (a0 := a0) (C := "com/example/orbifold/orbifold/solvers/Bicgstab$Equations") (Or.inr (hw _ (List.mem_of_getElem? (i := 34) rfl))) (Or.inr (hw _ (List.mem_of_getElem? (i := 47) rfl))) (by decide) (t := (.array .int)) (t' := (.array .int)) (by decide) (by decide))), (H.2.2.2.1).other W (Or.inr (slot_ne (a0 := a0) (C := "com/example/orbifold/orbifold/solvers/Bicgstab$Equations") (Or.inr (hw _ (List.mem_of_getElem? (i := 36) rfl))) (Or.inr (hw _ (List.mem_of_getElem? (i := 47) rfl))) (by decide) (t := (.array .int)) (t' := (.array .int)) (by decide) (by decide))), (H.2.2.2.2.1).same W, (H.2.2.2.2.2.1).other W (Or.inr (slot_ne (a0 := a0) (C := "com/example/orbifold/orbifold/solvers/Bicgstab$Equations") (Or.inr (hw _ (List.mem_of_getElem? (i := 49) rfl))) (Or.inr (hw _ (List.mem_of_getElem? (i := 47) rfl))) (by decide) (t := (.array .double)) (t' := (.array .int)) (by decide) (by decide))), (H.2.2.2.2.2.2.1).other W (Or.inr (slot_ne (a0 := a0) (C := "com/example/orbifold/orbifold/solvers/Bicgstab$Equations") (Or.inr (hw _ (List.mem_of_getElem? (i := 51) rfl))) (Or.inr (hw _ (List.mem_of_getElem? (i := 47) rfl))) (by decide) (t := (.array .int)) (t' := (.array .int)) (by decide) (by decide))), (H.2.2.2.2.2.2.2).other W (Or.inr (slot_ne (a0 := a0) (C := "com/example/orbifold/orbifold/solvers/Bicgstab$Equations") (Or.inr (hw _ (List.mem_of_getElem? (i := 53) rfl))) (Or.inr (hw _ (List.mem_of_getElem? (i := 47) rfl))) (by decide) (t := (.array .double)) (t' := (.array .int)) (by decide) (by decide)))⟩
theorem EN.put_beforeCoefficients {Z : State} {h h' : Heap} {a : Nat} {sz : Int32} {u1 : Value} {u2 : Value} {u3 : Value} {u4 : Value} {u5 : Value} {u6 : Value} {w : Value} (a0 : Array Value) (hw : ∀ d ∈ tables_1, d.before a0 Z = true) (H : EN Z h a sz u1 u2 u3 u4 u5 u6) (W : Wr h h' a (Jvm.RoadKit.slotOf Z "com/example/orbifold/orbifold/solvers/Bicgstab$Equations" "beforeCoefficients" "[D") ( w)) : EN Z h' a sz u1 u2 u3 w u5 u6 := ⟨H.1.wr W, (H.2.1).other W (Or.inr (slot_ne (a0 := a0) (C := "com/example/orbifold/orbifold/solvers/Bicgstab$Equations") (Or.inr (hw _ (List.mem_of_getElem? (i := 32) rfl))) (Or.inr (hw _ (List.mem_of_getElem? (i := 49) rfl))) (by decide) (t := .int) (t' := (.array .double)) (by decide) (by decide))), (H.2.2.1).other W (Or.inr (slot_ne (a0 := a0) (C := "com/example/orbifold/orbifold/solvers/Bicgstab$Equations") (Or.inr (hw _ (List.mem_of_getElem? (i := 34) rfl))) (Or.inr (hw _ (List.mem_of_getElem? (i := 49) rfl))) (by decide) (t := (.array .int)) (t' := (.array .double)) (by decide) (by decide))), (H.2.2.2.1).other W (Or.inr (slot_ne (a0 := a0) (C := "com/example/orbifold/orbifold/solvers/Bicgstab$Equations") (Or.inr (hw _ (List.mem_of_getElem? (i := 36) rfl))) (Or.inr (hw _ (List.mem_of_getElem? (i := 49) rfl))) (by decide) (t := (.array .int)) (t' := (.array .double)) (by decide) (by decide))), (H.2.2.2.2.1).other W (Or.inr (slot_ne (a0 := a0) (C := "com/example/orbifold/orbifold/solvers/Bicgstab$Equations") (Or.inr (hw _ (List.mem_of_getElem? (i := 47) rfl))) (Or.inr (hw _ (List.mem_of_getElem? (i := 49) rfl))) (by decide) (t := (.array .int)) (t' := (.array .double)) (by decide) (by decide))), (H.2.2.2.2.2.1).same W, (H.2.2.2.2.2.2.1).other W (Or.inr (slot_ne (a0 := a0) (C := "com/example/orbifold/orbifold/solvers/Bicgstab$Equations") (Or.inr (hw _ (List.mem_of_getElem? (i := 51) rfl))) (Or.inr (hw _ (List.mem_of_getElem? (i := 49) rfl))) (by decide) (t := (.array .int)) (t' := (.array .double)) (by decide) (by decide))), (H.2.2.2.2.2.2.2).other W (Or.inr (slot_ne (a0 := a0) (C := "com/example/orbifold/orbifold/solvers/Bicgstab$Equations") (Or.inr (hw _ (List.mem_of_getElem? (i := 53) rfl))) (Or.inr (hw _ (List.mem_of_getElem? (i := 49) rfl))) (by decide) (t := (.array .double)) (t' := (.array .double)) (by decide) (by decide)))⟩
theorem EN.put_afterColumns {Z : State} {h h' : Heap} {a : Nat} {sz : Int32} {u1 : Value} {u2 : Value} {u3 : Value} {u4 : Value} {u5 : Value} {u6 : Value} {w : Value} (a0 : Array Value) (hw : ∀ d ∈ tables_1, d.before a0 Z = true) (H : EN Z h a sz u1 u2 u3 u4 u5 u6) (W : Wr h h' a (Jvm.RoadKit.slotOf Z "com/example/orbifold/orbifold/solvers/Bicgstab$Equations" "afterColumns" "[I") ( w)) : EN Z h' a sz u1 u2 u3 u4 w u6 := ⟨H.1.wr W, (H.2.1).other W (Or.inr (slot_ne (a0 := a0) (C := "com/example/orbifold/orbifold/solvers/Bicgstab$Equations") (Or.inr (hw _ (List.mem_of_getElem? (i := 32) rfl))) (Or.inr (hw _ (List.mem_of_getElem? (i := 51) rfl))) (by decide) (t := .int) (t' := (.array .int)) (by decide) (by decide))), (H.2.2.1).other W (Or.inr (slot_ne (a0 := a0) (C := "com/example/orbifold/orbifold/solvers/Bicgstab$Equations") (Or.inr (hw _ (List.mem_of_getElem? (i := 34) rfl))) (Or.inr (hw _ (List.mem_of_getElem? (i := 51) rfl))) (by decide) (t := (.array .int)) (t' := (.array .int)) (by decide) (by decide))), (H.2.2.2.1).other W (Or.inr (slot_ne (a0 := a0) (C := "com/example/orbifold/orbifold/solvers/Bicgstab$Equations") (Or.inr (hw _ (List.mem_of_getElem? (i := 36) rfl))) (Or.inr (hw _ (List.mem_of_getElem? (i := 51) rfl))) (by decide) (t := (.array .int)) (t' := (.array .int)) (by decide) (by decide))), (H.2.2.2.2.1).other W (Or.inr (slot_ne (a0 := a0) (C := "com/example/orbifold/orbifold/solvers/Bicgstab$Equations") (Or.inr (hw _ (List.mem_of_getElem? (i := 47) rfl))) (Or.inr (hw _ (List.mem_of_getElem? (i := 51) rfl))) (by decide) (t := (.array .int)) (t' := (.array .int)) (by decide) (by decide))), (H.2.2.2.2.2.1).other W (Or.inr (slot_ne (a0 := a0) (C := "com/example/orbifold/orbifold/solvers/Bicgstab$Equations") (Or.inr (hw _ (List.mem_of_getElem? (i := 49) rfl))) (Or.inr (hw _ (List.mem_of_getElem? (i := 51) rfl))) (by decide) (t := (.array .double)) (t' := (.array .int)) (by decide) (by decide))), (H.2.2.2.2.2.2.1).same W, (H.2.2.2.2.2.2.2).other W (Or.inr (slot_ne (a0 := a0) (C := "com/example/orbifold/orbifold/solvers/Bicgstab$Equations") (Or.inr (hw _ (List.mem_of_getElem? (i := 53) rfl))) (Or.inr (hw _ (List.mem_of_getElem? (i := 51) rfl))) (by decide) (t := (.array .double)) (t' := (.array .int)) (by decide) (by decide)))⟩
theorem EN.put_afterCoefficients {Z : State} {h h' : Heap} {a : Nat} {sz : Int32} {u1 : Value} {u2 : Value} {u3 : Value} {u4 : Value} {u5 : Value} {u6 : Value} {w : Value} (a0 : Array Value) (hw : ∀ d ∈ tables_1, d.before a0 Z = true) (H : EN Z h a sz u1 u2 u3 u4 u5 u6) (W : Wr h h' a (Jvm.RoadKit.slotOf Z "com/example/orbifold/orbifold/solvers/Bicgstab$Equations" "afterCoefficients" "[D") ( w)) : EN Z h' a sz u1 u2 u3 u4 u5 w := ⟨H.1.wr W, (H.2.1).other W (Or.inr (slot_ne (a0 := a0) (C := "com/example/orbifold/orbifold/solvers/Bicgstab$Equations") (Or.inr (hw _ (List.mem_of_getElem? (i := 32) rfl))) (Or.inr (hw _ (List.mem_of_getElem? (i := 53) rfl))) (by decide) (t := .int) (t' := (.array .double)) (by decide) (by decide))), (H.2.2.1).other W (Or.inr (slot_ne (a0 := a0) (C := "com/example/orbifold/orbifold/solvers/Bicgstab$Equations") (Or.inr (hw _ (List.mem_of_getElem? (i := 34) rfl))) (Or.inr (hw _ (List.mem_of_getElem? (i := 53) rfl))) (by decide) (t := (.array .int)) (t' := (.array .double)) (by decide) (by decide))), (H.2.2.2.1).other W (Or.inr (slot_ne (a0 := a0) (C := "com/example/orbifold/orbifold/solvers/Bicgstab$Equations") (Or.inr (hw _ (List.mem_of_getElem? (i := 36) rfl))) (Or.inr (hw _ (List.mem_of_getElem? (i := 53) rfl))) (by decide) (t := (.array .int)) (t' := (.array .double)) (by decide) (by decide))), (H.2.2.2.2.1).other W (Or.inr (slot_ne (a0 := a0) (C := "com/example/orbifold/orbifold/solvers/Bicgstab$Equations") (Or.inr (hw _ (List.mem_of_getElem? (i := 47) rfl))) (Or.inr (hw _ (List.mem_of_getElem? (i := 53) rfl))) (by decide) (t := (.array .int)) (t' := (.array .double)) (by decide) (by decide))), (H.2.2.2.2.2.1).other W (Or.inr (slot_ne (a0 := a0) (C := "com/example/orbifold/orbifold/solvers/Bicgstab$Equations") (Or.inr (hw _ (List.mem_of_getElem? (i := 49) rfl))) (Or.inr (hw _ (List.mem_of_getElem? (i := 53) rfl))) (by decide) (t := (.array .double)) (t' := (.array .double)) (by decide) (by decide))), (H.2.2.2.2.2.2.1).other W (Or.inr (slot_ne (a0 := a0) (C := "com/example/orbifold/orbifold/solvers/Bicgstab$Equations") (Or.inr (hw _ (List.mem_of_getElem? (i := 51) rfl))) (Or.inr (hw _ (List.mem_of_getElem? (i := 53) rfl))) (by decide) (t := (.array .int)) (t' := (.array .double)) (by decide) (by decide))), (H.2.2.2.2.2.2.2).same W⟩
def σ0 : Lambda.Shape := (Lambda.Shape.mk "java/util/function/IntUnaryOperator" "applyAsInt" (MethodDescriptor.mk ([FieldType.int] : List FieldType) (Option.some FieldType.int)) ([(FieldType.array FieldType.int), (FieldType.array FieldType.int)] : List FieldType) 6 "com/example/orbifold/orbifold/solvers/Bicgstab$Equations" "lambda$new$0" (MethodDescriptor.mk ([(FieldType.array FieldType.int), (FieldType.array FieldType.int), FieldType.int] : List FieldType) (Option.some FieldType.int)) false (MethodDescriptor.mk ([FieldType.int] : List FieldType) (Option.some FieldType.int)))
def fc0 : ByteArray := ⟨#[0x2a, 0xb4, 0x00, 0x10, 0x2a, 0xb4, 0x00, 0x12, 0x1b, 0xb8, 0x00, 0x1a, 0xac]⟩
theorem fwd0 : Jvm.LamKit.fwdOK σ0 "com/example/orbifold/orbifold/solvers/Bicgstab$Equations" fc0 2 (some .int) 26 22 = true := by decide +kernel
theorem cap0_0 : Jvm.LamKit.capOK σ0 "com/example/orbifold/orbifold/solvers/Bicgstab$Equations" 16 0 = true := by decide +kernel
theorem cap0_1 : Jvm.LamKit.capOK σ0 "com/example/orbifold/orbifold/solvers/Bicgstab$Equations" 18 1 = true := by decide +kernel
theorem fd0_0 : decode fc0 0 = .ok (.aload_n 0, 1) := by decide +kernel
theorem fd0_1 : decode fc0 1 = .ok (.getfield 16, 3) := by decide +kernel
theorem fd0_4 : decode fc0 4 = .ok (.aload_n 0, 1) := by decide +kernel
theorem fd0_5 : decode fc0 5 = .ok (.getfield 18, 3) := by decide +kernel
theorem fd0_8 : decode fc0 8 = .ok (.iload_n 1, 1) := by decide +kernel
theorem fd0_9 : decode fc0 9 = .ok (.invokestatic 26, 3) := by decide +kernel
theorem fd0_12 : decode fc0 12 = .ok (.ireturn, 1) := by decide +kernel
def σ1 : Lambda.Shape := (Lambda.Shape.mk "java/util/function/IntUnaryOperator" "applyAsInt" (MethodDescriptor.mk ([FieldType.int] : List FieldType) (Option.some FieldType.int)) ([(FieldType.array FieldType.int), (FieldType.array FieldType.int)] : List FieldType) 6 "com/example/orbifold/orbifold/solvers/Bicgstab$Equations" "lambda$new$1" (MethodDescriptor.mk ([(FieldType.array FieldType.int), (FieldType.array FieldType.int), FieldType.int] : List FieldType) (Option.some FieldType.int)) false (MethodDescriptor.mk ([FieldType.int] : List FieldType) (Option.some FieldType.int)))
def fc1 : ByteArray := ⟨#[0x2a, 0xb4, 0x00, 0x10, 0x2a, 0xb4, 0x00, 0x12, 0x1b, 0xb8, 0x00, 0x1a, 0xac]⟩
theorem fwd1 : Jvm.LamKit.fwdOK σ1 "com/example/orbifold/orbifold/solvers/Bicgstab$Equations" fc1 2 (some .int) 26 22 = true := by decide +kernel
theorem cap1_0 : Jvm.LamKit.capOK σ1 "com/example/orbifold/orbifold/solvers/Bicgstab$Equations" 16 0 = true := by decide +kernel
theorem cap1_1 : Jvm.LamKit.capOK σ1 "com/example/orbifold/orbifold/solvers/Bicgstab$Equations" 18 1 = true := by decide +kernel
theorem fd1_0 : decode fc1 0 = .ok (.aload_n 0, 1) := by decide +kernel
theorem fd1_1 : decode fc1 1 = .ok (.getfield 16, 3) := by decide +kernel
theorem fd1_4 : decode fc1 4 = .ok (.aload_n 0, 1) := by decide +kernel
theorem fd1_5 : decode fc1 5 = .ok (.getfield 18, 3) := by decide +kernel
theorem fd1_8 : decode fc1 8 = .ok (.iload_n 1, 1) := by decide +kernel
theorem fd1_9 : decode fc1 9 = .ok (.invokestatic 26, 3) := by decide +kernel
theorem fd1_12 : decode fc1 12 = .ok (.ireturn, 1) := by decide +kernel
def σ2 : Lambda.Shape := (Lambda.Shape.mk "java/util/function/IntUnaryOperator" "applyAsInt" (MethodDescriptor.mk ([FieldType.int] : List FieldType) (Option.some FieldType.int)) ([(FieldType.array FieldType.int)] : List FieldType) 6 "com/example/orbifold/orbifold/solvers/Bicgstab$Equations" "lambda$new$2" (MethodDescriptor.mk ([(FieldType.array FieldType.int), FieldType.int] : List FieldType) (Option.some FieldType.int)) false (MethodDescriptor.mk ([FieldType.int] : List FieldType) (Option.some FieldType.int)))
def fc2 : ByteArray := ⟨#[0x2a, 0xb4, 0x00, 0x0f, 0x1b, 0xb8, 0x00, 0x17, 0xac]⟩
theorem fwd2 : Jvm.LamKit.fwdOK σ2 "com/example/orbifold/orbifold/solvers/Bicgstab$Equations" fc2 2 (some .int) 23 19 = true := by decide +kernel
theorem cap2_0 : Jvm.LamKit.capOK σ2 "com/example/orbifold/orbifold/solvers/Bicgstab$Equations" 15 0 = true := by decide +kernel
theorem fd2_0 : decode fc2 0 = .ok (.aload_n 0, 1) := by decide +kernel
theorem fd2_1 : decode fc2 1 = .ok (.getfield 15, 3) := by decide +kernel
theorem fd2_4 : decode fc2 4 = .ok (.iload_n 1, 1) := by decide +kernel
theorem fd2_5 : decode fc2 5 = .ok (.invokestatic 23, 3) := by decide +kernel
theorem fd2_8 : decode fc2 8 = .ok (.ireturn, 1) := by decide +kernel
def σ3 : Lambda.Shape := (Lambda.Shape.mk "java/util/function/IntToDoubleFunction" "applyAsDouble" (MethodDescriptor.mk ([FieldType.int] : List FieldType) (Option.some FieldType.double)) ([(FieldType.array FieldType.double)] : List FieldType) 6 "com/example/orbifold/orbifold/solvers/Bicgstab$Equations" "lambda$new$3" (MethodDescriptor.mk ([(FieldType.array FieldType.double), FieldType.int] : List FieldType) (Option.some FieldType.double)) false (MethodDescriptor.mk ([FieldType.int] : List FieldType) (Option.some FieldType.double)))
def fc3 : ByteArray := ⟨#[0x2a, 0xb4, 0x00, 0x0f, 0x1b, 0xb8, 0x00, 0x17, 0xaf]⟩
theorem fwd3 : Jvm.LamKit.fwdOK σ3 "com/example/orbifold/orbifold/solvers/Bicgstab$Equations" fc3 2 (some .double) 23 19 = true := by decide +kernel
theorem cap3_0 : Jvm.LamKit.capOK σ3 "com/example/orbifold/orbifold/solvers/Bicgstab$Equations" 15 0 = true := by decide +kernel
theorem fd3_0 : decode fc3 0 = .ok (.aload_n 0, 1) := by decide +kernel
theorem fd3_1 : decode fc3 1 = .ok (.getfield 15, 3) := by decide +kernel
theorem fd3_4 : decode fc3 4 = .ok (.iload_n 1, 1) := by decide +kernel
theorem fd3_5 : decode fc3 5 = .ok (.invokestatic 23, 3) := by decide +kernel
theorem fd3_8 : decode fc3 8 = .ok (.dreturn, 1) := by decide +kernel
theorem efL (a : Nat) (j : Int32) (m : MethodId) : entryFrame m #[.ref a, .int j] 2 = mkF m 0 #[.val (.ref a), .val (.int j)] [] := by first | (simp [entryFrame, mkF, argsToLocals, Value.category]; done) | rfl
set_option maxRecDepth 65536 in
set_option maxHeartbeats 40000000 in
theorem lam0_go (l : Launch) (Z : State) {n0 : Nat} {h : Heap} {ts ch : Nat} {tl cvs : List Int32} {j x cv : Int32} {k q : Nat} (A1 : ArI Z h ts tl) (A2 : ArI Z h ch cvs) (hj : j.toInt = (k : Int)) (h1 : cvs[k]? = some cv) (h2 : cv.toInt = (q : Int)) (hq : q < 1000) (h3 : tl[q]? = some x) :
    Go l Z ({ frames := 0, cells := 0, slots := 0, locals := 0 } : Room) ((⟨"com/example/orbifold/orbifold/solvers/Bicgstab$Equations", "lambda$new$0", "([I[II)I"⟩ : MethodName), prog_170_method_13_code, 3, some .int) n0 (fun v h' => v = some (.int x) ∧ h' = h) h 0 0 0 #[.val (.ref ts), .val (.ref ch), .val (.int j)] [] := by
  refine Go.aloadN 1 d6_0 rfl rfl rfl ?_
  refine Go.aloadN 2 d6_1 rfl rfl rfl ?_
  refine Go.iloadN 3 d6_2 rfl rfl ?_
  refine Go.iaload 4 A2 hj h1 d6_3 rfl ?_
  refine Go.iaload 5 A1 h2 h3 d6_4 rfl ?_
  exact Go.iret d6_5 rfl (leB rfl) (leB rfl) ⟨rfl, rfl⟩
set_option maxRecDepth 65536 in
set_option maxHeartbeats 40000000 in
theorem lam1_go (l : Launch) (Z : State) {n0 : Nat} {h : Heap} {ts ch : Nat} {tl cvs : List Int32} {j x cv : Int32} {k q : Nat} (A1 : ArI Z h ts tl) (A2 : ArI Z h ch cvs) (hj : j.toInt = (k : Int)) (h1 : cvs[k]? = some cv) (h2 : cv.toInt = (q : Int)) (hq : q < 1000) (h3 : tl[q + 1]? = some x) :
    Go l Z ({ frames := 0, cells := 0, slots := 0, locals := 0 } : Room) ((⟨"com/example/orbifold/orbifold/solvers/Bicgstab$Equations", "lambda$new$1", "([I[II)I"⟩ : MethodName), prog_170_method_12_code, 3, some .int) n0 (fun v h' => v = some (.int x) ∧ h' = h) h 0 0 0 #[.val (.ref ts), .val (.ref ch), .val (.int j)] [] := by
  refine Go.aloadN 1 d7_0 rfl rfl rfl ?_
  refine Go.aloadN 2 d7_1 rfl rfl rfl ?_
  refine Go.iloadN 3 d7_2 rfl rfl ?_
  refine Go.iaload 4 A2 hj h1 d7_3 rfl ?_
  refine Go.iconst 5 (1 : Int32) d7_4 rfl (by decide) ?_
  refine Go.iadd 6 (cv + (1 : Int32)) d7_5 rfl rfl ?_
  refine Go.iaload 7 A1 (toInt_add (b := 1) h2 (by decide) (by omega) (by omega) (show (q : Int) + 1 = ((q + 1 : Nat) : Int) by omega)) h3 d7_6 rfl ?_
  exact Go.iret d7_7 rfl (leB rfl) (leB rfl) ⟨rfl, rfl⟩
set_option maxRecDepth 65536 in
set_option maxHeartbeats 40000000 in
theorem lam2_go (l : Launch) (Z : State) {n0 : Nat} {h : Heap} {ts : Nat} {tl : List Int32} {j : Int32} {x : Int32} {k : Nat} (A1 : ArI Z h ts tl) (hj : j.toInt = (k : Int)) (h1 : tl[k]? = some x) :
    Go l Z ({ frames := 0, cells := 0, slots := 0, locals := 0 } : Room) ((⟨"com/example/orbifold/orbifold/solvers/Bicgstab$Equations", "lambda$new$2", "([II)I"⟩ : MethodName), prog_170_method_11_code, 2, some .int) n0 (fun v h' => v = some (.int x) ∧ h' = h) h 0 0 0 #[.val (.ref ts), .val (.int j)] [] := by
  refine Go.aloadN 1 d8_0 rfl rfl rfl ?_
  refine Go.iloadN 2 d8_1 rfl rfl ?_
  refine Go.iaload 3 A1 hj h1 d8_2 rfl ?_
  exact Go.iret d8_3 rfl (leB rfl) (leB rfl) ⟨rfl, rfl⟩
set_option maxRecDepth 65536 in
set_option maxHeartbeats 40000000 in
theorem lam3_go (l : Launch) (Z : State) {n0 : Nat} {h : Heap} {ts : Nat} {tl : List UInt64} {j : Int32} {x : UInt64} {k : Nat} (A1 : ArD Z h ts tl) (hj : j.toInt = (k : Int)) (h1 : tl[k]? = some x) :
    Go l Z ({ frames := 0, cells := 0, slots := 0, locals := 0 } : Room) ((⟨"com/example/orbifold/orbifold/solvers/Bicgstab$Equations", "lambda$new$3", "([DI)D"⟩ : MethodName), prog_170_method_10_code, 2, some .double) n0 (fun v h' => v = some (.double x) ∧ h' = h) h 0 0 0 #[.val (.ref ts), .val (.int j)] [] := by
  refine Go.aloadN 1 d9_0 rfl rfl rfl ?_
  refine Go.iloadN 2 d9_1 rfl rfl ?_
  refine Go.daload 3 A1 hj h1 d9_2 rfl ?_
  exact Go.dret d9_3 rfl (leB rfl) (leB rfl) ⟨rfl, rfl⟩
abbrev EB : Bdy := ((⟨"com/example/orbifold/orbifold/solvers/Bicgstab$Equations", "<init>", "(ILjava/util/function/IntUnaryOperator;Ljava/util/function/IntUnaryOperator;Ljava/util/function/IntUnaryOperator;Ljava/util/function/IntToDoubleFunction;)V"⟩ : MethodName), prog_170_method_2_code, 10, none)
set_option maxRecDepth 65536 in
set_option maxHeartbeats 40000000 in
theorem use0 (l : Launch) (Z : State) (a0 : Array Value) (hw : ∀ d ∈ tables_1, d.before a0 Z = true) {R : Room} {n0 : Nat} {Q : Option Value → Heap → Prop} {h : Heap} {cl sl pc : Nat} {Ls : Array Slot} {f : Nat} (pc' : Nat) (rest : List Value) {ts ch : Nat} {tl cvs : List Int32} {j x cv : Int32} {k q : Nat} (A1 : ArI Z h ts tl) (A2 : ArI Z h ch cvs) (hj : j.toInt = (k : Int)) (h1 : cvs[k]? = some cv) (h2 : cv.toInt = (q : Int)) (hq : q < 1000) (h3 : tl[q]? = some x) (F : Fn Z h f "com/example/orbifold/orbifold/solvers/Bicgstab$Equations" σ0 [.ref ts, .ref ch])
    (hsz : Ls.size = 10) (hfr : 2 ≤ R.frames) (hlo : (rest.map fun v => v.category).sum + 27 ≤ R.locals) (hc : cl ≤ R.cells) (hs : sl ≤ R.slots) (hd : decode prog_170_method_2_code pc = .ok (.invokeinterface 35 2, 5)) (hp : pc + 5 = pc')
    (k1 : Go l Z R EB n0 Q h cl sl pc' Ls (.int x :: rest)) : Go l Z R EB n0 Q h cl sl pc Ls (.int j :: .ref f :: rest) := by
  refine Go.lam pc' (xi := ⟨"java/util/function/IntUnaryOperator", "applyAsInt", "(I)I"⟩) (y := (⟨"com/example/orbifold/orbifold/solvers/Bicgstab$Equations", "lambda$new$0", "([I[II)I"⟩ : MethodName)) (rm := ({ frames := 0, cells := 0, slots := 0, locals := 0 } : Room)) rest (hw _ (List.mem_of_getElem? (i := 37) rfl)) (hw _ (List.mem_of_getElem? (i := 38) rfl)) (hw _ (List.mem_of_getElem? (i := 39) rfl)) (hw _ (List.mem_of_getElem? (i := 41) rfl)) (hw _ (List.mem_of_getElem? (i := 40) rfl)) (hw _ (List.mem_of_getElem? (i := 13) rfl)) ⟨rfl, rfl, by decide +kernel⟩ ⟨rfl, rfl, by decide +kernel⟩ (by decide) (by decide) pn_0 F fwd0 fd0_9 fd0_12 pd_2 pd_3 rfl (efL f j) rfl (fun cK cell U ck bl target => load2 (hw _ (List.mem_of_getElem? (i := 20) rfl)) cap0_0 cap0_1 fd0_0 fd0_1 fd0_4 fd0_5 fd0_8 rfl rfl cK cell U ck bl target) (ef_6_AAI ts ch j) (lam0_go l Z A1 A2 hj h1 h2 hq h3) ?_ rfl hsz hfr (by show _ + 13 + (14 + 0) ≤ _; omega) hc hs hd hp ?_
  · rintro v h' ⟨rfl, -⟩; exact Or.inl ⟨_, rfl, rfl, rfl⟩
  · rintro v h' ⟨rfl, rfl⟩; exact k1
set_option maxRecDepth 65536 in
set_option maxHeartbeats 40000000 in
theorem use1 (l : Launch) (Z : State) (a0 : Array Value) (hw : ∀ d ∈ tables_1, d.before a0 Z = true) {R : Room} {n0 : Nat} {Q : Option Value → Heap → Prop} {h : Heap} {cl sl pc : Nat} {Ls : Array Slot} {f : Nat} (pc' : Nat) (rest : List Value) {ts ch : Nat} {tl cvs : List Int32} {j x cv : Int32} {k q : Nat} (A1 : ArI Z h ts tl) (A2 : ArI Z h ch cvs) (hj : j.toInt = (k : Int)) (h1 : cvs[k]? = some cv) (h2 : cv.toInt = (q : Int)) (hq : q < 1000) (h3 : tl[q + 1]? = some x) (F : Fn Z h f "com/example/orbifold/orbifold/solvers/Bicgstab$Equations" σ1 [.ref ts, .ref ch])
    (hsz : Ls.size = 10) (hfr : 2 ≤ R.frames) (hlo : (rest.map fun v => v.category).sum + 27 ≤ R.locals) (hc : cl ≤ R.cells) (hs : sl ≤ R.slots) (hd : decode prog_170_method_2_code pc = .ok (.invokeinterface 35 2, 5)) (hp : pc + 5 = pc')
    (k1 : Go l Z R EB n0 Q h cl sl pc' Ls (.int x :: rest)) : Go l Z R EB n0 Q h cl sl pc Ls (.int j :: .ref f :: rest) := by
  refine Go.lam pc' (xi := ⟨"java/util/function/IntUnaryOperator", "applyAsInt", "(I)I"⟩) (y := (⟨"com/example/orbifold/orbifold/solvers/Bicgstab$Equations", "lambda$new$1", "([I[II)I"⟩ : MethodName)) (rm := ({ frames := 0, cells := 0, slots := 0, locals := 0 } : Room)) rest (hw _ (List.mem_of_getElem? (i := 37) rfl)) (hw _ (List.mem_of_getElem? (i := 38) rfl)) (hw _ (List.mem_of_getElem? (i := 39) rfl)) (hw _ (List.mem_of_getElem? (i := 43) rfl)) (hw _ (List.mem_of_getElem? (i := 42) rfl)) (hw _ (List.mem_of_getElem? (i := 13) rfl)) ⟨rfl, rfl, by decide +kernel⟩ ⟨rfl, rfl, by decide +kernel⟩ (by decide) (by decide) pn_0 F fwd1 fd1_9 fd1_12 pd_2 pd_3 rfl (efL f j) rfl (fun cK cell U ck bl target => load2 (hw _ (List.mem_of_getElem? (i := 20) rfl)) cap1_0 cap1_1 fd1_0 fd1_1 fd1_4 fd1_5 fd1_8 rfl rfl cK cell U ck bl target) (ef_7_AAI ts ch j) (lam1_go l Z A1 A2 hj h1 h2 hq h3) ?_ rfl hsz hfr (by show _ + 13 + (14 + 0) ≤ _; omega) hc hs hd hp ?_
  · rintro v h' ⟨rfl, -⟩; exact Or.inl ⟨_, rfl, rfl, rfl⟩
  · rintro v h' ⟨rfl, rfl⟩; exact k1
set_option maxRecDepth 65536 in
set_option maxHeartbeats 40000000 in
theorem use2 (l : Launch) (Z : State) (a0 : Array Value) (hw : ∀ d ∈ tables_1, d.before a0 Z = true) {R : Room} {n0 : Nat} {Q : Option Value → Heap → Prop} {h : Heap} {cl sl pc : Nat} {Ls : Array Slot} {f : Nat} (pc' : Nat) (rest : List Value) {ts : Nat} {tl : List Int32} {j : Int32} {x : Int32} {k : Nat} (A1 : ArI Z h ts tl) (hj : j.toInt = (k : Int)) (h1 : tl[k]? = some x) (F : Fn Z h f "com/example/orbifold/orbifold/solvers/Bicgstab$Equations" σ2 [.ref ts])
    (hsz : Ls.size = 10) (hfr : 2 ≤ R.frames) (hlo : (rest.map fun v => v.category).sum + 27 ≤ R.locals) (hc : cl ≤ R.cells) (hs : sl ≤ R.slots) (hd : decode prog_170_method_2_code pc = .ok (.invokeinterface 35 2, 5)) (hp : pc + 5 = pc')
    (k1 : Go l Z R EB n0 Q h cl sl pc' Ls (.int x :: rest)) : Go l Z R EB n0 Q h cl sl pc Ls (.int j :: .ref f :: rest) := by
  refine Go.lam pc' (xi := ⟨"java/util/function/IntUnaryOperator", "applyAsInt", "(I)I"⟩) (y := (⟨"com/example/orbifold/orbifold/solvers/Bicgstab$Equations", "lambda$new$2", "([II)I"⟩ : MethodName)) (rm := ({ frames := 0, cells := 0, slots := 0, locals := 0 } : Room)) rest (hw _ (List.mem_of_getElem? (i := 37) rfl)) (hw _ (List.mem_of_getElem? (i := 38) rfl)) (hw _ (List.mem_of_getElem? (i := 39) rfl)) (hw _ (List.mem_of_getElem? (i := 45) rfl)) (hw _ (List.mem_of_getElem? (i := 44) rfl)) (hw _ (List.mem_of_getElem? (i := 13) rfl)) ⟨rfl, rfl, by decide +kernel⟩ ⟨rfl, rfl, by decide +kernel⟩ (by decide) (by decide) pn_0 F fwd2 fd2_5 fd2_8 pd_2 pd_6 rfl (efL f j) rfl (fun cK cell U ck bl target => load1 (hw _ (List.mem_of_getElem? (i := 20) rfl)) cap2_0 rfl fd2_0 fd2_1 fd2_4 rfl rfl cK cell U ck bl target) (ef_8_AI ts j) (lam2_go l Z A1 hj h1) ?_ rfl hsz hfr (by show _ + 13 + (13 + 0) ≤ _; omega) hc hs hd hp ?_
  · rintro v h' ⟨rfl, -⟩; exact Or.inl ⟨_, rfl, rfl, rfl⟩
  · rintro v h' ⟨rfl, rfl⟩; exact k1
set_option maxRecDepth 65536 in
set_option maxHeartbeats 40000000 in
theorem use3 (l : Launch) (Z : State) (a0 : Array Value) (hw : ∀ d ∈ tables_1, d.before a0 Z = true) {R : Room} {n0 : Nat} {Q : Option Value → Heap → Prop} {h : Heap} {cl sl pc : Nat} {Ls : Array Slot} {f : Nat} (pc' : Nat) (rest : List Value) {ts : Nat} {tl : List UInt64} {j : Int32} {x : UInt64} {k : Nat} (A1 : ArD Z h ts tl) (hj : j.toInt = (k : Int)) (h1 : tl[k]? = some x) (F : Fn Z h f "com/example/orbifold/orbifold/solvers/Bicgstab$Equations" σ3 [.ref ts])
    (hsz : Ls.size = 10) (hfr : 2 ≤ R.frames) (hlo : (rest.map fun v => v.category).sum + 27 ≤ R.locals) (hc : cl ≤ R.cells) (hs : sl ≤ R.slots) (hd : decode prog_170_method_2_code pc = .ok (.invokeinterface 53 2, 5)) (hp : pc + 5 = pc')
    (k1 : Go l Z R EB n0 Q h cl sl pc' Ls (.double x :: rest)) : Go l Z R EB n0 Q h cl sl pc Ls (.int j :: .ref f :: rest) := by
  refine Go.lam pc' (xi := ⟨"java/util/function/IntToDoubleFunction", "applyAsDouble", "(I)D"⟩) (y := (⟨"com/example/orbifold/orbifold/solvers/Bicgstab$Equations", "lambda$new$3", "([DI)D"⟩ : MethodName)) (rm := ({ frames := 0, cells := 0, slots := 0, locals := 0 } : Room)) rest (hw _ (List.mem_of_getElem? (i := 54) rfl)) (hw _ (List.mem_of_getElem? (i := 55) rfl)) (hw _ (List.mem_of_getElem? (i := 56) rfl)) (hw _ (List.mem_of_getElem? (i := 58) rfl)) (hw _ (List.mem_of_getElem? (i := 57) rfl)) (hw _ (List.mem_of_getElem? (i := 13) rfl)) ⟨rfl, rfl, by decide +kernel⟩ ⟨rfl, rfl, by decide +kernel⟩ (by decide) (by decide) pn_0 F fwd3 fd3_5 fd3_8 pd_8 pd_9 rfl (efL f j) rfl (fun cK cell U ck bl target => load1 (hw _ (List.mem_of_getElem? (i := 20) rfl)) cap3_0 rfl fd3_0 fd3_1 fd3_4 rfl rfl cK cell U ck bl target) (ef_9_AI ts j) (lam3_go l Z A1 hj h1) ?_ rfl hsz hfr (by show _ + 13 + (13 + 0) ≤ _; omega) hc hs hd hp ?_
  · rintro v h' ⟨rfl, -⟩; exact Or.inr ⟨_, rfl, rfl, rfl⟩
  · rintro v h' ⟨rfl, rfl⟩; exact k1
/-- the terms of a row with a column ahead of it; the others -/
def rB (cL : Nat → Nat) (i : Nat) : Nat → Nat → List Nat
  | _, 0 => []
  | t, n + 1 => if cL t < i then t :: rB cL i (t + 1) n else rB cL i (t + 1) n
def rA (cL : Nat → Nat) (i : Nat) : Nat → Nat → List Nat
  | _, 0 => []
  | t, n + 1 => if cL t < i then rA cL i (t + 1) n else t :: rA cL i (t + 1) n
theorem rAB_len (cL : Nat → Nat) (i : Nat) : ∀ (n t : Nat), (rB cL i t n).length + (rA cL i t n).length = n
  | 0, _ => rfl
  | n + 1, t => by
    have := rAB_len cL i n (t + 1)
    by_cases q : cL t < i
    · rw [show rB cL i t (n + 1) = t :: rB cL i (t + 1) n from if_pos q, show rA cL i t (n + 1) = rA cL i (t + 1) n from if_pos q]; simp only [List.length_cons]; omega
    · rw [show rB cL i t (n + 1) = rB cL i (t + 1) n from if_neg q, show rA cL i t (n + 1) = t :: rA cL i (t + 1) n from if_neg q]; simp only [List.length_cons]; omega
theorem rB_mem {cL : Nat → Nat} {i : Nat} : ∀ {n t k : Nat}, k ∈ rB cL i t n → t ≤ k ∧ k < t + n ∧ cL k < i
  | 0, _, _, h => by simp [rB] at h
  | n + 1, t, k, h => by
    by_cases q : cL t < i
    · rw [show rB cL i t (n + 1) = t :: rB cL i (t + 1) n from if_pos q] at h
      rcases List.mem_cons.mp h with rfl | h
      · exact ⟨Nat.le_refl _, by omega, q⟩
      · have := rB_mem h; omega
    · rw [show rB cL i t (n + 1) = rB cL i (t + 1) n from if_neg q] at h; have := rB_mem h; omega
theorem rA_mem {cL : Nat → Nat} {i : Nat} : ∀ {n t k : Nat}, k ∈ rA cL i t n → t ≤ k ∧ k < t + n ∧ i ≤ cL k
  | 0, _, _, h => by simp [rA] at h
  | n + 1, t, k, h => by
    by_cases q : cL t < i
    · rw [show rA cL i t (n + 1) = rA cL i (t + 1) n from if_pos q] at h; have := rA_mem h; omega
    · rw [show rA cL i t (n + 1) = t :: rA cL i (t + 1) n from if_neg q] at h
      rcases List.mem_cons.mp h with rfl | h
      · exact ⟨Nat.le_refl _, by omega, by omega⟩
      · have := rA_mem h; omega
/-- the numbers that the four arrays hold -/
def Dt (tl cvs cols : List Int32) (cfs : List UInt64) (tS cI : Nat → Nat) (colV : Nat → Int32) (cL : Nat → Nat) (cF : Nat → UInt64) : Prop :=
  (∀ i, i < 3 → ∃ cv : Int32, cvs[i]? = some cv ∧ cv.toInt = (cI i : Int) ∧ cI i < 3) ∧ (∀ q, q < 4 → ∃ x : Int32, tl[q]? = some x ∧ x.toInt = (tS q : Int)) ∧
  (∀ q, q < 3 → tS q ≤ tS (q + 1) ∧ tS (q + 1) ≤ tS q + 3 ∧ tS (q + 1) ≤ 9) ∧ (∀ t, t < 9 → cols[t]? = some (colV t) ∧ (colV t).toInt = (cL t : Int) ∧ cL t < 3) ∧ (∀ t, t < 9 → cfs[t]? = some (cF t))
/-- the four function objects and the four arrays that they read -/
def Ct (Z : State) (h : Heap) (a ts ch co cf f0 f1 f2 f3 : Nat) (tl cvs cols : List Int32) (cfs : List UInt64) : Prop :=
  Fn Z h f0 "com/example/orbifold/orbifold/solvers/Bicgstab$Equations" σ0 [.ref ts, .ref ch] ∧ Fn Z h f1 "com/example/orbifold/orbifold/solvers/Bicgstab$Equations" σ1 [.ref ts, .ref ch] ∧ Fn Z h f2 "com/example/orbifold/orbifold/solvers/Bicgstab$Equations" σ2 [.ref co] ∧ Fn Z h f3 "com/example/orbifold/orbifold/solvers/Bicgstab$Equations" σ3 [.ref cf] ∧ ArI Z h ts tl ∧ ArI Z h ch cvs ∧ ArI Z h co cols ∧ ArD Z h cf cfs ∧
  (ts < a ∧ ch < a ∧ co < a ∧ cf < a ∧ a < f0 ∧ f0 < f1 ∧ f1 < f2 ∧ f2 < f3)
theorem Ct.ext {Z : State} {h h' : Heap} {a ts ch co cf f0 f1 f2 f3 : Nat} {tl cvs cols : List Int32} {cfs : List UInt64} (H : Ct Z h a ts ch co cf f0 f1 f2 f3 tl cvs cols cfs) (E : Ext h h') : Ct Z h' a ts ch co cf f0 f1 f2 f3 tl cvs cols cfs := ⟨(H.1.ext E), (H.2.1.ext E), (H.2.2.1.ext E), (H.2.2.2.1.ext E), (H.2.2.2.2.1.ext E), (H.2.2.2.2.2.1.ext E), (H.2.2.2.2.2.2.1.ext E), (H.2.2.2.2.2.2.2.1.ext E), H.2.2.2.2.2.2.2.2⟩
theorem Ct.keep {Z : State} {h h' : Heap} {a ts ch co cf f0 f1 f2 f3 : Nat} {tl cvs cols : List Int32} {cfs : List UInt64} {p : Nat} (H : Ct Z h a ts ch co cf f0 f1 f2 f3 tl cvs cols cfs) (K : Keep h h' [p]) (q : p = a ∨ f3 < p) : Ct Z h' a ts ch co cf f0 f1 f2 f3 tl cvs cols cfs := by
  have o := H.2.2.2.2.2.2.2.2
  exact ⟨(H.1.keep K (ninN (by omega) nin0)), (H.2.1.keep K (ninN (by omega) nin0)), (H.2.2.1.keep K (ninN (by omega) nin0)), (H.2.2.2.1.keep K (ninN (by omega) nin0)), (H.2.2.2.2.1.keep K (ninN (by omega) nin0)), (H.2.2.2.2.2.1.keep K (ninN (by omega) nin0)), (H.2.2.2.2.2.2.1.keep K (ninN (by omega) nin0)), (H.2.2.2.2.2.2.2.1.keep K (ninN (by omega) nin0)), H.2.2.2.2.2.2.2.2⟩
set_option maxRecDepth 65536 in
set_option maxHeartbeats 40000000 in
theorem loop1 (l : Launch) (Z : State) (a0 : Array Value) (hw : ∀ d ∈ tables_1, d.before a0 Z = true) {n0 : Nat} {Q : Option Value → Heap → Prop} {a ts ch co cf f0 f1 f2 f3 : Nat} {tl cvs cols : List Int32} {cfs : List UInt64} {tS cI : Nat → Nat} {colV : Nat → Int32} {cL : Nat → Nat} {cF : Nat → UInt64} (D : Dt tl cvs cols cfs tS cI colV cL cF) {h : Heap} {cl sl : Nat} (hcl : cl ≤ 6) (hsl : sl ≤ 44) (C : Ct Z h a ts ch co cf f0 f1 f2 f3 tl cvs cols cfs) {i : Nat} {iv : Int32} (hi : iv.toInt = (i : Int)) (hi3 : i < 3) : ∀ (n t : Nat) (b c tv : Int32) (nb na : Nat), tS (cI i + 1) = t + n → b.toInt = (nb : Int) → c.toInt = (na : Int) → tv.toInt = (t : Int) → nb + na + n ≤ 1000 →
    (∀ b1 c1 t1 : Int32, b1.toInt = ((nb + (rB cL i t n).length : Nat) : Int) → c1.toInt = ((na + (rA cL i t n).length : Nat) : Int) → Go l Z ({ frames := 2, cells := 6, slots := 44, locals := 40 } : Room) EB n0 Q h cl sl 94 #[.val (.ref a), .val (.int (3 : Int32)), .val (.ref f0), .val (.ref f1), .val (.ref f2), .val (.ref f3), .val (.int b1), .val (.int c1), .val (.int iv), .val (.int t1)] []) → Go l Z ({ frames := 2, cells := 6, slots := 44, locals := 40 } : Room) EB n0 Q h cl sl 52 #[.val (.ref a), .val (.int (3 : Int32)), .val (.ref f0), .val (.ref f1), .val (.ref f2), .val (.ref f3), .val (.int b), .val (.int c), .val (.int iv), .val (.int tv)] [] := by
  intro n
  induction n with
  | zero =>
    intro t b c tv nb na ht hb hc hv hle k
    obtain ⟨cv, c1, c2, c3⟩ := D.1 i hi3
    obtain ⟨ev, e1, e2⟩ := D.2.1 (cI i + 1) (by omega)
    refine Go.iload 54 d4_52 rfl rfl ?_
    refine Go.aloadN 55 d4_54 rfl rfl rfl ?_
    refine Go.iload 57 d4_55 rfl rfl ?_
    refine use1 l Z a0 hw 62 [(.int tv)] C.2.2.2.2.1 C.2.2.2.2.2.1 hi c1 c2 (by omega) e1 C.2.1 rfl (leB rfl) (leB rfl) hcl hsl d4_57 rfl ?_
    refine Go.icmpT 94 d4_62 (by decide) (by decide) (show (ev).toInt ≤ (tv).toInt from by omega) ?_
    exact k b c tv (by simpa [rB] using hb) (by simpa [rA] using hc)
  | succ n ih =>
    intro t b c tv nb na ht hb hc hv hle k
    obtain ⟨cv, c1, c2, c3⟩ := D.1 i hi3
    obtain ⟨ev, e1, e2⟩ := D.2.1 (cI i + 1) (by omega)
    refine Go.iload 54 d4_52 rfl rfl ?_
    refine Go.aloadN 55 d4_54 rfl rfl rfl ?_
    refine Go.iload 57 d4_55 rfl rfl ?_
    refine use1 l Z a0 hw 62 [(.int tv)] C.2.2.2.2.1 C.2.2.2.2.2.1 hi c1 c2 (by omega) e1 C.2.1 rfl (leB rfl) (leB rfl) hcl hsl d4_57 rfl ?_
    refine Go.icmpF 65 d4_62 rfl (show (tv).toInt < (ev).toInt from by omega) ?_
    have ht9 : t < 9 := by have := D.2.2.1 (cI i) c3; omega
    obtain ⟨o1, o2, o3⟩ := D.2.2.2.1 t ht9
    refine Go.aload 67 d4_65 rfl rfl rfl ?_
    refine Go.iload 69 d4_67 rfl rfl ?_
    refine use2 l Z a0 hw 74 [] C.2.2.2.2.2.2.1 hv o1 C.2.2.1 rfl (leB rfl) (leB rfl) hcl hsl d4_69 rfl ?_
    refine Go.iload 76 d4_74 rfl rfl ?_
    by_cases hq : cL t < i
    · refine Go.icmpF 79 d4_76 rfl (show ((colV t)).toInt < (iv).toInt from by omega) ?_
      refine Go.iinc 82 #[.val (.ref a), .val (.int (3 : Int32)), .val (.ref f0), .val (.ref f1), .val (.ref f2), .val (.ref f3), .val (.int (b + (1 : Int32))), .val (.int c), .val (.int iv), .val (.int tv)] (b + (1 : Int32)) d4_79 rfl rfl rfl rfl ?_
      refine Go.goto 88 d4_82 (by decide) (by decide) ?_
      refine Go.iinc 91 #[.val (.ref a), .val (.int (3 : Int32)), .val (.ref f0), .val (.ref f1), .val (.ref f2), .val (.ref f3), .val (.int (b + (1 : Int32))), .val (.int c), .val (.int iv), .val (.int (tv + (1 : Int32)))] (tv + (1 : Int32)) d4_88 rfl rfl rfl rfl ?_
      refine Go.goto 52 d4_91 (by decide) (by decide) ?_
      refine ih (t + 1) (b + 1) c (tv + 1) (nb + 1) na (by omega) (toInt_add (b := 1) hb (by decide) (by omega) (by omega) (by omega)) hc (toInt_add (b := 1) hv (by decide) (by omega) (by omega) (by omega)) (by omega) ?_
      intro b1 c1 t1 q1 q2
      refine k b1 c1 t1 ?_ ?_
      · rw [q1, show rB cL i t (n + 1) = t :: rB cL i (t + 1) n from if_pos hq]; simp only [List.length_cons]; omega
      · rw [q2]; rw [show rA cL i t (n + 1) = rA cL i (t + 1) n from if_pos hq]
    · refine Go.icmpT 85 d4_76 (by decide) (by decide) (show (iv).toInt ≤ ((colV t)).toInt from by omega) ?_
      refine Go.iinc 88 #[.val (.ref a), .val (.int (3 : Int32)), .val (.ref f0), .val (.ref f1), .val (.ref f2), .val (.ref f3), .val (.int b), .val (.int (c + (1 : Int32))), .val (.int iv), .val (.int tv)] (c + (1 : Int32)) d4_85 rfl rfl rfl rfl ?_
      refine Go.iinc 91 #[.val (.ref a), .val (.int (3 : Int32)), .val (.ref f0), .val (.ref f1), .val (.ref f2), .val (.ref f3), .val (.int b), .val (.int (c + (1 : Int32))), .val (.int iv), .val (.int (tv + (1 : Int32)))] (tv + (1 : Int32)) d4_88 rfl rfl rfl rfl ?_
      refine Go.goto 52 d4_91 (by decide) (by decide) ?_
      refine ih (t + 1) b (c + 1) (tv + 1) nb (na + 1) (by omega) hb (toInt_add (b := 1) hc (by decide) (by omega) (by omega) (by omega)) (toInt_add (b := 1) hv (by decide) (by omega) (by omega) (by omega)) (by omega) ?_
      intro b1 c1 t1 q1 q2
      refine k b1 c1 t1 ?_ ?_
      · rw [q1]; rw [show rB cL i t (n + 1) = rB cL i (t + 1) n from if_neg hq]
      · rw [q2, show rA cL i t (n + 1) = t :: rA cL i (t + 1) n from if_neg hq]; simp only [List.length_cons]; omega
/-- the object with its six arrays, as far as they are filled -/
def Iv (Z : State) (n0 : Nat) (h : Heap) (a f3 p1 p2 p3 p4 p5 p6 : Nat) (bs as_ : List Int32) (colV : Nat → Int32) (cF : Nat → UInt64) (XB XA : List Nat) (mB mA : Nat) : Prop :=
  EN Z h a 3 (.ref p1) (.ref p2) (.ref p3) (.ref p4) (.ref p5) (.ref p6) ∧ ArI Z h p1 bs ∧ ArI Z h p2 as_ ∧ ArI Z h p3 (XB.map colV ++ List.replicate mB 0) ∧ ArD Z h p4 (XB.map cF ++ List.replicate mB 0) ∧ ArI Z h p5 (XA.map colV ++ List.replicate mA 0) ∧ ArD Z h p6 (XA.map cF ++ List.replicate mA 0) ∧
  (n0 ≤ a ∧ a < f3 ∧ f3 < p1 ∧ p1 < p2 ∧ p2 < p3 ∧ p3 < p4 ∧ p4 < p5 ∧ p5 < p6)
theorem fillS {α : Type} {z x : α} {m k : Nat} {xs : List α} (hk : xs.length = k) : (xs ++ List.replicate (m + 1) z).set k x = (xs ++ [x]) ++ List.replicate m z := by
  subst hk
  rw [List.set_append, if_neg (Nat.lt_irrefl _), Nat.sub_self, List.replicate_succ, List.set_cons_zero, List.append_assoc]; rfl
theorem Iv.set_bs {Z : State} {n0 : Nat} {h h' : Heap} {a f3 p1 p2 p3 p4 p5 p6 : Nat} {bs as_ : List Int32} {colV : Nat → Int32} {cF : Nat → UInt64} {XB XA : List Nat} {mB mA : Nat} {xs : List Int32} (H : Iv Z n0 h a f3 p1 p2 p3 p4 p5 p6 bs as_ colV cF XB XA mB mA) (K : Keep h h' [p1]) (A : ArI Z h' p1 xs) : Iv Z n0 h' a f3 p1 p2 p3 p4 p5 p6 xs as_ colV cF XB XA mB mA := ⟨(H.1.keep K (ninN (by have := H.2.2.2.2.2.2.2; omega) nin0)), A, (H.2.2.1.keep K (ninN (by have := H.2.2.2.2.2.2.2; omega) nin0)), (H.2.2.2.1.keep K (ninN (by have := H.2.2.2.2.2.2.2; omega) nin0)), (H.2.2.2.2.1.keep K (ninN (by have := H.2.2.2.2.2.2.2; omega) nin0)), (H.2.2.2.2.2.1.keep K (ninN (by have := H.2.2.2.2.2.2.2; omega) nin0)), (H.2.2.2.2.2.2.1.keep K (ninN (by have := H.2.2.2.2.2.2.2; omega) nin0)), H.2.2.2.2.2.2.2⟩
theorem Iv.set_as_ {Z : State} {n0 : Nat} {h h' : Heap} {a f3 p1 p2 p3 p4 p5 p6 : Nat} {bs as_ : List Int32} {colV : Nat → Int32} {cF : Nat → UInt64} {XB XA : List Nat} {mB mA : Nat} {xs : List Int32} (H : Iv Z n0 h a f3 p1 p2 p3 p4 p5 p6 bs as_ colV cF XB XA mB mA) (K : Keep h h' [p2]) (A : ArI Z h' p2 xs) : Iv Z n0 h' a f3 p1 p2 p3 p4 p5 p6 bs xs colV cF XB XA mB mA := ⟨(H.1.keep K (ninN (by have := H.2.2.2.2.2.2.2; omega) nin0)), (H.2.1.keep K (ninN (by have := H.2.2.2.2.2.2.2; omega) nin0)), A, (H.2.2.2.1.keep K (ninN (by have := H.2.2.2.2.2.2.2; omega) nin0)), (H.2.2.2.2.1.keep K (ninN (by have := H.2.2.2.2.2.2.2; omega) nin0)), (H.2.2.2.2.2.1.keep K (ninN (by have := H.2.2.2.2.2.2.2; omega) nin0)), (H.2.2.2.2.2.2.1.keep K (ninN (by have := H.2.2.2.2.2.2.2; omega) nin0)), H.2.2.2.2.2.2.2⟩
theorem Iv.add_XB {Z : State} {n0 : Nat} {h h' : Heap} {a f3 p1 p2 p3 p4 p5 p6 : Nat} {bs as_ : List Int32} {colV : Nat → Int32} {cF : Nat → UInt64} {XB XA : List Nat} {mB mA : Nat} {h2 : Heap} {t : Nat} (H : Iv Z n0 h a f3 p1 p2 p3 p4 p5 p6 bs as_ colV cF XB XA (mB + 1) mA) (K1 : Keep h h' [p3]) (A1 : ArI Z h' p3 ((XB.map colV ++ List.replicate (mB + 1) 0).set XB.length (colV t))) (K2 : Keep h' h2 [p4]) (A2 : ArD Z h2 p4 ((XB.map cF ++ List.replicate (mB + 1) 0).set XB.length (cF t))) : Iv Z n0 h2 a f3 p1 p2 p3 p4 p5 p6 bs as_ colV cF (XB ++ [t]) XA mB mA :=
  ⟨((H.1.keep K1 (ninN (by have := H.2.2.2.2.2.2.2; omega) nin0)).keep K2 (ninN (by have := H.2.2.2.2.2.2.2; omega) nin0)), (((H.2.1.keep K1 (ninN (by have := H.2.2.2.2.2.2.2; omega) nin0))).keep K2 (ninN (by have := H.2.2.2.2.2.2.2; omega) nin0)), (((H.2.2.1.keep K1 (ninN (by have := H.2.2.2.2.2.2.2; omega) nin0))).keep K2 (ninN (by have := H.2.2.2.2.2.2.2; omega) nin0)), (by have A := A1.keep K2 (ninN (by have := H.2.2.2.2.2.2.2; omega) nin0); rw [fillS (by simp)] at A; rw [List.map_append]; exact A), (by have A := A2; rw [fillS (by simp)] at A; rw [List.map_append]; exact A), (((H.2.2.2.2.2.1.keep K1 (ninN (by have := H.2.2.2.2.2.2.2; omega) nin0))).keep K2 (ninN (by have := H.2.2.2.2.2.2.2; omega) nin0)), (((H.2.2.2.2.2.2.1.keep K1 (ninN (by have := H.2.2.2.2.2.2.2; omega) nin0))).keep K2 (ninN (by have := H.2.2.2.2.2.2.2; omega) nin0)), H.2.2.2.2.2.2.2⟩
theorem Iv.add_XA {Z : State} {n0 : Nat} {h h' : Heap} {a f3 p1 p2 p3 p4 p5 p6 : Nat} {bs as_ : List Int32} {colV : Nat → Int32} {cF : Nat → UInt64} {XB XA : List Nat} {mB mA : Nat} {h2 : Heap} {t : Nat} (H : Iv Z n0 h a f3 p1 p2 p3 p4 p5 p6 bs as_ colV cF XB XA mB (mA + 1)) (K1 : Keep h h' [p5]) (A1 : ArI Z h' p5 ((XA.map colV ++ List.replicate (mA + 1) 0).set XA.length (colV t))) (K2 : Keep h' h2 [p6]) (A2 : ArD Z h2 p6 ((XA.map cF ++ List.replicate (mA + 1) 0).set XA.length (cF t))) : Iv Z n0 h2 a f3 p1 p2 p3 p4 p5 p6 bs as_ colV cF XB (XA ++ [t]) mB mA :=
  ⟨((H.1.keep K1 (ninN (by have := H.2.2.2.2.2.2.2; omega) nin0)).keep K2 (ninN (by have := H.2.2.2.2.2.2.2; omega) nin0)), (((H.2.1.keep K1 (ninN (by have := H.2.2.2.2.2.2.2; omega) nin0))).keep K2 (ninN (by have := H.2.2.2.2.2.2.2; omega) nin0)), (((H.2.2.1.keep K1 (ninN (by have := H.2.2.2.2.2.2.2; omega) nin0))).keep K2 (ninN (by have := H.2.2.2.2.2.2.2; omega) nin0)), (((H.2.2.2.1.keep K1 (ninN (by have := H.2.2.2.2.2.2.2; omega) nin0))).keep K2 (ninN (by have := H.2.2.2.2.2.2.2; omega) nin0)), (((H.2.2.2.2.1.keep K1 (ninN (by have := H.2.2.2.2.2.2.2; omega) nin0))).keep K2 (ninN (by have := H.2.2.2.2.2.2.2; omega) nin0)), (by have A := A1.keep K2 (ninN (by have := H.2.2.2.2.2.2.2; omega) nin0); rw [fillS (by simp)] at A; rw [List.map_append]; exact A), (by have A := A2; rw [fillS (by simp)] at A; rw [List.map_append]; exact A), H.2.2.2.2.2.2.2⟩
set_option maxRecDepth 65536 in
set_option maxHeartbeats 40000000 in
theorem loop2 (l : Launch) (Z : State) (a0 : Array Value) (hw : ∀ d ∈ tables_1, d.before a0 Z = true) {n0 : Nat} {Q : Option Value → Heap → Prop} {a ts ch co cf f0 f1 f2 f3 : Nat} {tl cvs cols : List Int32} {cfs : List UInt64} {tS cI : Nat → Nat} {colV : Nat → Int32} {cL : Nat → Nat} {cF : Nat → UInt64} (D : Dt tl cvs cols cfs tS cI colV cL cF) {p1 p2 p3 p4 p5 p6 : Nat} {bs as_ : List Int32} {mB mA : Nat} {cl sl : Nat} (hcl : cl ≤ 6) (hsl : sl ≤ 44) {i : Nat} {iv : Int32} (hi : iv.toInt = (i : Int)) (hi3 : i < 3) : ∀ (n t : Nat) (h : Heap) (b c tv : Int32) (XB XA : List Nat), tS (cI i + 1) = t + n → b.toInt = (XB.length : Int) → c.toInt = (XA.length : Int) → tv.toInt = (t : Int) → Ct Z h a ts ch co cf f0 f1 f2 f3 tl cvs cols cfs →
    Iv Z n0 h a f3 p1 p2 p3 p4 p5 p6 bs as_ colV cF XB XA ((rB cL i t n).length + mB) ((rA cL i t n).length + mA) →
    (∀ (h1 : Heap) (b1 c1 t1 : Int32), b1.toInt = ((XB ++ rB cL i t n).length : Int) → c1.toInt = ((XA ++ rA cL i t n).length : Int) → Ct Z h1 a ts ch co cf f0 f1 f2 f3 tl cvs cols cfs → Iv Z n0 h1 a f3 p1 p2 p3 p4 p5 p6 bs as_ colV cF (XB ++ rB cL i t n) (XA ++ rA cL i t n) mB mA → Go l Z ({ frames := 2, cells := 6, slots := 44, locals := 40 } : Room) EB n0 Q h1 cl sl 281 #[.val (.ref a), .val (.int (3 : Int32)), .val (.ref f0), .val (.ref f1), .val (.ref f2), .val (.ref f3), .val (.int b1), .val (.int c1), .val (.int iv), .val (.int t1)] []) → Go l Z ({ frames := 2, cells := 6, slots := 44, locals := 40 } : Room) EB n0 Q h cl sl 175 #[.val (.ref a), .val (.int (3 : Int32)), .val (.ref f0), .val (.ref f1), .val (.ref f2), .val (.ref f3), .val (.int b), .val (.int c), .val (.int iv), .val (.int tv)] [] := by
  intro n
  induction n with
  | zero =>
    intro t h b c tv XB XA ht hb hc hv C H k
    obtain ⟨cv, c1, c2, c3⟩ := D.1 i hi3
    obtain ⟨ev, e1, e2⟩ := D.2.1 (cI i + 1) (by omega)
    refine Go.iload 177 d4_175 rfl rfl ?_
    refine Go.aloadN 178 d4_177 rfl rfl rfl ?_
    refine Go.iload 180 d4_178 rfl rfl ?_
    refine use1 l Z a0 hw 185 [(.int tv)] C.2.2.2.2.1 C.2.2.2.2.2.1 hi c1 c2 (by omega) e1 C.2.1 rfl (leB rfl) (leB rfl) hcl hsl d4_180 rfl ?_
    refine Go.icmpT 281 d4_185 (by decide) (by decide) (show (ev).toInt ≤ (tv).toInt from by omega) ?_
    exact k h b c tv (by simpa [rB] using hb) (by simpa [rA] using hc) C (by simpa [rB, rA] using H)
  | succ n ih =>
    intro t h b c tv XB XA ht hb hc hv C H k
    obtain ⟨cv, c1, c2, c3⟩ := D.1 i hi3
    obtain ⟨ev, e1, e2⟩ := D.2.1 (cI i + 1) (by omega)
    refine Go.iload 177 d4_175 rfl rfl ?_
    refine Go.aloadN 178 d4_177 rfl rfl rfl ?_
    refine Go.iload 180 d4_178 rfl rfl ?_
    refine use1 l Z a0 hw 185 [(.int tv)] C.2.2.2.2.1 C.2.2.2.2.2.1 hi c1 c2 (by omega) e1 C.2.1 rfl (leB rfl) (leB rfl) hcl hsl d4_180 rfl ?_
    refine Go.icmpF 188 d4_185 rfl (show (tv).toInt < (ev).toInt from by omega) ?_
    have ht9 : t < 9 := by have := D.2.2.1 (cI i) c3; omega
    obtain ⟨o1, o2, o3⟩ := D.2.2.2.1 t ht9
    have o4 := D.2.2.2.2 t ht9
    refine Go.aload 190 d4_188 rfl rfl rfl ?_
    refine Go.iload 192 d4_190 rfl rfl ?_
    refine use2 l Z a0 hw 197 [] C.2.2.2.2.2.2.1 hv o1 C.2.2.1 rfl (leB rfl) (leB rfl) hcl hsl d4_192 rfl ?_
    refine Go.iload 199 d4_197 rfl rfl ?_
    by_cases hq : cL t < i
    · refine Go.icmpF 202 d4_199 rfl (show ((colV t)).toInt < (iv).toInt from by omega) ?_
      have hL : rB cL i t (n + 1) = t :: rB cL i (t + 1) n := if_pos hq
      have hM : rA cL i t (n + 1) = rA cL i (t + 1) n := if_pos hq
      rw [hL, hM] at H
      rw [show (t :: rB cL i (t + 1) n).length + mB = (((rB cL i (t + 1) n).length + mB) + 1) by simp only [List.length_cons]; omega] at H
      have lL := H.2.2.2.1.len
      simp only [List.length_map, List.length_append, List.length_replicate] at lL
      refine Go.aloadN 203 d4_202 rfl rfl rfl ?_
      refine Go.getf 206 (hw _ (List.mem_of_getElem? (i := 46) rfl)) H.1.2.2.2.2.1 d4_203 rfl ?_
      refine Go.iload 208 d4_206 rfl rfl ?_
      refine Go.aload 210 d4_208 rfl rfl rfl ?_
      refine Go.iload 212 d4_210 rfl rfl ?_
      refine use2 l Z a0 hw 217 [(.int b), (.ref p3)] C.2.2.2.2.2.2.1 hv o1 C.2.2.1 rfl (leB rfl) (leB rfl) hcl hsl d4_212 rfl ?_
      refine Go.iastore 218 H.2.2.2.1 hb (by simp only [List.length_append, List.length_map, List.length_replicate]; omega) (by have := H.2.2.2.2.2.2.2; omega) d4_217 rfl ?_
      intro h1 K1 A1
      have C1 := C.keep K1 (Or.inr (by have := H.2.2.2.2.2.2.2; omega))
      have F1 := H.1.keep K1 (ninN (by have := H.2.2.2.2.2.2.2; omega) nin0)
      refine Go.aloadN 219 d4_218 rfl rfl rfl ?_
      refine Go.getf 222 (hw _ (List.mem_of_getElem? (i := 48) rfl)) F1.2.2.2.2.2.1 d4_219 rfl ?_
      refine Go.iload 224 d4_222 rfl rfl ?_
      refine Go.iinc 227 #[.val (.ref a), .val (.int (3 : Int32)), .val (.ref f0), .val (.ref f1), .val (.ref f2), .val (.ref f3), .val (.int (b + (1 : Int32))), .val (.int c), .val (.int iv), .val (.int tv)] (b + (1 : Int32)) d4_224 rfl rfl rfl rfl ?_
      refine Go.aload 229 d4_227 rfl rfl rfl ?_
      refine Go.iload 231 d4_229 rfl rfl ?_
      refine use3 l Z a0 hw 236 [(.int b), (.ref p4)] C1.2.2.2.2.2.2.2.1 hv o4 C1.2.2.2.1 rfl (leB rfl) (leB rfl) hcl hsl d4_231 rfl ?_
      refine Go.dastore 237 (H.2.2.2.2.1.keep K1 (ninN (by have := H.2.2.2.2.2.2.2; omega) nin0)) hb (by simp only [List.length_append, List.length_map, List.length_replicate]; omega) (by have := H.2.2.2.2.2.2.2; omega) d4_236 rfl ?_
      intro h2 K2 A2
      have C2 := C1.keep K2 (Or.inr (by have := H.2.2.2.2.2.2.2; omega))
      have H2 := H.add_XB K1 A1 K2 A2
      refine Go.goto 275 d4_237 (by decide) (by decide) ?_
      refine Go.iinc 278 #[.val (.ref a), .val (.int (3 : Int32)), .val (.ref f0), .val (.ref f1), .val (.ref f2), .val (.ref f3), .val (.int (b + (1 : Int32))), .val (.int c), .val (.int iv), .val (.int (tv + (1 : Int32)))] (tv + (1 : Int32)) d4_275 rfl rfl rfl rfl ?_
      refine Go.goto 175 d4_278 (by decide) (by decide) ?_
      refine ih (t + 1) h2 (b + 1) c (tv + 1) (XB ++ [t]) XA (by omega) (toInt_add (b := 1) hb (by decide) (by omega) (by omega) (by simp only [List.length_append, List.length_cons, List.length_nil]; omega)) hc (toInt_add (b := 1) hv (by decide) (by omega) (by omega) (by omega)) C2 H2 ?_
      intro h3 b1 c1 t1 q1 q2 C3 H3
      rw [hL, hM] at k
      refine k h3 b1 c1 t1 ?_ ?_ C3 ?_
      · simpa [List.append_assoc] using q1
      · simpa [List.append_assoc] using q2
      · simpa [List.append_assoc] using H3
    · refine Go.icmpT 240 d4_199 (by decide) (by decide) (show (iv).toInt ≤ ((colV t)).toInt from by omega) ?_
      have hL : rB cL i t (n + 1) = rB cL i (t + 1) n := if_neg hq
      have hM : rA cL i t (n + 1) = t :: rA cL i (t + 1) n := if_neg hq
      rw [hL, hM] at H
      rw [show (t :: rA cL i (t + 1) n).length + mA = (((rA cL i (t + 1) n).length + mA) + 1) by simp only [List.length_cons]; omega] at H
      have lL := H.2.2.2.2.2.1.len
      simp only [List.length_map, List.length_append, List.length_replicate] at lL
      refine Go.aloadN 241 d4_240 rfl rfl rfl ?_
      refine Go.getf 244 (hw _ (List.mem_of_getElem? (i := 50) rfl)) H.1.2.2.2.2.2.2.1 d4_241 rfl ?_
      refine Go.iload 246 d4_244 rfl rfl ?_
      refine Go.aload 248 d4_246 rfl rfl rfl ?_
      refine Go.iload 250 d4_248 rfl rfl ?_
      refine use2 l Z a0 hw 255 [(.int c), (.ref p5)] C.2.2.2.2.2.2.1 hv o1 C.2.2.1 rfl (leB rfl) (leB rfl) hcl hsl d4_250 rfl ?_
      refine Go.iastore 256 H.2.2.2.2.2.1 hc (by simp only [List.length_append, List.length_map, List.length_replicate]; omega) (by have := H.2.2.2.2.2.2.2; omega) d4_255 rfl ?_
      intro h1 K1 A1
      have C1 := C.keep K1 (Or.inr (by have := H.2.2.2.2.2.2.2; omega))
      have F1 := H.1.keep K1 (ninN (by have := H.2.2.2.2.2.2.2; omega) nin0)
      refine Go.aloadN 257 d4_256 rfl rfl rfl ?_
      refine Go.getf 260 (hw _ (List.mem_of_getElem? (i := 52) rfl)) F1.2.2.2.2.2.2.2 d4_257 rfl ?_
      refine Go.iload 262 d4_260 rfl rfl ?_
      refine Go.iinc 265 #[.val (.ref a), .val (.int (3 : Int32)), .val (.ref f0), .val (.ref f1), .val (.ref f2), .val (.ref f3), .val (.int b), .val (.int (c + (1 : Int32))), .val (.int iv), .val (.int tv)] (c + (1 : Int32)) d4_262 rfl rfl rfl rfl ?_
      refine Go.aload 267 d4_265 rfl rfl rfl ?_
      refine Go.iload 269 d4_267 rfl rfl ?_
      refine use3 l Z a0 hw 274 [(.int c), (.ref p6)] C1.2.2.2.2.2.2.2.1 hv o4 C1.2.2.2.1 rfl (leB rfl) (leB rfl) hcl hsl d4_269 rfl ?_
      refine Go.dastore 275 (H.2.2.2.2.2.2.1.keep K1 (ninN (by have := H.2.2.2.2.2.2.2; omega) nin0)) hc (by simp only [List.length_append, List.length_map, List.length_replicate]; omega) (by have := H.2.2.2.2.2.2.2; omega) d4_274 rfl ?_
      intro h2 K2 A2
      have C2 := C1.keep K2 (Or.inr (by have := H.2.2.2.2.2.2.2; omega))
      have H2 := H.add_XA K1 A1 K2 A2
      refine Go.iinc 278 #[.val (.ref a), .val (.int (3 : Int32)), .val (.ref f0), .val (.ref f1), .val (.ref f2), .val (.ref f3), .val (.int b), .val (.int (c + (1 : Int32))), .val (.int iv), .val (.int (tv + (1 : Int32)))] (tv + (1 : Int32)) d4_275 rfl rfl rfl rfl ?_
      refine Go.goto 175 d4_278 (by decide) (by decide) ?_
      refine ih (t + 1) h2 b (c + 1) (tv + 1) XB (XA ++ [t]) (by omega) hb (toInt_add (b := 1) hc (by decide) (by omega) (by omega) (by simp only [List.length_append, List.length_cons, List.length_nil]; omega)) (toInt_add (b := 1) hv (by decide) (by omega) (by omega) (by omega)) C2 H2 ?_
      intro h3 b1 c1 t1 q1 q2 C3 H3
      rw [hL, hM] at k
      refine k h3 b1 c1 t1 ?_ ?_ C3 ?_
      · simpa [List.append_assoc] using q1
      · simpa [List.append_assoc] using q2
      · simpa [List.append_assoc] using H3
abbrev rowB (tS cI cL : Nat → Nat) (i : Nat) : List Nat := rB cL i (tS (cI i)) (tS (cI i + 1) - tS (cI i))
abbrev rowA (tS cI cL : Nat → Nat) (i : Nat) : List Nat := rA cL i (tS (cI i)) (tS (cI i + 1) - tS (cI i))
def St4 (b0 b1 b2 b3 : Int32) (B0 B1 B2 : List Nat) : Prop := b0.toInt = 0 ∧ b1.toInt = (B0.length : Int) ∧ b2.toInt = ((B0 ++ B1).length : Int) ∧ b3.toInt = ((B0 ++ B1 ++ B2).length : Int)
set_option maxRecDepth 65536 in
set_option maxHeartbeats 40000000 in
theorem init2_go (l : Launch) (Z : State) (a0 : Array Value) (hw : ∀ d ∈ tables_1, d.before a0 Z = true) {n0 : Nat} {a ts ch co cf f0 f1 f2 f3 : Nat} {tl cvs cols : List Int32} {cfs : List UInt64} {tS cI : Nat → Nat} {colV : Nat → Int32} {cL : Nat → Nat} {cF : Nat → UInt64} (D : Dt tl cvs cols cfs tS cI colV cL cF) {h : Heap} (B0 : EN Z h a 0 .null .null .null .null .null .null) (C : Ct Z h a ts ch co cf f0 f1 f2 f3 tl cvs cols cfs) (na : n0 ≤ a) :
    Go l Z ({ frames := 2, cells := 6, slots := 44, locals := 40 } : Room) EB n0 (fun v h' => v = none ∧ (∃ p1 p2 p3 p4 p5 p6 b0 b1 b2 b3 c0 c1 c2 c3, St4 b0 b1 b2 b3 (rB cL 0 (tS (cI 0)) (tS (cI 0 + 1) - tS (cI 0))) (rB cL 1 (tS (cI 1)) (tS (cI 1 + 1) - tS (cI 1))) (rB cL 2 (tS (cI 2)) (tS (cI 2 + 1) - tS (cI 2))) ∧ St4 c0 c1 c2 c3 (rA cL 0 (tS (cI 0)) (tS (cI 0 + 1) - tS (cI 0))) (rA cL 1 (tS (cI 1)) (tS (cI 1 + 1) - tS (cI 1))) (rA cL 2 (tS (cI 2)) (tS (cI 2 + 1) - tS (cI 2))) ∧ Iv Z n0 h' a f3 p1 p2 p3 p4 p5 p6 [b0, b1, b2, b3] [c0, c1, c2, c3] colV cF ((rB cL 0 (tS (cI 0)) (tS (cI 0 + 1) - tS (cI 0))) ++ (rB cL 1 (tS (cI 1)) (tS (cI 1 + 1) - tS (cI 1))) ++ (rB cL 2 (tS (cI 2)) (tS (cI 2 + 1) - tS (cI 2)))) ((rA cL 0 (tS (cI 0)) (tS (cI 0 + 1) - tS (cI 0))) ++ (rA cL 1 (tS (cI 1)) (tS (cI 1 + 1) - tS (cI 1))) ++ (rA cL 2 (tS (cI 2)) (tS (cI 2 + 1) - tS (cI 2)))) 0 0) ∧ Ct Z h' a ts ch co cf f0 f1 f2 f3 tl cvs cols cfs) h 0 0 0 #[.val (.ref a), .val (.int (3 : Int32)), .val (.ref f0), .val (.ref f1), .val (.ref f2), .val (.ref f3), .unset, .unset, .unset, .unset] [] := by
  have l0 := rAB_len cL 0 (tS (cI 0 + 1) - tS (cI 0)) (tS (cI 0))
  have l1 := rAB_len cL 1 (tS (cI 1 + 1) - tS (cI 1)) (tS (cI 1))
  have l2 := rAB_len cL 2 (tS (cI 2 + 1) - tS (cI 2)) (tS (cI 2))
  obtain ⟨cv0, u0, v0, w0⟩ := D.1 0 (by decide)
  have m0 := D.2.2.1 (cI 0) w0
  obtain ⟨sv0, x0, y0⟩ := D.2.1 (cI 0) (by omega)
  obtain ⟨cv1, u1, v1, w1⟩ := D.1 1 (by decide)
  have m1 := D.2.2.1 (cI 1) w1
  obtain ⟨sv1, x1, y1⟩ := D.2.1 (cI 1) (by omega)
  obtain ⟨cv2, u2, v2, w2⟩ := D.1 2 (by decide)
  have m2 := D.2.2.1 (cI 2) w2
  obtain ⟨sv2, x2, y2⟩ := D.2.1 (cI 2) (by omega)
  have oC := C.2.2.2.2.2.2.2.2
  have hcl : (2 : Nat) ≤ 6 := by decide
  have hsl : (8 : Nat) ≤ 44 := by decide
  refine Go.aloadN 1 d4_0 rfl rfl rfl ?_
  refine Go.initO 4 (hw _ (List.mem_of_getElem? (i := 28) rfl)) (hw _ (List.mem_of_getElem? (i := 29) rfl)) (hw _ (List.mem_of_getElem? (i := 30) rfl)) rfl d4_1 rfl (by decide) (leB rfl) ?_
  refine Go.aloadN 5 d4_4 rfl rfl rfl ?_
  refine Go.iloadN 6 d4_5 rfl rfl ?_
  refine Go.putF 9 (hw _ (List.mem_of_getElem? (i := 31) rfl)) B0.2.1 B0.1 (Or.inr ⟨(hw _ (List.mem_of_getElem? (i := 32) rfl)), rfl, rfl⟩) (hw _ (List.mem_of_getElem? (i := 12) rfl)) (ty := .int) (by decide) rfl rfl na d4_6 rfl ?_
  intro g1 W1
  have B1 := B0.put_size a0 hw W1
  have C1 := C.keep (Keep.of_wr W1) (Or.inl rfl)
  refine Go.aloadN 10 d4_9 rfl rfl rfl ?_
  refine Go.iloadN 11 d4_10 rfl rfl ?_
  refine Go.iconst 12 (1 : Int32) d4_11 rfl (by decide) ?_
  refine Go.iadd 13 (4 : Int32) d4_12 rfl (by decide) ?_
  refine Go.newI 15 4 (hw _ (List.mem_of_getElem? (i := 0) rfl)) (i := 4) (by decide) (by decide) (by decide) d4_13 rfl (by decide) (by decide) ?_
  intro h1 p1 E1 e1 n1 A1
  have Bx1 := B1.ext E1
  have Cx1 := C1.ext E1
  have o1 : f3 < p1 := Nat.lt_of_lt_of_le (C1.2.2.2.1).lt e1
  refine Go.putF 18 (hw _ (List.mem_of_getElem? (i := 33) rfl)) Bx1.2.2.1 Bx1.1 (Or.inr ⟨(hw _ (List.mem_of_getElem? (i := 34) rfl)), rfl, rfl⟩) (hw _ (List.mem_of_getElem? (i := 12) rfl)) (ty := (.array .int)) (by decide) rfl rfl na d4_15 rfl ?_
  intro q1 W1_
  have By1 := Bx1.put_beforeStart a0 hw W1_
  have Cy1 := Cx1.keep (Keep.of_wr W1_) (Or.inl rfl)
  have R1_1 := A1.other W1_ (by omega)
  refine Go.aloadN 19 d4_18 rfl rfl rfl ?_
  refine Go.iloadN 20 d4_19 rfl rfl ?_
  refine Go.iconst 21 (1 : Int32) d4_20 rfl (by decide) ?_
  refine Go.iadd 22 (4 : Int32) d4_21 rfl (by decide) ?_
  refine Go.newI 24 4 (hw _ (List.mem_of_getElem? (i := 0) rfl)) (i := 4) (by decide) (by decide) (by decide) d4_22 rfl (by decide) (by decide) ?_
  intro h2 p2 E2 e2 n2 A2
  have Bx2 := By1.ext E2
  have Cx2 := Cy1.ext E2
  have o2 : p1 < p2 := Nat.lt_of_lt_of_le (R1_1).lt e2
  have P2_1 := R1_1.ext E2
  refine Go.putF 27 (hw _ (List.mem_of_getElem? (i := 35) rfl)) Bx2.2.2.2.1 Bx2.1 (Or.inr ⟨(hw _ (List.mem_of_getElem? (i := 36) rfl)), rfl, rfl⟩) (hw _ (List.mem_of_getElem? (i := 12) rfl)) (ty := (.array .int)) (by decide) rfl rfl na d4_24 rfl ?_
  intro q2 W2_
  have By2 := Bx2.put_afterStart a0 hw W2_
  have Cy2 := Cx2.keep (Keep.of_wr W2_) (Or.inl rfl)
  have R2_1 := P2_1.other W2_ (by omega)
  have R2_2 := A2.other W2_ (by omega)
  refine Go.iconst 28 (0 : Int32) d4_27 rfl (by decide) ?_
  refine Go.istore 30 #[.val (.ref a), .val (.int (3 : Int32)), .val (.ref f0), .val (.ref f1), .val (.ref f2), .val (.ref f3), .val (.int (0 : Int32)), .unset, .unset, .unset] d4_28 rfl rfl ?_
  refine Go.iconst 31 (0 : Int32) d4_30 rfl (by decide) ?_
  refine Go.istore 33 #[.val (.ref a), .val (.int (3 : Int32)), .val (.ref f0), .val (.ref f1), .val (.ref f2), .val (.ref f3), .val (.int (0 : Int32)), .val (.int (0 : Int32)), .unset, .unset] d4_31 rfl rfl ?_
  refine Go.iconst 34 (0 : Int32) d4_33 rfl (by decide) ?_
  refine Go.istore 36 #[.val (.ref a), .val (.int (3 : Int32)), .val (.ref f0), .val (.ref f1), .val (.ref f2), .val (.ref f3), .val (.int (0 : Int32)), .val (.int (0 : Int32)), .val (.int (0 : Int32)), .unset] d4_34 rfl rfl ?_
  refine Go.iload 38 d4_36 rfl rfl ?_
  refine Go.iloadN 39 d4_38 rfl rfl ?_
  refine Go.icmpF 42 d4_39 rfl (show (0 : Int) < (3 : Int) from by decide) ?_
  refine Go.aloadN 43 d4_42 rfl rfl rfl ?_
  refine Go.iload 45 d4_43 rfl rfl ?_
  refine use0 l Z a0 hw 50 [] Cy2.2.2.2.2.1 Cy2.2.2.2.2.2.1 (k := 0) (by decide) u0 v0 (by omega) x0 Cy2.1 rfl (leB rfl) (leB rfl) hcl hsl d4_45 rfl ?_
  refine Go.istore 52 #[.val (.ref a), .val (.int (3 : Int32)), .val (.ref f0), .val (.ref f1), .val (.ref f2), .val (.ref f3), .val (.int (0 : Int32)), .val (.int (0 : Int32)), .val (.int (0 : Int32)), .val (.int sv0)] d4_50 rfl rfl ?_
  refine loop1 l Z a0 hw D hcl hsl Cy2 (i := 0) (by decide) (by decide) (tS (cI 0 + 1) - tS (cI 0)) (tS (cI 0)) _ _ _ (0) (0) (by omega) (by decide) (by decide) y0 (by omega) ?_
  intro b1 c1 t1 hb1 hc1
  refine Go.iinc 97 #[.val (.ref a), .val (.int (3 : Int32)), .val (.ref f0), .val (.ref f1), .val (.ref f2), .val (.ref f3), .val (.int b1), .val (.int c1), .val (.int (1 : Int32)), .val (.int t1)] (1 : Int32) d4_94 rfl rfl (by decide) rfl ?_
  refine Go.goto 36 d4_97 (by decide) (by decide) ?_
  refine Go.iload 38 d4_36 rfl rfl ?_
  refine Go.iloadN 39 d4_38 rfl rfl ?_
  refine Go.icmpF 42 d4_39 rfl (show (1 : Int) < (3 : Int) from by decide) ?_
  refine Go.aloadN 43 d4_42 rfl rfl rfl ?_
  refine Go.iload 45 d4_43 rfl rfl ?_
  refine use0 l Z a0 hw 50 [] Cy2.2.2.2.2.1 Cy2.2.2.2.2.2.1 (k := 1) (by decide) u1 v1 (by omega) x1 Cy2.1 rfl (leB rfl) (leB rfl) hcl hsl d4_45 rfl ?_
  refine Go.istore 52 #[.val (.ref a), .val (.int (3 : Int32)), .val (.ref f0), .val (.ref f1), .val (.ref f2), .val (.ref f3), .val (.int b1), .val (.int c1), .val (.int (1 : Int32)), .val (.int sv1)] d4_50 rfl rfl ?_
  refine loop1 l Z a0 hw D hcl hsl Cy2 (i := 1) (by decide) (by decide) (tS (cI 1 + 1) - tS (cI 1)) (tS (cI 1)) _ _ _ (0 + (rB cL 0 (tS (cI 0)) (tS (cI 0 + 1) - tS (cI 0))).length) (0 + (rA cL 0 (tS (cI 0)) (tS (cI 0 + 1) - tS (cI 0))).length) (by omega) hb1 hc1 y1 (by omega) ?_
  intro b2 c2 t2 hb2 hc2
  refine Go.iinc 97 #[.val (.ref a), .val (.int (3 : Int32)), .val (.ref f0), .val (.ref f1), .val (.ref f2), .val (.ref f3), .val (.int b2), .val (.int c2), .val (.int (2 : Int32)), .val (.int t2)] (2 : Int32) d4_94 rfl rfl (by decide) rfl ?_
  refine Go.goto 36 d4_97 (by decide) (by decide) ?_
  refine Go.iload 38 d4_36 rfl rfl ?_
  refine Go.iloadN 39 d4_38 rfl rfl ?_
  refine Go.icmpF 42 d4_39 rfl (show (2 : Int) < (3 : Int) from by decide) ?_
  refine Go.aloadN 43 d4_42 rfl rfl rfl ?_
  refine Go.iload 45 d4_43 rfl rfl ?_
  refine use0 l Z a0 hw 50 [] Cy2.2.2.2.2.1 Cy2.2.2.2.2.2.1 (k := 2) (by decide) u2 v2 (by omega) x2 Cy2.1 rfl (leB rfl) (leB rfl) hcl hsl d4_45 rfl ?_
  refine Go.istore 52 #[.val (.ref a), .val (.int (3 : Int32)), .val (.ref f0), .val (.ref f1), .val (.ref f2), .val (.ref f3), .val (.int b2), .val (.int c2), .val (.int (2 : Int32)), .val (.int sv2)] d4_50 rfl rfl ?_
  refine loop1 l Z a0 hw D hcl hsl Cy2 (i := 2) (by decide) (by decide) (tS (cI 2 + 1) - tS (cI 2)) (tS (cI 2)) _ _ _ (0 + (rB cL 0 (tS (cI 0)) (tS (cI 0 + 1) - tS (cI 0))).length + (rB cL 1 (tS (cI 1)) (tS (cI 1 + 1) - tS (cI 1))).length) (0 + (rA cL 0 (tS (cI 0)) (tS (cI 0 + 1) - tS (cI 0))).length + (rA cL 1 (tS (cI 1)) (tS (cI 1 + 1) - tS (cI 1))).length) (by omega) hb2 hc2 y2 (by omega) ?_
  intro b3 c3 t3 hb3 hc3
  refine Go.iinc 97 #[.val (.ref a), .val (.int (3 : Int32)), .val (.ref f0), .val (.ref f1), .val (.ref f2), .val (.ref f3), .val (.int b3), .val (.int c3), .val (.int (3 : Int32)), .val (.int t3)] (3 : Int32) d4_94 rfl rfl (by decide) rfl ?_
  refine Go.goto 36 d4_97 (by decide) (by decide) ?_
  refine Go.iload 38 d4_36 rfl rfl ?_
  refine Go.iloadN 39 d4_38 rfl rfl ?_
  refine Go.icmpT 100 d4_39 (by decide) (by decide) (show (3 : Int) ≤ (3 : Int) from by decide) ?_
  refine Go.aloadN 101 d4_100 rfl rfl rfl ?_
  refine Go.iload 103 d4_101 rfl rfl ?_
  refine Go.newI 105 9 (hw _ (List.mem_of_getElem? (i := 0) rfl)) (i := (rB cL 0 (tS (cI 0)) (tS (cI 0 + 1) - tS (cI 0))).length + ((rB cL 1 (tS (cI 1)) (tS (cI 1 + 1) - tS (cI 1))).length + (rB cL 2 (tS (cI 2)) (tS (cI 2 + 1) - tS (cI 2))).length)) (by rw [hb3]; omega) (by omega) (by decide) d4_103 rfl (by decide) (by decide) ?_
  intro h3 p3 E3 e3 n3 A3
  have Bx3 := By2.ext E3
  have Cx3 := Cy2.ext E3
  have o3 : p2 < p3 := Nat.lt_of_lt_of_le (R2_2).lt e3
  have P3_1 := R2_1.ext E3
  have P3_2 := R2_2.ext E3
  refine Go.putF 108 (hw _ (List.mem_of_getElem? (i := 46) rfl)) Bx3.2.2.2.2.1 Bx3.1 (Or.inr ⟨(hw _ (List.mem_of_getElem? (i := 47) rfl)), rfl, rfl⟩) (hw _ (List.mem_of_getElem? (i := 12) rfl)) (ty := (.array .int)) (by decide) rfl rfl na d4_105 rfl ?_
  intro q3 W3_
  have By3 := Bx3.put_beforeColumns a0 hw W3_
  have Cy3 := Cx3.keep (Keep.of_wr W3_) (Or.inl rfl)
  have R3_1 := P3_1.other W3_ (by omega)
  have R3_2 := P3_2.other W3_ (by omega)
  have R3_3 := A3.other W3_ (by omega)
  refine Go.aloadN 109 d4_108 rfl rfl rfl ?_
  refine Go.iload 111 d4_109 rfl rfl ?_
  refine Go.newD 113 9 (hw _ (List.mem_of_getElem? (i := 1) rfl)) (i := (rB cL 0 (tS (cI 0)) (tS (cI 0 + 1) - tS (cI 0))).length + ((rB cL 1 (tS (cI 1)) (tS (cI 1 + 1) - tS (cI 1))).length + (rB cL 2 (tS (cI 2)) (tS (cI 2 + 1) - tS (cI 2))).length)) (by rw [hb3]; omega) (by omega) (by decide) d4_111 rfl (by decide) (by decide) ?_
  intro h4 p4 E4 e4 n4 A4
  have Bx4 := By3.ext E4
  have Cx4 := Cy3.ext E4
  have o4 : p3 < p4 := Nat.lt_of_lt_of_le (R3_3).lt e4
  have P4_1 := R3_1.ext E4
  have P4_2 := R3_2.ext E4
  have P4_3 := R3_3.ext E4
  refine Go.putF 116 (hw _ (List.mem_of_getElem? (i := 48) rfl)) Bx4.2.2.2.2.2.1 Bx4.1 (Or.inr ⟨(hw _ (List.mem_of_getElem? (i := 49) rfl)), rfl, rfl⟩) (hw _ (List.mem_of_getElem? (i := 12) rfl)) (ty := (.array .double)) (by decide) rfl rfl na d4_113 rfl ?_
  intro q4 W4_
  have By4 := Bx4.put_beforeCoefficients a0 hw W4_
  have Cy4 := Cx4.keep (Keep.of_wr W4_) (Or.inl rfl)
  have R4_1 := P4_1.other W4_ (by omega)
  have R4_2 := P4_2.other W4_ (by omega)
  have R4_3 := P4_3.other W4_ (by omega)
  have R4_4 := A4.other W4_ (by omega)
  refine Go.aloadN 117 d4_116 rfl rfl rfl ?_
  refine Go.iload 119 d4_117 rfl rfl ?_
  refine Go.newI 121 9 (hw _ (List.mem_of_getElem? (i := 0) rfl)) (i := (rA cL 0 (tS (cI 0)) (tS (cI 0 + 1) - tS (cI 0))).length + ((rA cL 1 (tS (cI 1)) (tS (cI 1 + 1) - tS (cI 1))).length + (rA cL 2 (tS (cI 2)) (tS (cI 2 + 1) - tS (cI 2))).length)) (by rw [hc3]; omega) (by omega) (by decide) d4_119 rfl (by decide) (by decide) ?_
  intro h5 p5 E5 e5 n5 A5
  have Bx5 := By4.ext E5
  have Cx5 := Cy4.ext E5
  have o5 : p4 < p5 := Nat.lt_of_lt_of_le (R4_4).lt e5
  have P5_1 := R4_1.ext E5
  have P5_2 := R4_2.ext E5
  have P5_3 := R4_3.ext E5
  have P5_4 := R4_4.ext E5
  refine Go.putF 124 (hw _ (List.mem_of_getElem? (i := 50) rfl)) Bx5.2.2.2.2.2.2.1 Bx5.1 (Or.inr ⟨(hw _ (List.mem_of_getElem? (i := 51) rfl)), rfl, rfl⟩) (hw _ (List.mem_of_getElem? (i := 12) rfl)) (ty := (.array .int)) (by decide) rfl rfl na d4_121 rfl ?_
  intro q5 W5_
  have By5 := Bx5.put_afterColumns a0 hw W5_
  have Cy5 := Cx5.keep (Keep.of_wr W5_) (Or.inl rfl)
  have R5_1 := P5_1.other W5_ (by omega)
  have R5_2 := P5_2.other W5_ (by omega)
  have R5_3 := P5_3.other W5_ (by omega)
  have R5_4 := P5_4.other W5_ (by omega)
  have R5_5 := A5.other W5_ (by omega)
  refine Go.aloadN 125 d4_124 rfl rfl rfl ?_
  refine Go.iload 127 d4_125 rfl rfl ?_
  refine Go.newD 129 9 (hw _ (List.mem_of_getElem? (i := 1) rfl)) (i := (rA cL 0 (tS (cI 0)) (tS (cI 0 + 1) - tS (cI 0))).length + ((rA cL 1 (tS (cI 1)) (tS (cI 1 + 1) - tS (cI 1))).length + (rA cL 2 (tS (cI 2)) (tS (cI 2 + 1) - tS (cI 2))).length)) (by rw [hc3]; omega) (by omega) (by decide) d4_127 rfl (by decide) (by decide) ?_
  intro h6 p6 E6 e6 n6 A6
  have Bx6 := By5.ext E6
  have Cx6 := Cy5.ext E6
  have o6 : p5 < p6 := Nat.lt_of_lt_of_le (R5_5).lt e6
  have P6_1 := R5_1.ext E6
  have P6_2 := R5_2.ext E6
  have P6_3 := R5_3.ext E6
  have P6_4 := R5_4.ext E6
  have P6_5 := R5_5.ext E6
  refine Go.putF 132 (hw _ (List.mem_of_getElem? (i := 52) rfl)) Bx6.2.2.2.2.2.2.2 Bx6.1 (Or.inr ⟨(hw _ (List.mem_of_getElem? (i := 53) rfl)), rfl, rfl⟩) (hw _ (List.mem_of_getElem? (i := 12) rfl)) (ty := (.array .double)) (by decide) rfl rfl na d4_129 rfl ?_
  intro q6 W6_
  have By6 := Bx6.put_afterCoefficients a0 hw W6_
  have Cy6 := Cx6.keep (Keep.of_wr W6_) (Or.inl rfl)
  have R6_1 := P6_1.other W6_ (by omega)
  have R6_2 := P6_2.other W6_ (by omega)
  have R6_3 := P6_3.other W6_ (by omega)
  have R6_4 := P6_4.other W6_ (by omega)
  have R6_5 := P6_5.other W6_ (by omega)
  have R6_6 := A6.other W6_ (by omega)
  clear hcl hsl
  have hcl : (6 : Nat) ≤ 6 := by decide
  have hsl : (44 : Nat) ≤ 44 := by decide
  have H0 : Iv Z n0 q6 a f3 p1 p2 p3 p4 p5 p6 [0, 0, 0, 0] [0, 0, 0, 0] colV cF ([] : List Nat) ([] : List Nat) ((rB cL 0 (tS (cI 0)) (tS (cI 0 + 1) - tS (cI 0))).length + ((rB cL 1 (tS (cI 1)) (tS (cI 1 + 1) - tS (cI 1))).length + (rB cL 2 (tS (cI 2)) (tS (cI 2 + 1) - tS (cI 2))).length)) ((rA cL 0 (tS (cI 0)) (tS (cI 0 + 1) - tS (cI 0))).length + ((rA cL 1 (tS (cI 1)) (tS (cI 1 + 1) - tS (cI 1))).length + (rA cL 2 (tS (cI 2)) (tS (cI 2 + 1) - tS (cI 2))).length)) := ⟨By6, R6_1, R6_2, R6_3, R6_4, R6_5, R6_6, na, by omega, o1, o2, o3, o4, o5, o6⟩
  refine Go.iconst 133 (0 : Int32) d4_132 rfl (by decide) ?_
  refine Go.istore 135 #[.val (.ref a), .val (.int (3 : Int32)), .val (.ref f0), .val (.ref f1), .val (.ref f2), .val (.ref f3), .val (.int (0 : Int32)), .val (.int c3), .val (.int (3 : Int32)), .val (.int t3)] d4_133 rfl rfl ?_
  refine Go.iconst 136 (0 : Int32) d4_135 rfl (by decide) ?_
  refine Go.istore 138 #[.val (.ref a), .val (.int (3 : Int32)), .val (.ref f0), .val (.ref f1), .val (.ref f2), .val (.ref f3), .val (.int (0 : Int32)), .val (.int (0 : Int32)), .val (.int (3 : Int32)), .val (.int t3)] d4_136 rfl rfl ?_
  refine Go.iconst 139 (0 : Int32) d4_138 rfl (by decide) ?_
  refine Go.istore 141 #[.val (.ref a), .val (.int (3 : Int32)), .val (.ref f0), .val (.ref f1), .val (.ref f2), .val (.ref f3), .val (.int (0 : Int32)), .val (.int (0 : Int32)), .val (.int (0 : Int32)), .val (.int t3)] d4_139 rfl rfl ?_
  refine Go.iload 143 d4_141 rfl rfl ?_
  refine Go.iloadN 144 d4_143 rfl rfl ?_
  refine Go.icmpF 147 d4_144 rfl (show (0 : Int) < (3 : Int) from by decide) ?_
  refine Go.aloadN 148 d4_147 rfl rfl rfl ?_
  refine Go.getf 151 (hw _ (List.mem_of_getElem? (i := 33) rfl)) H0.1.2.2.1 d4_148 rfl ?_
  refine Go.iload 153 d4_151 rfl rfl ?_
  refine Go.iload 155 d4_153 rfl rfl ?_
  refine Go.iastore 156 H0.2.1 (i := 0) (by decide) (leB rfl) (by have := H0.2.2.2.2.2.2.2; omega) d4_155 rfl ?_
  intro ha0 Ka0 Aa0
  have Ha0 : Iv Z n0 ha0 a f3 p1 p2 p3 p4 p5 p6 [(0 : Int32), 0, 0, 0] [0, 0, 0, 0] colV cF ([] : List Nat) ([] : List Nat) ((rB cL 0 (tS (cI 0)) (tS (cI 0 + 1) - tS (cI 0))).length + ((rB cL 1 (tS (cI 1)) (tS (cI 1 + 1) - tS (cI 1))).length + (rB cL 2 (tS (cI 2)) (tS (cI 2 + 1) - tS (cI 2))).length)) ((rA cL 0 (tS (cI 0)) (tS (cI 0 + 1) - tS (cI 0))).length + ((rA cL 1 (tS (cI 1)) (tS (cI 1 + 1) - tS (cI 1))).length + (rA cL 2 (tS (cI 2)) (tS (cI 2 + 1) - tS (cI 2))).length)) := H0.set_bs Ka0 Aa0
  have Ca0 := Cy6.keep Ka0 (Or.inr (by have := H0.2.2.2.2.2.2.2; omega))
  refine Go.aloadN 157 d4_156 rfl rfl rfl ?_
  refine Go.getf 160 (hw _ (List.mem_of_getElem? (i := 35) rfl)) Ha0.1.2.2.2.1 d4_157 rfl ?_
  refine Go.iload 162 d4_160 rfl rfl ?_
  refine Go.iload 164 d4_162 rfl rfl ?_
  refine Go.iastore 165 Ha0.2.2.1 (i := 0) (by decide) (leB rfl) (by have := H0.2.2.2.2.2.2.2; omega) d4_164 rfl ?_
  intro hx0 Kx0 Ax0
  have Hx0 : Iv Z n0 hx0 a f3 p1 p2 p3 p4 p5 p6 [(0 : Int32), 0, 0, 0] [(0 : Int32), 0, 0, 0] colV cF ([] : List Nat) ([] : List Nat) ((rB cL 0 (tS (cI 0)) (tS (cI 0 + 1) - tS (cI 0))).length + ((rB cL 1 (tS (cI 1)) (tS (cI 1 + 1) - tS (cI 1))).length + (rB cL 2 (tS (cI 2)) (tS (cI 2 + 1) - tS (cI 2))).length)) ((rA cL 0 (tS (cI 0)) (tS (cI 0 + 1) - tS (cI 0))).length + ((rA cL 1 (tS (cI 1)) (tS (cI 1 + 1) - tS (cI 1))).length + (rA cL 2 (tS (cI 2)) (tS (cI 2 + 1) - tS (cI 2))).length)) := Ha0.set_as_ Kx0 Ax0
  have Cz0 := Ca0.keep Kx0 (Or.inr (by have := H0.2.2.2.2.2.2.2; omega))
  refine Go.aloadN 166 d4_165 rfl rfl rfl ?_
  refine Go.iload 168 d4_166 rfl rfl ?_
  refine use0 l Z a0 hw 173 [] Cz0.2.2.2.2.1 Cz0.2.2.2.2.2.1 (k := 0) (by decide) u0 v0 (by omega) x0 Cz0.1 rfl (leB rfl) (leB rfl) hcl hsl d4_168 rfl ?_
  refine Go.istore 175 #[.val (.ref a), .val (.int (3 : Int32)), .val (.ref f0), .val (.ref f1), .val (.ref f2), .val (.ref f3), .val (.int (0 : Int32)), .val (.int (0 : Int32)), .val (.int (0 : Int32)), .val (.int sv0)] d4_173 rfl rfl ?_
  refine loop2 l Z a0 hw D (mB := (rB cL 1 (tS (cI 1)) (tS (cI 1 + 1) - tS (cI 1))).length + (rB cL 2 (tS (cI 2)) (tS (cI 2 + 1) - tS (cI 2))).length) (mA := (rA cL 1 (tS (cI 1)) (tS (cI 1 + 1) - tS (cI 1))).length + (rA cL 2 (tS (cI 2)) (tS (cI 2 + 1) - tS (cI 2))).length) hcl hsl (i := 0) (by decide) (by decide) (tS (cI 0 + 1) - tS (cI 0)) (tS (cI 0)) _ _ _ _ ([] : List Nat) ([] : List Nat) (by omega) (by decide) (by decide) y0 Cz0 Hx0 ?_
  intro hy1 bb1 cb1 tb1 hbb1 hcb1 Cy_1 Hy1
  refine Go.iinc 284 #[.val (.ref a), .val (.int (3 : Int32)), .val (.ref f0), .val (.ref f1), .val (.ref f2), .val (.ref f3), .val (.int bb1), .val (.int cb1), .val (.int (1 : Int32)), .val (.int tb1)] (1 : Int32) d4_281 rfl rfl (by decide) rfl ?_
  refine Go.goto 141 d4_284 (by decide) (by decide) ?_
  refine Go.iload 143 d4_141 rfl rfl ?_
  refine Go.iloadN 144 d4_143 rfl rfl ?_
  refine Go.icmpF 147 d4_144 rfl (show (1 : Int) < (3 : Int) from by decide) ?_
  refine Go.aloadN 148 d4_147 rfl rfl rfl ?_
  refine Go.getf 151 (hw _ (List.mem_of_getElem? (i := 33) rfl)) Hy1.1.2.2.1 d4_148 rfl ?_
  refine Go.iload 153 d4_151 rfl rfl ?_
  refine Go.iload 155 d4_153 rfl rfl ?_
  refine Go.iastore 156 Hy1.2.1 (i := 1) (by decide) (leB rfl) (by have := Hy1.2.2.2.2.2.2.2; omega) d4_155 rfl ?_
  intro ha1 Ka1 Aa1
  have Ha1 : Iv Z n0 ha1 a f3 p1 p2 p3 p4 p5 p6 [(0 : Int32), bb1, 0, 0] [(0 : Int32), 0, 0, 0] colV cF (([] : List Nat) ++ (rB cL 0 (tS (cI 0)) (tS (cI 0 + 1) - tS (cI 0)))) (([] : List Nat) ++ (rA cL 0 (tS (cI 0)) (tS (cI 0 + 1) - tS (cI 0)))) ((rB cL 1 (tS (cI 1)) (tS (cI 1 + 1) - tS (cI 1))).length + (rB cL 2 (tS (cI 2)) (tS (cI 2 + 1) - tS (cI 2))).length) ((rA cL 1 (tS (cI 1)) (tS (cI 1 + 1) - tS (cI 1))).length + (rA cL 2 (tS (cI 2)) (tS (cI 2 + 1) - tS (cI 2))).length) := Hy1.set_bs Ka1 Aa1
  have Ca1 := Cy_1.keep Ka1 (Or.inr (by have := Hy1.2.2.2.2.2.2.2; omega))
  refine Go.aloadN 157 d4_156 rfl rfl rfl ?_
  refine Go.getf 160 (hw _ (List.mem_of_getElem? (i := 35) rfl)) Ha1.1.2.2.2.1 d4_157 rfl ?_
  refine Go.iload 162 d4_160 rfl rfl ?_
  refine Go.iload 164 d4_162 rfl rfl ?_
  refine Go.iastore 165 Ha1.2.2.1 (i := 1) (by decide) (leB rfl) (by have := Hy1.2.2.2.2.2.2.2; omega) d4_164 rfl ?_
  intro hx1 Kx1 Ax1
  have Hx1 : Iv Z n0 hx1 a f3 p1 p2 p3 p4 p5 p6 [(0 : Int32), bb1, 0, 0] [(0 : Int32), cb1, 0, 0] colV cF (([] : List Nat) ++ (rB cL 0 (tS (cI 0)) (tS (cI 0 + 1) - tS (cI 0)))) (([] : List Nat) ++ (rA cL 0 (tS (cI 0)) (tS (cI 0 + 1) - tS (cI 0)))) ((rB cL 1 (tS (cI 1)) (tS (cI 1 + 1) - tS (cI 1))).length + (rB cL 2 (tS (cI 2)) (tS (cI 2 + 1) - tS (cI 2))).length) ((rA cL 1 (tS (cI 1)) (tS (cI 1 + 1) - tS (cI 1))).length + (rA cL 2 (tS (cI 2)) (tS (cI 2 + 1) - tS (cI 2))).length) := Ha1.set_as_ Kx1 Ax1
  have Cz1 := Ca1.keep Kx1 (Or.inr (by have := Hy1.2.2.2.2.2.2.2; omega))
  refine Go.aloadN 166 d4_165 rfl rfl rfl ?_
  refine Go.iload 168 d4_166 rfl rfl ?_
  refine use0 l Z a0 hw 173 [] Cz1.2.2.2.2.1 Cz1.2.2.2.2.2.1 (k := 1) (by decide) u1 v1 (by omega) x1 Cz1.1 rfl (leB rfl) (leB rfl) hcl hsl d4_168 rfl ?_
  refine Go.istore 175 #[.val (.ref a), .val (.int (3 : Int32)), .val (.ref f0), .val (.ref f1), .val (.ref f2), .val (.ref f3), .val (.int bb1), .val (.int cb1), .val (.int (1 : Int32)), .val (.int sv1)] d4_173 rfl rfl ?_
  refine loop2 l Z a0 hw D (mB := (rB cL 2 (tS (cI 2)) (tS (cI 2 + 1) - tS (cI 2))).length) (mA := (rA cL 2 (tS (cI 2)) (tS (cI 2 + 1) - tS (cI 2))).length) hcl hsl (i := 1) (by decide) (by decide) (tS (cI 1 + 1) - tS (cI 1)) (tS (cI 1)) _ _ _ _ (([] : List Nat) ++ (rB cL 0 (tS (cI 0)) (tS (cI 0 + 1) - tS (cI 0)))) (([] : List Nat) ++ (rA cL 0 (tS (cI 0)) (tS (cI 0 + 1) - tS (cI 0)))) (by omega) hbb1 hcb1 y1 Cz1 Hx1 ?_
  intro hy2 bb2 cb2 tb2 hbb2 hcb2 Cy_2 Hy2
  refine Go.iinc 284 #[.val (.ref a), .val (.int (3 : Int32)), .val (.ref f0), .val (.ref f1), .val (.ref f2), .val (.ref f3), .val (.int bb2), .val (.int cb2), .val (.int (2 : Int32)), .val (.int tb2)] (2 : Int32) d4_281 rfl rfl (by decide) rfl ?_
  refine Go.goto 141 d4_284 (by decide) (by decide) ?_
  refine Go.iload 143 d4_141 rfl rfl ?_
  refine Go.iloadN 144 d4_143 rfl rfl ?_
  refine Go.icmpF 147 d4_144 rfl (show (2 : Int) < (3 : Int) from by decide) ?_
  refine Go.aloadN 148 d4_147 rfl rfl rfl ?_
  refine Go.getf 151 (hw _ (List.mem_of_getElem? (i := 33) rfl)) Hy2.1.2.2.1 d4_148 rfl ?_
  refine Go.iload 153 d4_151 rfl rfl ?_
  refine Go.iload 155 d4_153 rfl rfl ?_
  refine Go.iastore 156 Hy2.2.1 (i := 2) (by decide) (leB rfl) (by have := Hy2.2.2.2.2.2.2.2; omega) d4_155 rfl ?_
  intro ha2 Ka2 Aa2
  have Ha2 : Iv Z n0 ha2 a f3 p1 p2 p3 p4 p5 p6 [(0 : Int32), bb1, bb2, 0] [(0 : Int32), cb1, 0, 0] colV cF ((([] : List Nat) ++ (rB cL 0 (tS (cI 0)) (tS (cI 0 + 1) - tS (cI 0)))) ++ (rB cL 1 (tS (cI 1)) (tS (cI 1 + 1) - tS (cI 1)))) ((([] : List Nat) ++ (rA cL 0 (tS (cI 0)) (tS (cI 0 + 1) - tS (cI 0)))) ++ (rA cL 1 (tS (cI 1)) (tS (cI 1 + 1) - tS (cI 1)))) ((rB cL 2 (tS (cI 2)) (tS (cI 2 + 1) - tS (cI 2))).length) ((rA cL 2 (tS (cI 2)) (tS (cI 2 + 1) - tS (cI 2))).length) := Hy2.set_bs Ka2 Aa2
  have Ca2 := Cy_2.keep Ka2 (Or.inr (by have := Hy2.2.2.2.2.2.2.2; omega))
  refine Go.aloadN 157 d4_156 rfl rfl rfl ?_
  refine Go.getf 160 (hw _ (List.mem_of_getElem? (i := 35) rfl)) Ha2.1.2.2.2.1 d4_157 rfl ?_
  refine Go.iload 162 d4_160 rfl rfl ?_
  refine Go.iload 164 d4_162 rfl rfl ?_
  refine Go.iastore 165 Ha2.2.2.1 (i := 2) (by decide) (leB rfl) (by have := Hy2.2.2.2.2.2.2.2; omega) d4_164 rfl ?_
  intro hx2 Kx2 Ax2
  have Hx2 : Iv Z n0 hx2 a f3 p1 p2 p3 p4 p5 p6 [(0 : Int32), bb1, bb2, 0] [(0 : Int32), cb1, cb2, 0] colV cF ((([] : List Nat) ++ (rB cL 0 (tS (cI 0)) (tS (cI 0 + 1) - tS (cI 0)))) ++ (rB cL 1 (tS (cI 1)) (tS (cI 1 + 1) - tS (cI 1)))) ((([] : List Nat) ++ (rA cL 0 (tS (cI 0)) (tS (cI 0 + 1) - tS (cI 0)))) ++ (rA cL 1 (tS (cI 1)) (tS (cI 1 + 1) - tS (cI 1)))) ((rB cL 2 (tS (cI 2)) (tS (cI 2 + 1) - tS (cI 2))).length) ((rA cL 2 (tS (cI 2)) (tS (cI 2 + 1) - tS (cI 2))).length) := Ha2.set_as_ Kx2 Ax2
  have Cz2 := Ca2.keep Kx2 (Or.inr (by have := Hy2.2.2.2.2.2.2.2; omega))
  refine Go.aloadN 166 d4_165 rfl rfl rfl ?_
  refine Go.iload 168 d4_166 rfl rfl ?_
  refine use0 l Z a0 hw 173 [] Cz2.2.2.2.2.1 Cz2.2.2.2.2.2.1 (k := 2) (by decide) u2 v2 (by omega) x2 Cz2.1 rfl (leB rfl) (leB rfl) hcl hsl d4_168 rfl ?_
  refine Go.istore 175 #[.val (.ref a), .val (.int (3 : Int32)), .val (.ref f0), .val (.ref f1), .val (.ref f2), .val (.ref f3), .val (.int bb2), .val (.int cb2), .val (.int (2 : Int32)), .val (.int sv2)] d4_173 rfl rfl ?_
  refine loop2 l Z a0 hw D (mB := 0) (mA := 0) hcl hsl (i := 2) (by decide) (by decide) (tS (cI 2 + 1) - tS (cI 2)) (tS (cI 2)) _ _ _ _ ((([] : List Nat) ++ (rB cL 0 (tS (cI 0)) (tS (cI 0 + 1) - tS (cI 0)))) ++ (rB cL 1 (tS (cI 1)) (tS (cI 1 + 1) - tS (cI 1)))) ((([] : List Nat) ++ (rA cL 0 (tS (cI 0)) (tS (cI 0 + 1) - tS (cI 0)))) ++ (rA cL 1 (tS (cI 1)) (tS (cI 1 + 1) - tS (cI 1)))) (by omega) hbb2 hcb2 y2 Cz2 Hx2 ?_
  intro hy3 bb3 cb3 tb3 hbb3 hcb3 Cy_3 Hy3
  refine Go.iinc 284 #[.val (.ref a), .val (.int (3 : Int32)), .val (.ref f0), .val (.ref f1), .val (.ref f2), .val (.ref f3), .val (.int bb3), .val (.int cb3), .val (.int (3 : Int32)), .val (.int tb3)] (3 : Int32) d4_281 rfl rfl (by decide) rfl ?_
  refine Go.goto 141 d4_284 (by decide) (by decide) ?_
  refine Go.iload 143 d4_141 rfl rfl ?_
  refine Go.iloadN 144 d4_143 rfl rfl ?_
  refine Go.icmpT 287 d4_144 (by decide) (by decide) (show (3 : Int) ≤ (3 : Int) from by decide) ?_
  refine Go.aloadN 288 d4_287 rfl rfl rfl ?_
  refine Go.getf 291 (hw _ (List.mem_of_getElem? (i := 33) rfl)) Hy3.1.2.2.1 d4_288 rfl ?_
  refine Go.iloadN 292 d4_291 rfl rfl ?_
  refine Go.iload 294 d4_292 rfl rfl ?_
  refine Go.iastore 295 Hy3.2.1 (i := 3) (by decide) (leB rfl) (by have := Hy3.2.2.2.2.2.2.2; omega) d4_294 rfl ?_
  intro ha3 Ka3 Aa3
  have Ha3 : Iv Z n0 ha3 a f3 p1 p2 p3 p4 p5 p6 [(0 : Int32), bb1, bb2, bb3] [(0 : Int32), cb1, cb2, 0] colV cF (((([] : List Nat) ++ (rB cL 0 (tS (cI 0)) (tS (cI 0 + 1) - tS (cI 0)))) ++ (rB cL 1 (tS (cI 1)) (tS (cI 1 + 1) - tS (cI 1)))) ++ (rB cL 2 (tS (cI 2)) (tS (cI 2 + 1) - tS (cI 2)))) (((([] : List Nat) ++ (rA cL 0 (tS (cI 0)) (tS (cI 0 + 1) - tS (cI 0)))) ++ (rA cL 1 (tS (cI 1)) (tS (cI 1 + 1) - tS (cI 1)))) ++ (rA cL 2 (tS (cI 2)) (tS (cI 2 + 1) - tS (cI 2)))) (0) (0) := Hy3.set_bs Ka3 Aa3
  have Ca3 := Cy_3.keep Ka3 (Or.inr (by have := Hy3.2.2.2.2.2.2.2; omega))
  refine Go.aloadN 296 d4_295 rfl rfl rfl ?_
  refine Go.getf 299 (hw _ (List.mem_of_getElem? (i := 35) rfl)) Ha3.1.2.2.2.1 d4_296 rfl ?_
  refine Go.iloadN 300 d4_299 rfl rfl ?_
  refine Go.iload 302 d4_300 rfl rfl ?_
  refine Go.iastore 303 Ha3.2.2.1 (i := 3) (by decide) (leB rfl) (by have := Hy3.2.2.2.2.2.2.2; omega) d4_302 rfl ?_
  intro hx3 Kx3 Ax3
  have Hx3 : Iv Z n0 hx3 a f3 p1 p2 p3 p4 p5 p6 [(0 : Int32), bb1, bb2, bb3] [(0 : Int32), cb1, cb2, cb3] colV cF (((([] : List Nat) ++ (rB cL 0 (tS (cI 0)) (tS (cI 0 + 1) - tS (cI 0)))) ++ (rB cL 1 (tS (cI 1)) (tS (cI 1 + 1) - tS (cI 1)))) ++ (rB cL 2 (tS (cI 2)) (tS (cI 2 + 1) - tS (cI 2)))) (((([] : List Nat) ++ (rA cL 0 (tS (cI 0)) (tS (cI 0 + 1) - tS (cI 0)))) ++ (rA cL 1 (tS (cI 1)) (tS (cI 1 + 1) - tS (cI 1)))) ++ (rA cL 2 (tS (cI 2)) (tS (cI 2 + 1) - tS (cI 2)))) (0) (0) := Ha3.set_as_ Kx3 Ax3
  have Cz3 := Ca3.keep Kx3 (Or.inr (by have := Hy3.2.2.2.2.2.2.2; omega))
  exact Go.ret d4_303 rfl (leB rfl) (leB rfl) ⟨rfl, ⟨p1, p2, p3, p4, p5, p6, 0, bb1, bb2, bb3, 0, cb1, cb2, cb3, ⟨by decide, by simpa using hbb1, by simpa using hbb2, by simpa using hbb3⟩, ⟨by decide, by simpa using hcb1, by simpa using hcb2, by simpa using hcb3⟩, by simpa using Hx3⟩, Cz3⟩
set_option maxRecDepth 65536 in
set_option maxHeartbeats 40000000 in
theorem init5_go (l : Launch) (Z : State) (a0 : Array Value) (hw : ∀ d ∈ tables_1, d.before a0 Z = true) {n0 : Nat} {a ts ch co cf : Nat} {tl cvs cols : List Int32} {cfs : List UInt64} {tS cI : Nat → Nat} {colV : Nat → Int32} {cL : Nat → Nat} {cF : Nat → UInt64} (D : Dt tl cvs cols cfs tS cI colV cL cF) {h : Heap} (B0 : EN Z h a 0 .null .null .null .null .null .null) (A1 : ArI Z h ts tl) (A2 : ArI Z h ch cvs) (A3 : ArI Z h co cols) (A4 : ArD Z h cf cfs) (o : ts < a ∧ ch < a ∧ co < a ∧ cf < a) (na : n0 ≤ a) :
    Go l Z ({ frames := 3, cells := 10, slots := 50, locals := 3080 } : Room) ((⟨"com/example/orbifold/orbifold/solvers/Bicgstab$Equations", "<init>", "(I[I[I[D[I)V"⟩ : MethodName), prog_170_method_1_code, 6, none) n0 (fun v h' => v = none ∧ ∃ f3, (∃ p1 p2 p3 p4 p5 p6 b0 b1 b2 b3 c0 c1 c2 c3, St4 b0 b1 b2 b3 (rB cL 0 (tS (cI 0)) (tS (cI 0 + 1) - tS (cI 0))) (rB cL 1 (tS (cI 1)) (tS (cI 1 + 1) - tS (cI 1))) (rB cL 2 (tS (cI 2)) (tS (cI 2 + 1) - tS (cI 2))) ∧ St4 c0 c1 c2 c3 (rA cL 0 (tS (cI 0)) (tS (cI 0 + 1) - tS (cI 0))) (rA cL 1 (tS (cI 1)) (tS (cI 1 + 1) - tS (cI 1))) (rA cL 2 (tS (cI 2)) (tS (cI 2 + 1) - tS (cI 2))) ∧ Iv Z n0 h' a f3 p1 p2 p3 p4 p5 p6 [b0, b1, b2, b3] [c0, c1, c2, c3] colV cF ((rB cL 0 (tS (cI 0)) (tS (cI 0 + 1) - tS (cI 0))) ++ (rB cL 1 (tS (cI 1)) (tS (cI 1 + 1) - tS (cI 1))) ++ (rB cL 2 (tS (cI 2)) (tS (cI 2 + 1) - tS (cI 2)))) ((rA cL 0 (tS (cI 0)) (tS (cI 0 + 1) - tS (cI 0))) ++ (rA cL 1 (tS (cI 1)) (tS (cI 1 + 1) - tS (cI 1))) ++ (rA cL 2 (tS (cI 2)) (tS (cI 2 + 1) - tS (cI 2)))) 0 0) ∧ ArI Z h' ts tl ∧ ArI Z h' ch cvs ∧ ArI Z h' co cols ∧ ArD Z h' cf cfs) h 0 0 0 #[.val (.ref a), .val (.int (3 : Int32)), .val (.ref ts), .val (.ref co), .val (.ref cf), .val (.ref ch)] [] := by
  have oT := A1.lt
  have oC := A2.lt
  have oO := A3.lt
  have oF := A4.lt
  refine Go.aloadN 1 d3_0 rfl rfl rfl ?_
  refine Go.iloadN 2 d3_1 rfl rfl ?_
  refine Go.aloadN 3 d3_2 rfl rfl rfl ?_
  refine Go.aload 5 d3_3 rfl rfl rfl ?_
  refine Go.site 10 [(.ref ts), (.ref ch)] [(.int (3 : Int32)), (.ref a)] (hw _ (List.mem_of_getElem? (i := 17) rfl)) (by decide) cap0_0 (hw _ (List.mem_of_getElem? (i := 20) rfl)) rfl rfl (by intro i t v q1 q2; match i, q1, q2 with | 0, q1, q2 => (cases q1; cases q2; exact ⟨rfl, rfl⟩) | 1, q1, q2 => (cases q1; cases q2; exact ⟨rfl, rfl⟩)) rfl (leB rfl) (leB rfl) (leB rfl) d3_5 rfl ?_
  intro h0 f0 E0 e0 n0 F0_0
  have A1_0 := A1.ext E0
  have A2_0 := A2.ext E0
  have A3_0 := A3.ext E0
  have A4_0 := A4.ext E0
  have B1 := B0.ext E0
  have o0 : a < f0 := Nat.lt_of_lt_of_le (B0.1).lt e0
  refine Go.aloadN 11 d3_10 rfl rfl rfl ?_
  refine Go.aload 13 d3_11 rfl rfl rfl ?_
  refine Go.site 18 [(.ref ts), (.ref ch)] [(.ref f0), (.int (3 : Int32)), (.ref a)] (hw _ (List.mem_of_getElem? (i := 21) rfl)) (by decide) cap1_0 (hw _ (List.mem_of_getElem? (i := 20) rfl)) rfl rfl (by intro i t v q1 q2; match i, q1, q2 with | 0, q1, q2 => (cases q1; cases q2; exact ⟨rfl, rfl⟩) | 1, q1, q2 => (cases q1; cases q2; exact ⟨rfl, rfl⟩)) rfl (leB rfl) (leB rfl) (leB rfl) d3_13 rfl ?_
  intro h1 f1 E1 e1 n1 F1_1
  have A1_1 := A1_0.ext E1
  have A2_1 := A2_0.ext E1
  have A3_1 := A3_0.ext E1
  have A4_1 := A4_0.ext E1
  have B2 := B1.ext E1
  have F0_1 := F0_0.ext E1
  have o1 : f0 < f1 := Nat.lt_of_lt_of_le (F0_0).lt e1
  refine Go.aloadN 19 d3_18 rfl rfl rfl ?_
  refine Go.site 24 [(.ref co)] [(.ref f1), (.ref f0), (.int (3 : Int32)), (.ref a)] (hw _ (List.mem_of_getElem? (i := 22) rfl)) (by decide) cap2_0 (hw _ (List.mem_of_getElem? (i := 20) rfl)) rfl rfl (by intro i t v q1 q2; match i, q1, q2 with | 0, q1, q2 => (cases q1; cases q2; exact ⟨rfl, rfl⟩)) rfl (leB rfl) (leB rfl) (leB rfl) d3_19 rfl ?_
  intro h2 f2 E2 e2 n2 F2_2
  have A1_2 := A1_1.ext E2
  have A2_2 := A2_1.ext E2
  have A3_2 := A3_1.ext E2
  have A4_2 := A4_1.ext E2
  have B3 := B2.ext E2
  have F0_2 := F0_1.ext E2
  have F1_2 := F1_1.ext E2
  have o2 : f1 < f2 := Nat.lt_of_lt_of_le (F1_1).lt e2
  refine Go.aload 26 d3_24 rfl rfl rfl ?_
  refine Go.site 31 [(.ref cf)] [(.ref f2), (.ref f1), (.ref f0), (.int (3 : Int32)), (.ref a)] (hw _ (List.mem_of_getElem? (i := 23) rfl)) (by decide) cap3_0 (hw _ (List.mem_of_getElem? (i := 20) rfl)) rfl rfl (by intro i t v q1 q2; match i, q1, q2 with | 0, q1, q2 => (cases q1; cases q2; exact ⟨rfl, rfl⟩)) rfl (leB rfl) (leB rfl) (leB rfl) d3_26 rfl ?_
  intro h3 f3 E3 e3 n3 F3_3
  have A1_3 := A1_2.ext E3
  have A2_3 := A2_2.ext E3
  have A3_3 := A3_2.ext E3
  have A4_3 := A4_2.ext E3
  have B4 := B3.ext E3
  have F0_3 := F0_2.ext E3
  have F1_3 := F1_2.ext E3
  have F2_3 := F2_2.ext E3
  have o3 : f2 < f3 := Nat.lt_of_lt_of_le (F2_2).lt e3
  refine Go.callN 34 [(.int (3 : Int32)), (.ref f0), (.ref f1), (.ref f2), (.ref f3)] [] rfl (hw _ (List.mem_of_getElem? (i := 25) rfl)) (hw _ (List.mem_of_getElem? (i := 26) rfl)) (hw _ (List.mem_of_getElem? (i := 27) rfl)) (hw _ (List.mem_of_getElem? (i := 13) rfl)) (by decide) pn_0 pd_11 rfl (ef_4_AIAAAA a (3 : Int32) f0 f1 f2 f3) (init2_go l Z a0 hw D B4 ⟨F0_3, F1_3, F2_3, F3_3, A1_3, A2_3, A3_3, A4_3, o.1, o.2.1, o.2.2.1, o.2.2.2, o0, o1, o2, o3⟩ na) rfl rfl (leB rfl) (leB rfl) (leB rfl) (leB rfl) d3_31 rfl ?_
  rintro _ h9 ⟨rfl, hp, hC⟩
  exact Go.ret d3_34 rfl (leB rfl) (leB rfl) ⟨rfl, f3, hp, hC.2.2.2.2.1, hC.2.2.2.2.2.1, hC.2.2.2.2.2.2.1, hC.2.2.2.2.2.2.2.1⟩
theorem and_natL (n : Int64) (k : Nat) (hk : k < 9223372036854775808) : ∃ j : Nat, j ≤ k ∧ (n &&& Int64.ofNat k).toInt = (j : Int) := by
  have h : (n &&& Int64.ofNat k).toInt = ((n.toBitVec &&& BitVec.ofNat 64 k).toNat : Int) := by
    show (n.toBitVec &&& BitVec.ofNat 64 k).toInt = _
    rw [BitVec.toInt_eq_toNat_of_lt]
    have h2 : (n.toBitVec &&& BitVec.ofNat 64 k).toNat ≤ (BitVec.ofNat 64 k).toNat := by rw [BitVec.toNat_and]; exact Nat.and_le_right
    have h3 : (BitVec.ofNat 64 k).toNat = k := by rw [BitVec.toNat_ofNat]; omega
    omega
  refine ⟨_, ?_, h⟩
  have h3 : (BitVec.ofNat 64 k).toNat = k := by rw [BitVec.toNat_ofNat]; omega
  rw [BitVec.toNat_and]
  exact Nat.le_trans Nat.and_le_right (Nat.le_of_eq h3)
theorem andL3 (n : Int64) : n &&& 3 = 0 ∨ n &&& 3 = 1 ∨ n &&& 3 = 2 ∨ n &&& 3 = 3 := by
  obtain ⟨j, h1, h2⟩ := and_natL n 3 (by decide)
  have h2 : (n &&& 3).toInt = (j : Int) := h2
  have : j = 0 ∨ j = 1 ∨ j = 2 ∨ j = 3 := by omega
  rcases this with rfl | rfl | rfl | rfl
  · exact Or.inl (Int64.toInt_inj.mp h2)
  · exact Or.inr (Or.inl (Int64.toInt_inj.mp h2))
  · exact Or.inr (Or.inr (Or.inl (Int64.toInt_inj.mp h2)))
  · exact Or.inr (Or.inr (Or.inr (Int64.toInt_inj.mp h2)))
/-- a two-bit field, as a count up to 3 -/
theorem two_bits (n : Int64) : ∃ j : Nat, j ≤ 3 ∧ ((n &&& 3).toInt32).toInt = (j : Int) := by
  rcases andL3 n with q | q | q | q <;> rw [q]
  · exact ⟨0, by decide, by decide⟩
  · exact ⟨1, by decide, by decide⟩
  · exact ⟨2, by decide, by decide⟩
  · exact ⟨3, by decide, by decide⟩
/-- .. and modulo 3 -/
theorem two_mod (n : Int64) : ∃ j : Nat, j < 3 ∧ ((n &&& 3).toInt32 % 3).toInt = (j : Int) := by
  rcases andL3 n with q | q | q | q <;> rw [q]
  · exact ⟨0, by decide, by decide⟩
  · exact ⟨1, by decide, by decide⟩
  · exact ⟨2, by decide, by decide⟩
  · exact ⟨0, by decide, by decide⟩
theorem ofn {x : Int32} {t : Nat} (h : x.toInt = (t : Int)) (ht : t < 1000) : x = Int32.ofNat t := by
  apply Int32.toInt_inj.mp
  rw [h, Int32.toInt_ofNat_of_lt (by omega)]
theorem mid {α β : Type} (f : α → β) (z : β) (X r : List α) (t : α) : ((X ++ (t :: r)).map f ++ List.replicate 0 z)[X.length]? = some (f t) := by
  have e : (X ++ (t :: r)).map f ++ List.replicate 0 z = X.map f ++ (f t :: r.map f) := by simp
  rw [e, List.getElem?_append_right (by simp)]
  simp
def tSx (j0 j1 j2 : Nat) : Nat → Nat
  | 0 => 0
  | 1 => j0
  | 2 => j0 + j1
  | _ => j0 + j1 + j2
def pick {α : Type} (x0 x1 x2 : α) : Nat → α
  | 0 => x0
  | 1 => x1
  | _ => x2
theorem Iv.off {Z : State} {n0 : Nat} {h h' : Heap} {a f3 p1 p2 p3 p4 p5 p6 : Nat} {bs as_ : List Int32} {colV : Nat → Int32} {cF : Nat → UInt64} {XB XA : List Nat} {mB mA : Nat} {p : Nat} (H : Iv Z n0 h a f3 p1 p2 p3 p4 p5 p6 bs as_ colV cF XB XA mB mA) (K : Keep h h' [p]) (q : p6 < p) : Iv Z n0 h' a f3 p1 p2 p3 p4 p5 p6 bs as_ colV cF XB XA mB mA := by
  have o := H.2.2.2.2.2.2.2
  exact ⟨(H.1.keep K (ninN (by omega) nin0)), (H.2.1.keep K (ninN (by omega) nin0)), (H.2.2.1.keep K (ninN (by omega) nin0)), (H.2.2.2.1.keep K (ninN (by omega) nin0)), (H.2.2.2.2.1.keep K (ninN (by omega) nin0)), (H.2.2.2.2.2.1.keep K (ninN (by omega) nin0)), (H.2.2.2.2.2.2.1.keep K (ninN (by omega) nin0)), o⟩
theorem Iv.ext {Z : State} {n0 : Nat} {h h' : Heap} {a f3 p1 p2 p3 p4 p5 p6 : Nat} {bs as_ : List Int32} {colV : Nat → Int32} {cF : Nat → UInt64} {XB XA : List Nat} {mB mA : Nat} (H : Iv Z n0 h a f3 p1 p2 p3 p4 p5 p6 bs as_ colV cF XB XA mB mA) (E : Ext h h') : Iv Z n0 h' a f3 p1 p2 p3 p4 p5 p6 bs as_ colV cF XB XA mB mA := ⟨(H.1.ext E), (H.2.1.ext E), (H.2.2.1.ext E), (H.2.2.2.1.ext E), (H.2.2.2.2.1.ext E), (H.2.2.2.2.2.1.ext E), (H.2.2.2.2.2.2.1.ext E), H.2.2.2.2.2.2.2⟩
def Q1 (v : Option Value) (_ : Heap) : Prop := v = some (.int 1)
def colx (sh : Int64) (k : Int32) : Int32 := ((XT.ushrL sh ((6 : Int32) * k)) &&& (3 : Int64)).toInt32 % (3 : Int32)
def cox (cs : Int64) (k : Int32) : Int32 := ((XT.ushrL cs (((6 : Int32) * k) + (2 : Int32))) &&& (15 : Int64)).toInt32 - (8 : Int32)
theorem cox_b (cs : Int64) (k : Int32) : -8 ≤ (cox cs k).toInt ∧ (cox cs k).toInt ≤ 7 := by
  obtain ⟨j, h1, h2⟩ := and_natL (XT.ushrL cs (((6 : Int32) * k) + (2 : Int32))) 15 (by decide)
  have h2 : (XT.ushrL cs (((6 : Int32) * k) + (2 : Int32)) &&& 15).toInt = (j : Int) := h2
  have h3 : ((XT.ushrL cs (((6 : Int32) * k) + (2 : Int32)) &&& 15).toInt32).toInt = (j : Int) := by
    rw [Int64.toInt_toInt32, h2]
    have : j = 0 ∨ j = 1 ∨ j = 2 ∨ j = 3 ∨ j = 4 ∨ j = 5 ∨ j = 6 ∨ j = 7 ∨ j = 8 ∨ j = 9 ∨ j = 10 ∨ j = 11 ∨ j = 12 ∨ j = 13 ∨ j = 14 ∨ j = 15 := by omega
    rcases this with rfl | rfl | rfl | rfl | rfl | rfl | rfl | rfl | rfl | rfl | rfl | rfl | rfl | rfl | rfl | rfl <;> decide
  have q : (cox cs k).toInt = (j : Int) - 8 := toInt_sub h3 (show (8 : Int32).toInt = 8 by decide) (by omega) (by omega) rfl
  omega
def cLx (sh : Int64) (t : Nat) : Nat := (colx sh (Int32.ofNat t)).toInt.toNat
theorem cLx_b (sh : Int64) (t : Nat) : (colx sh (Int32.ofNat t)).toInt = (cLx sh t : Int) ∧ cLx sh t < 3 := by
  obtain ⟨j, h1, h2⟩ := two_mod (XT.ushrL sh ((6 : Int32) * (Int32.ofNat t)))
  have h2 : (colx sh (Int32.ofNat t)).toInt = (j : Int) := h2
  unfold cLx; rw [h2]; simp [h1]
theorem prod_m {c v : Int} {M : Nat} (hc : -8 ≤ c ∧ c ≤ 7) (hv : -(M : Int) ≤ v ∧ v ≤ (M : Int)) : -(8 * (M : Int)) ≤ c * v ∧ c * v ≤ 8 * (M : Int) := by
  have h1 : c.natAbs ≤ 8 := by omega
  have h2 : v.natAbs ≤ M := by omega
  have h3 : (c * v).natAbs ≤ 8 * M := by rw [Int.natAbs_mul]; exact Nat.mul_le_mul h1 h2
  clear h1 h2
  omega
theorem prod_e {c v M : Int} (hc : -24 ≤ c ∧ c ≤ 24) (hv : -M ≤ v ∧ v ≤ M) : -(24 * M) ≤ c * v ∧ c * v ≤ 24 * M := by
  have h1 : c.natAbs ≤ 24 := by omega
  have h2 : v.natAbs ≤ M.toNat := by omega
  have h3 : (c * v).natAbs ≤ 24 * M.toNat := by rw [Int.natAbs_mul]; exact Nat.mul_le_mul h1 h2
  clear h1 h2
  omega
def sumL (cO Y : Nat → Int) (cL : Nat → Nat) : List Nat → Int
  | [] => 0
  | t :: r => cO t * Y (cL t) + sumL cO Y cL r
/-- .. but for the column i -/
def sumS (cO Y : Nat → Int) (cL : Nat → Nat) (i : Nat) : List Nat → Int
  | [] => 0
  | t :: r => (if cL t = i then 0 else cO t * Y (cL t)) + sumS cO Y cL i r
/-- a matrix entry: the coefficients of the terms with column j -/
def En (cO : Nat → Int) (cL : Nat → Nat) (j : Nat) : Nat → Nat → Int
  | _, 0 => 0
  | t, n + 1 => (if cL t = j then cO t else 0) + En cO cL j (t + 1) n
theorem En_s (cO : Nat → Int) (cL : Nat → Nat) (j t n : Nat) : En cO cL j t (n + 1) = (if cL t = j then cO t else 0) + En cO cL j (t + 1) n := rfl
theorem sumL_s (cO Y : Nat → Int) (cL : Nat → Nat) (t : Nat) (r : List Nat) : sumL cO Y cL (t :: r) = cO t * Y (cL t) + sumL cO Y cL r := rfl
theorem sumS_s (cO Y : Nat → Int) (cL : Nat → Nat) (i t : Nat) (r : List Nat) : sumS cO Y cL i (t :: r) = (if cL t = i then 0 else cO t * Y (cL t)) + sumS cO Y cL i r := rfl
theorem En_b {cO : Nat → Int} {cL : Nat → Nat} {j : Nat} (hco : ∀ t, -8 ≤ cO t ∧ cO t ≤ 7) : ∀ n t : Nat, -(8 * (n : Int)) ≤ En cO cL j t n ∧ En cO cL j t n ≤ 8 * (n : Int)
  | 0, _ => by simp [En]
  | n + 1, t => by
    have ih := En_b (cL := cL) (j := j) hco n (t + 1)
    have := hco t
    rw [En_s]
    by_cases q : cL t = j
    · rw [if_pos q]; omega
    · rw [if_neg q]; omega
theorem sB0 (cO Y : Nat → Int) (cL : Nat → Nat) : ∀ n t, sumL cO Y cL (rB cL 0 t n) = 0
  | 0, _ => rfl
  | n + 1, t => by
    have ih := sB0 cO Y cL n (t + 1)
    rw [show rB cL 0 t (n + 1) = rB cL 0 (t + 1) n from if_neg (Nat.not_lt_zero _)]; exact ih
theorem sB1 (cO Y : Nat → Int) (cL : Nat → Nat) : ∀ n t, sumL cO Y cL (rB cL 1 t n) = En cO cL 0 t n * Y 0
  | 0, _ => by simp [rB, sumL, En]
  | n + 1, t => by
    have ih := sB1 cO Y cL n (t + 1)
    rw [En_s]
    by_cases q : cL t < 1
    · have q0 : cL t = 0 := by omega
      rw [show rB cL 1 t (n + 1) = t :: rB cL 1 (t + 1) n from if_pos q, sumL_s, ih, if_pos q0, q0, Int.add_mul]
    · rw [show rB cL 1 t (n + 1) = rB cL 1 (t + 1) n from if_neg q, if_neg (show ¬ cL t = 0 by omega), Int.zero_add, ih]
theorem sB2 (cO Y : Nat → Int) (cL : Nat → Nat) : ∀ n t, sumL cO Y cL (rB cL 2 t n) = En cO cL 0 t n * Y 0 + En cO cL 1 t n * Y 1
  | 0, _ => by simp [rB, sumL, En]
  | n + 1, t => by
    have ih := sB2 cO Y cL n (t + 1)
    rw [En_s, En_s]
    by_cases q : cL t < 2
    · rw [show rB cL 2 t (n + 1) = t :: rB cL 2 (t + 1) n from if_pos q, sumL_s, ih]
      have : cL t = 0 ∨ cL t = 1 := by omega
      rcases this with q0 | q0
      · rw [if_pos q0, if_neg (show ¬ cL t = 1 by omega), q0, Int.zero_add, Int.add_mul]; omega
      · rw [if_neg (show ¬ cL t = 0 by omega), if_pos q0, q0, Int.zero_add, Int.add_mul]; omega
    · rw [show rB cL 2 t (n + 1) = rB cL 2 (t + 1) n from if_neg q, if_neg (show ¬ cL t = 0 by omega), if_neg (show ¬ cL t = 1 by omega), Int.zero_add, Int.zero_add, ih]
theorem sA0 (cO Y : Nat → Int) (cL : Nat → Nat) (h3 : ∀ t, cL t < 3) : ∀ n t, sumS cO Y cL 0 (rA cL 0 t n) = En cO cL 1 t n * Y 1 + En cO cL 2 t n * Y 2
  | 0, _ => by simp [rA, sumS, En]
  | n + 1, t => by
    have ih := sA0 cO Y cL h3 n (t + 1)
    rw [En_s, En_s, show rA cL 0 t (n + 1) = t :: rA cL 0 (t + 1) n from if_neg (Nat.not_lt_zero _), sumS_s, ih]
    have := h3 t
    have : cL t = 0 ∨ cL t = 1 ∨ cL t = 2 := by omega
    rcases this with q0 | q0 | q0
    · rw [if_pos q0, if_neg (show ¬ cL t = 1 by omega), if_neg (show ¬ cL t = 2 by omega), Int.zero_add, Int.zero_add, Int.zero_add]
    · rw [if_neg (show ¬ cL t = 0 by omega), if_pos q0, if_neg (show ¬ cL t = 2 by omega), q0, Int.zero_add, Int.add_mul]; omega
    · rw [if_neg (show ¬ cL t = 0 by omega), if_neg (show ¬ cL t = 1 by omega), if_pos q0, q0, Int.zero_add, Int.add_mul]; omega
theorem sA1 (cO Y : Nat → Int) (cL : Nat → Nat) (h3 : ∀ t, cL t < 3) : ∀ n t, sumS cO Y cL 1 (rA cL 1 t n) = En cO cL 2 t n * Y 2
  | 0, _ => by simp [rA, sumS, En]
  | n + 1, t => by
    have ih := sA1 cO Y cL h3 n (t + 1)
    have := h3 t
    rw [En_s]
    by_cases q : cL t < 1
    · rw [show rA cL 1 t (n + 1) = rA cL 1 (t + 1) n from if_pos q, if_neg (show ¬ cL t = 2 by omega), Int.zero_add, ih]
    · rw [show rA cL 1 t (n + 1) = t :: rA cL 1 (t + 1) n from if_neg q, sumS_s, ih]
      have : cL t = 1 ∨ cL t = 2 := by omega
      rcases this with q0 | q0
      · rw [if_pos q0, if_neg (show ¬ cL t = 2 by omega), Int.zero_add, Int.zero_add]
      · rw [if_neg (show ¬ cL t = 1 by omega), if_pos q0, q0, Int.add_mul]
theorem sA2 (cO Y : Nat → Int) (cL : Nat → Nat) (h3 : ∀ t, cL t < 3) : ∀ n t, sumS cO Y cL 2 (rA cL 2 t n) = 0
  | 0, _ => rfl
  | n + 1, t => by
    have ih := sA2 cO Y cL h3 n (t + 1)
    have := h3 t
    by_cases q : cL t < 2
    · rw [show rA cL 2 t (n + 1) = rA cL 2 (t + 1) n from if_pos q, ih]
    · rw [show rA cL 2 t (n + 1) = t :: rA cL 2 (t + 1) n from if_neg q, sumS_s, ih, if_pos (show cL t = 2 by omega), Int.add_zero]
set_option maxRecDepth 65536 in
set_option maxHeartbeats 40000000 in
theorem col_go (l : Launch) (Z : State) (a0 : Array Value) (hw : ∀ d ∈ tables_1, d.before a0 Z = true) {n0 : Nat} {h : Heap} (sh : Int64) (k : Int32) : Go l Z ({ frames := 0, cells := 0, slots := 0, locals := 0 } : Room) ((⟨"com/example/orbifold/orbifold/solvers/BicgstabPreconditionPinLaw", "col", "(JI)I"⟩ : MethodName), method_3_code, 3, some .int) n0 (fun v h' => v = some (.int (colx sh k)) ∧ h' = h) h 0 0 0 #[.val (.long sh), .second, .val (.int k)] [] := by
  refine Go.lloadN 1 d1_0 rfl rfl ?_
  refine Go.bipush 3 (6 : Int32) d1_1 rfl (by decide) ?_
  refine Go.iloadN 4 d1_3 rfl rfl ?_
  refine Go.imul 5 ((6 : Int32) * k) d1_4 rfl rfl ?_
  refine Go.lushr 6 (XT.ushrL sh ((6 : Int32) * k)) d1_5 rfl rfl ?_
  refine Go.ldc2J 9 (3 : Int64) (hw _ (List.mem_of_getElem? (i := 6) rfl)) d1_6 rfl ?_
  refine Go.land 10 ((XT.ushrL sh ((6 : Int32) * k)) &&& (3 : Int64)) d1_9 rfl rfl ?_
  refine Go.l2i 11 ((((XT.ushrL sh ((6 : Int32) * k)) &&& (3 : Int64))).toInt32) d1_10 rfl rfl ?_
  refine Go.iconst 12 (3 : Int32) d1_11 rfl (by decide) ?_
  refine Go.irem 13 (((((XT.ushrL sh ((6 : Int32) * k)) &&& (3 : Int64))).toInt32) % (3 : Int32)) d1_12 rfl (by decide) rfl ?_
  exact Go.iret d1_13 rfl (leB rfl) (leB rfl) ⟨rfl, rfl⟩
set_option maxRecDepth 65536 in
set_option maxHeartbeats 40000000 in
theorem coef_go (l : Launch) (Z : State) (a0 : Array Value) (hw : ∀ d ∈ tables_1, d.before a0 Z = true) {n0 : Nat} {h : Heap} (cs : Int64) (k : Int32) : Go l Z ({ frames := 0, cells := 0, slots := 0, locals := 0 } : Room) ((⟨"com/example/orbifold/orbifold/solvers/BicgstabPreconditionPinLaw", "coef", "(JI)D"⟩ : MethodName), method_4_code, 3, some .double) n0 (fun v h' => v = some (.double (FP.i2d (cox cs k))) ∧ h' = h) h 0 0 0 #[.val (.long cs), .second, .val (.int k)] [] := by
  refine Go.lloadN 1 d2_0 rfl rfl ?_
  refine Go.bipush 3 (6 : Int32) d2_1 rfl (by decide) ?_
  refine Go.iloadN 4 d2_3 rfl rfl ?_
  refine Go.imul 5 ((6 : Int32) * k) d2_4 rfl rfl ?_
  refine Go.iconst 6 (2 : Int32) d2_5 rfl (by decide) ?_
  refine Go.iadd 7 (((6 : Int32) * k) + (2 : Int32)) d2_6 rfl rfl ?_
  refine Go.lushr 8 (XT.ushrL cs (((6 : Int32) * k) + (2 : Int32))) d2_7 rfl rfl ?_
  refine Go.ldc2J 11 (15 : Int64) (hw _ (List.mem_of_getElem? (i := 10) rfl)) d2_8 rfl ?_
  refine Go.land 12 ((XT.ushrL cs (((6 : Int32) * k) + (2 : Int32))) &&& (15 : Int64)) d2_11 rfl rfl ?_
  refine Go.l2i 13 ((((XT.ushrL cs (((6 : Int32) * k) + (2 : Int32))) &&& (15 : Int64))).toInt32) d2_12 rfl rfl ?_
  refine Go.bipush 15 (8 : Int32) d2_13 rfl (by decide) ?_
  refine Go.isub 16 (((((XT.ushrL cs (((6 : Int32) * k) + (2 : Int32))) &&& (15 : Int64))).toInt32) - (8 : Int32)) d2_15 rfl rfl ?_
  refine Go.i2d 17 (FP.i2d (((((XT.ushrL cs (((6 : Int32) * k) + (2 : Int32))) &&& (15 : Int64))).toInt32) - (8 : Int32))) d2_16 rfl rfl ?_
  exact Go.dret d2_17 rfl (leB rfl) (leB rfl) ⟨rfl, rfl⟩
set_option maxRecDepth 65536 in
set_option maxHeartbeats 40000000 in
theorem entry_0 (l : Launch) (Z : State) (a0 : Array Value) (hw : ∀ d ∈ tables_1, d.before a0 Z = true) {n0 : Nat} {h : Heap} {co cf ts : Nat} {rv jv sv ev : Int32} {row j t : Nat} {tl cols : List Int32} {cfs : List UInt64} {colV : Nat → Int32} {cL : Nat → Nat} {cF : Nat → UInt64} {cO : Nat → Int} (A1 : ArI Z h ts tl) (A3 : ArI Z h co cols) (A4 : ArD Z h cf cfs) (hr : rv.toInt = (row : Int)) (hrow : row < 3) (hj : jv.toInt = (j : Int)) (hs : tl[row]? = some sv) (hs2 : sv.toInt = (t : Int)) (he : tl[row + 1]? = some ev) (he2 : ev.toInt = ((t + 0 : Nat) : Int)) (ht : t + 0 ≤ 9) (hcol : ∀ k, k < 9 → cols[k]? = some (colV k) ∧ (colV k).toInt = (cL k : Int) ∧ cL k < 3) (hcf : ∀ k, k < 9 → cfs[k]? = some (cF k) ∧ FP.Core.DInt (cO k) (cF k)) (hco : ∀ k, -8 ≤ cO k ∧ cO k ≤ 7) :
    Go l Z ({ frames := 0, cells := 0, slots := 0, locals := 0 } : Room) ((⟨"com/example/orbifold/orbifold/solvers/BicgstabPreconditionPinLaw", "entry", "([I[D[III)D"⟩ : MethodName), method_5_code, 9, some .double) n0 (fun v h' => ∃ r, v = some (.double r) ∧ h' = h ∧ FP.Core.DInt (En cO cL j t 0) r) h 0 0 0 #[.val (.ref co), .val (.ref cf), .val (.ref ts), .val (.int rv), .val (.int jv), .unset, .unset, .unset, .unset] [] := by
  have b0 := hco (t + 0)
  have b1 := hco (t + 1)
  have b2 := hco (t + 2)
  have s0 : (sv).toInt = ((t + 0 : Nat) : Int) := by simpa using hs2
  have s1 : ((sv + (1 : Int32))).toInt = ((t + 1 : Nat) : Int) := toInt_add (b := 1) hs2 (by decide) (by omega) (by omega) (by omega)
  have s2 : ((sv + (2 : Int32))).toInt = ((t + 2 : Nat) : Int) := toInt_add (b := 2) hs2 (by decide) (by omega) (by omega) (by omega)
  have bnd_0 : -100 ≤ (0 : Int) ∧ (0 : Int) ≤ 100 := by constructor <;> (repeat' split) <;> omega
  have bnd_1 : -100 ≤ (0 : Int) ∧ (0 : Int) ≤ 100 := by constructor <;> (repeat' split) <;> omega
  have bnd_2 : -100 ≤ (0 : Int) ∧ (0 : Int) ≤ 100 := by constructor <;> (repeat' split) <;> omega
  have g102 : ∀ s, FP.Core.DInt (0 : Int) s → Go l Z ({ frames := 0, cells := 0, slots := 0, locals := 0 } : Room) ((⟨"com/example/orbifold/orbifold/solvers/BicgstabPreconditionPinLaw", "entry", "([I[D[III)D"⟩ : MethodName), method_5_code, 9, some .double) n0 (fun v h' => ∃ r, v = some (.double r) ∧ h' = h ∧ FP.Core.DInt (En cO cL j t 0) r) h 0 0 102 #[.val (.ref co), .val (.ref cf), .val (.ref ts), .val (.int rv), .val (.int jv), .val (.double s), .second, .val (.int sv), .val (.int ev)] [] := by
    intro s hd
    refine Go.dload 104 d11_102 rfl rfl ?_
    exact Go.dret d11_104 rfl (leB rfl) (leB rfl) ⟨s, rfl, rfl, dint_cast hd (by show (0 : Int) = 0; rfl)⟩
  have g71 : ∀ s, FP.Core.DInt (0 : Int) s → Go l Z ({ frames := 0, cells := 0, slots := 0, locals := 0 } : Room) ((⟨"com/example/orbifold/orbifold/solvers/BicgstabPreconditionPinLaw", "entry", "([I[D[III)D"⟩ : MethodName), method_5_code, 9, some .double) n0 (fun v h' => ∃ r, v = some (.double r) ∧ h' = h ∧ FP.Core.DInt (En cO cL j t 0) r) h 0 0 71 #[.val (.ref co), .val (.ref cf), .val (.ref ts), .val (.int rv), .val (.int jv), .val (.double s), .second, .val (.int sv), .val (.int ev)] [] := by
    intro s hd
    refine Go.iload 73 d11_71 rfl rfl ?_
    refine Go.iconst 74 (2 : Int32) d11_73 rfl (by decide) ?_
    refine Go.iadd 75 (sv + (2 : Int32)) d11_74 rfl rfl ?_
    refine Go.iload 77 d11_75 rfl rfl ?_
    refine Go.icmpT 102 d11_77 (by decide) (by decide) (show (ev).toInt ≤ ((sv + (2 : Int32))).toInt from by omega) ?_
    exact g102 s hd
  have g40 : ∀ s, FP.Core.DInt (0 : Int) s → Go l Z ({ frames := 0, cells := 0, slots := 0, locals := 0 } : Room) ((⟨"com/example/orbifold/orbifold/solvers/BicgstabPreconditionPinLaw", "entry", "([I[D[III)D"⟩ : MethodName), method_5_code, 9, some .double) n0 (fun v h' => ∃ r, v = some (.double r) ∧ h' = h ∧ FP.Core.DInt (En cO cL j t 0) r) h 0 0 40 #[.val (.ref co), .val (.ref cf), .val (.ref ts), .val (.int rv), .val (.int jv), .val (.double s), .second, .val (.int sv), .val (.int ev)] [] := by
    intro s hd
    refine Go.iload 42 d11_40 rfl rfl ?_
    refine Go.iconst 43 (1 : Int32) d11_42 rfl (by decide) ?_
    refine Go.iadd 44 (sv + (1 : Int32)) d11_43 rfl rfl ?_
    refine Go.iload 46 d11_44 rfl rfl ?_
    refine Go.icmpT 71 d11_46 (by decide) (by decide) (show (ev).toInt ≤ ((sv + (1 : Int32))).toInt from by omega) ?_
    exact g71 s hd
  have g15 : ∀ s, FP.Core.DInt (0 : Int) s → Go l Z ({ frames := 0, cells := 0, slots := 0, locals := 0 } : Room) ((⟨"com/example/orbifold/orbifold/solvers/BicgstabPreconditionPinLaw", "entry", "([I[D[III)D"⟩ : MethodName), method_5_code, 9, some .double) n0 (fun v h' => ∃ r, v = some (.double r) ∧ h' = h ∧ FP.Core.DInt (En cO cL j t 0) r) h 0 0 15 #[.val (.ref co), .val (.ref cf), .val (.ref ts), .val (.int rv), .val (.int jv), .val (.double s), .second, .val (.int sv), .val (.int ev)] [] := by
    intro s hd
    refine Go.iload 17 d11_15 rfl rfl ?_
    refine Go.iload 19 d11_17 rfl rfl ?_
    refine Go.icmpT 40 d11_19 (by decide) (by decide) (show (ev).toInt ≤ (sv).toInt from by omega) ?_
    exact g40 s hd
  refine Go.dconst0 1 (0 : UInt64) d11_0 rfl rfl ?_
  refine Go.dstore 3 #[.val (.ref co), .val (.ref cf), .val (.ref ts), .val (.int rv), .val (.int jv), .val (.double (0 : UInt64)), .second, .unset, .unset] d11_1 rfl rfl ?_
  refine Go.aloadN 4 d11_3 rfl rfl rfl ?_
  refine Go.iloadN 5 d11_4 rfl rfl ?_
  refine Go.iaload 6 A1 hr hs d11_5 rfl ?_
  refine Go.istore 8 #[.val (.ref co), .val (.ref cf), .val (.ref ts), .val (.int rv), .val (.int jv), .val (.double (0 : UInt64)), .second, .val (.int sv), .unset] d11_6 rfl rfl ?_
  refine Go.aloadN 9 d11_8 rfl rfl rfl ?_
  refine Go.iloadN 10 d11_9 rfl rfl ?_
  refine Go.iconst 11 (1 : Int32) d11_10 rfl (by decide) ?_
  refine Go.iadd 12 (rv + (1 : Int32)) d11_11 rfl rfl ?_
  refine Go.iaload 13 A1 (i := row + 1) (toInt_add (b := 1) hr (by decide) (by omega) (by omega) (by omega)) he d11_12 rfl ?_
  refine Go.istore 15 #[.val (.ref co), .val (.ref cf), .val (.ref ts), .val (.int rv), .val (.int jv), .val (.double (0 : UInt64)), .second, .val (.int sv), .val (.int ev)] d11_13 rfl rfl ?_
  exact g15 0 dint_zero
set_option maxRecDepth 65536 in
set_option maxHeartbeats 40000000 in
theorem entry_1 (l : Launch) (Z : State) (a0 : Array Value) (hw : ∀ d ∈ tables_1, d.before a0 Z = true) {n0 : Nat} {h : Heap} {co cf ts : Nat} {rv jv sv ev : Int32} {row j t : Nat} {tl cols : List Int32} {cfs : List UInt64} {colV : Nat → Int32} {cL : Nat → Nat} {cF : Nat → UInt64} {cO : Nat → Int} (A1 : ArI Z h ts tl) (A3 : ArI Z h co cols) (A4 : ArD Z h cf cfs) (hr : rv.toInt = (row : Int)) (hrow : row < 3) (hj : jv.toInt = (j : Int)) (hs : tl[row]? = some sv) (hs2 : sv.toInt = (t : Int)) (he : tl[row + 1]? = some ev) (he2 : ev.toInt = ((t + 1 : Nat) : Int)) (ht : t + 1 ≤ 9) (hcol : ∀ k, k < 9 → cols[k]? = some (colV k) ∧ (colV k).toInt = (cL k : Int) ∧ cL k < 3) (hcf : ∀ k, k < 9 → cfs[k]? = some (cF k) ∧ FP.Core.DInt (cO k) (cF k)) (hco : ∀ k, -8 ≤ cO k ∧ cO k ≤ 7) :
    Go l Z ({ frames := 0, cells := 0, slots := 0, locals := 0 } : Room) ((⟨"com/example/orbifold/orbifold/solvers/BicgstabPreconditionPinLaw", "entry", "([I[D[III)D"⟩ : MethodName), method_5_code, 9, some .double) n0 (fun v h' => ∃ r, v = some (.double r) ∧ h' = h ∧ FP.Core.DInt (En cO cL j t 1) r) h 0 0 0 #[.val (.ref co), .val (.ref cf), .val (.ref ts), .val (.int rv), .val (.int jv), .unset, .unset, .unset, .unset] [] := by
  have b0 := hco (t + 0)
  have b1 := hco (t + 1)
  have b2 := hco (t + 2)
  have s0 : (sv).toInt = ((t + 0 : Nat) : Int) := by simpa using hs2
  have s1 : ((sv + (1 : Int32))).toInt = ((t + 1 : Nat) : Int) := toInt_add (b := 1) hs2 (by decide) (by omega) (by omega) (by omega)
  have s2 : ((sv + (2 : Int32))).toInt = ((t + 2 : Nat) : Int) := toInt_add (b := 2) hs2 (by decide) (by omega) (by omega) (by omega)
  have bnd_0 : -100 ≤ (0 : Int) ∧ (0 : Int) ≤ 100 := by constructor <;> (repeat' split) <;> omega
  have bnd_1 : -100 ≤ ((0 : Int) + (if cL (t + 0) = j then cO (t + 0) else 0)) ∧ ((0 : Int) + (if cL (t + 0) = j then cO (t + 0) else 0)) ≤ 100 := by constructor <;> (repeat' split) <;> omega
  have bnd_2 : -100 ≤ ((0 : Int) + (if cL (t + 0) = j then cO (t + 0) else 0)) ∧ ((0 : Int) + (if cL (t + 0) = j then cO (t + 0) else 0)) ≤ 100 := by constructor <;> (repeat' split) <;> omega
  have g102 : ∀ s, FP.Core.DInt ((0 : Int) + (if cL (t + 0) = j then cO (t + 0) else 0)) s → Go l Z ({ frames := 0, cells := 0, slots := 0, locals := 0 } : Room) ((⟨"com/example/orbifold/orbifold/solvers/BicgstabPreconditionPinLaw", "entry", "([I[D[III)D"⟩ : MethodName), method_5_code, 9, some .double) n0 (fun v h' => ∃ r, v = some (.double r) ∧ h' = h ∧ FP.Core.DInt (En cO cL j t 1) r) h 0 0 102 #[.val (.ref co), .val (.ref cf), .val (.ref ts), .val (.int rv), .val (.int jv), .val (.double s), .second, .val (.int sv), .val (.int ev)] [] := by
    intro s hd
    refine Go.dload 104 d11_102 rfl rfl ?_
    exact Go.dret d11_104 rfl (leB rfl) (leB rfl) ⟨s, rfl, rfl, dint_cast hd (by show ((0 : Int) + (if cL (t + 0) = j then cO (t + 0) else 0)) = (if cL (t + 0) = j then cO (t + 0) else 0) + 0; omega)⟩
  have g71 : ∀ s, FP.Core.DInt ((0 : Int) + (if cL (t + 0) = j then cO (t + 0) else 0)) s → Go l Z ({ frames := 0, cells := 0, slots := 0, locals := 0 } : Room) ((⟨"com/example/orbifold/orbifold/solvers/BicgstabPreconditionPinLaw", "entry", "([I[D[III)D"⟩ : MethodName), method_5_code, 9, some .double) n0 (fun v h' => ∃ r, v = some (.double r) ∧ h' = h ∧ FP.Core.DInt (En cO cL j t 1) r) h 0 0 71 #[.val (.ref co), .val (.ref cf), .val (.ref ts), .val (.int rv), .val (.int jv), .val (.double s), .second, .val (.int sv), .val (.int ev)] [] := by
    intro s hd
    refine Go.iload 73 d11_71 rfl rfl ?_
    refine Go.iconst 74 (2 : Int32) d11_73 rfl (by decide) ?_
    refine Go.iadd 75 (sv + (2 : Int32)) d11_74 rfl rfl ?_
    refine Go.iload 77 d11_75 rfl rfl ?_
    refine Go.icmpT 102 d11_77 (by decide) (by decide) (show (ev).toInt ≤ ((sv + (2 : Int32))).toInt from by omega) ?_
    exact g102 s hd
  have g40 : ∀ s, FP.Core.DInt ((0 : Int) + (if cL (t + 0) = j then cO (t + 0) else 0)) s → Go l Z ({ frames := 0, cells := 0, slots := 0, locals := 0 } : Room) ((⟨"com/example/orbifold/orbifold/solvers/BicgstabPreconditionPinLaw", "entry", "([I[D[III)D"⟩ : MethodName), method_5_code, 9, some .double) n0 (fun v h' => ∃ r, v = some (.double r) ∧ h' = h ∧ FP.Core.DInt (En cO cL j t 1) r) h 0 0 40 #[.val (.ref co), .val (.ref cf), .val (.ref ts), .val (.int rv), .val (.int jv), .val (.double s), .second, .val (.int sv), .val (.int ev)] [] := by
    intro s hd
    refine Go.iload 42 d11_40 rfl rfl ?_
    refine Go.iconst 43 (1 : Int32) d11_42 rfl (by decide) ?_
    refine Go.iadd 44 (sv + (1 : Int32)) d11_43 rfl rfl ?_
    refine Go.iload 46 d11_44 rfl rfl ?_
    refine Go.icmpT 71 d11_46 (by decide) (by decide) (show (ev).toInt ≤ ((sv + (1 : Int32))).toInt from by omega) ?_
    exact g71 s hd
  have g15 : ∀ s, FP.Core.DInt (0 : Int) s → Go l Z ({ frames := 0, cells := 0, slots := 0, locals := 0 } : Room) ((⟨"com/example/orbifold/orbifold/solvers/BicgstabPreconditionPinLaw", "entry", "([I[D[III)D"⟩ : MethodName), method_5_code, 9, some .double) n0 (fun v h' => ∃ r, v = some (.double r) ∧ h' = h ∧ FP.Core.DInt (En cO cL j t 1) r) h 0 0 15 #[.val (.ref co), .val (.ref cf), .val (.ref ts), .val (.int rv), .val (.int jv), .val (.double s), .second, .val (.int sv), .val (.int ev)] [] := by
    intro s hd
    refine Go.iload 17 d11_15 rfl rfl ?_
    refine Go.iload 19 d11_17 rfl rfl ?_
    refine Go.icmpF 22 d11_19 rfl (show (sv).toInt < (ev).toInt from by omega) ?_
    obtain ⟨k1, k2, k3⟩ := hcol (t + 0) (by omega)
    obtain ⟨m1, m2⟩ := hcf (t + 0) (by omega)
    refine Go.aloadN 23 d11_22 rfl rfl rfl ?_
    refine Go.iload 25 d11_23 rfl rfl ?_
    refine Go.iaload 26 A3 (i := t + 0) s0 k1 d11_25 rfl ?_
    refine Go.iload 28 d11_26 rfl rfl ?_
    by_cases hq : cL (t + 0) = j
    · refine Go.icmpF 31 d11_28 rfl (show ((colV (t + 0))).toInt = (jv).toInt from by omega) ?_
      obtain ⟨a1, a2, a3⟩ := addI hd m2 (by have := bnd_0; omega) (by have := bnd_0; omega)
      refine Go.dload 33 d11_31 rfl rfl ?_
      refine Go.aloadN 34 d11_33 rfl rfl rfl ?_
      refine Go.iload 36 d11_34 rfl rfl ?_
      refine Go.daload 37 A4 (i := t + 0) s0 m1 d11_36 rfl ?_
      refine Go.dadd 38 a1 d11_37 rfl a2.1 a2.2 ?_
      refine Go.dstore 40 #[.val (.ref co), .val (.ref cf), .val (.ref ts), .val (.int rv), .val (.int jv), .val (.double a1), .second, .val (.int sv), .val (.int ev)] d11_38 rfl rfl ?_
      exact g40 a1 (by rw [if_pos hq]; exact a3)
    · refine Go.icmpT 40 d11_28 (by decide) (by decide) (show ((colV (t + 0))).toInt ≠ (jv).toInt from by omega) ?_
      exact g40 s (by rw [if_neg hq, Int.add_zero]; exact hd)
  refine Go.dconst0 1 (0 : UInt64) d11_0 rfl rfl ?_
  refine Go.dstore 3 #[.val (.ref co), .val (.ref cf), .val (.ref ts), .val (.int rv), .val (.int jv), .val (.double (0 : UInt64)), .second, .unset, .unset] d11_1 rfl rfl ?_
  refine Go.aloadN 4 d11_3 rfl rfl rfl ?_
  refine Go.iloadN 5 d11_4 rfl rfl ?_
  refine Go.iaload 6 A1 hr hs d11_5 rfl ?_
  refine Go.istore 8 #[.val (.ref co), .val (.ref cf), .val (.ref ts), .val (.int rv), .val (.int jv), .val (.double (0 : UInt64)), .second, .val (.int sv), .unset] d11_6 rfl rfl ?_
  refine Go.aloadN 9 d11_8 rfl rfl rfl ?_
  refine Go.iloadN 10 d11_9 rfl rfl ?_
  refine Go.iconst 11 (1 : Int32) d11_10 rfl (by decide) ?_
  refine Go.iadd 12 (rv + (1 : Int32)) d11_11 rfl rfl ?_
  refine Go.iaload 13 A1 (i := row + 1) (toInt_add (b := 1) hr (by decide) (by omega) (by omega) (by omega)) he d11_12 rfl ?_
  refine Go.istore 15 #[.val (.ref co), .val (.ref cf), .val (.ref ts), .val (.int rv), .val (.int jv), .val (.double (0 : UInt64)), .second, .val (.int sv), .val (.int ev)] d11_13 rfl rfl ?_
  exact g15 0 dint_zero
set_option maxRecDepth 65536 in
set_option maxHeartbeats 40000000 in
theorem entry_2 (l : Launch) (Z : State) (a0 : Array Value) (hw : ∀ d ∈ tables_1, d.before a0 Z = true) {n0 : Nat} {h : Heap} {co cf ts : Nat} {rv jv sv ev : Int32} {row j t : Nat} {tl cols : List Int32} {cfs : List UInt64} {colV : Nat → Int32} {cL : Nat → Nat} {cF : Nat → UInt64} {cO : Nat → Int} (A1 : ArI Z h ts tl) (A3 : ArI Z h co cols) (A4 : ArD Z h cf cfs) (hr : rv.toInt = (row : Int)) (hrow : row < 3) (hj : jv.toInt = (j : Int)) (hs : tl[row]? = some sv) (hs2 : sv.toInt = (t : Int)) (he : tl[row + 1]? = some ev) (he2 : ev.toInt = ((t + 2 : Nat) : Int)) (ht : t + 2 ≤ 9) (hcol : ∀ k, k < 9 → cols[k]? = some (colV k) ∧ (colV k).toInt = (cL k : Int) ∧ cL k < 3) (hcf : ∀ k, k < 9 → cfs[k]? = some (cF k) ∧ FP.Core.DInt (cO k) (cF k)) (hco : ∀ k, -8 ≤ cO k ∧ cO k ≤ 7) :
    Go l Z ({ frames := 0, cells := 0, slots := 0, locals := 0 } : Room) ((⟨"com/example/orbifold/orbifold/solvers/BicgstabPreconditionPinLaw", "entry", "([I[D[III)D"⟩ : MethodName), method_5_code, 9, some .double) n0 (fun v h' => ∃ r, v = some (.double r) ∧ h' = h ∧ FP.Core.DInt (En cO cL j t 2) r) h 0 0 0 #[.val (.ref co), .val (.ref cf), .val (.ref ts), .val (.int rv), .val (.int jv), .unset, .unset, .unset, .unset] [] := by
  have b0 := hco (t + 0)
  have b1 := hco (t + 1)
  have b2 := hco (t + 2)
  have s0 : (sv).toInt = ((t + 0 : Nat) : Int) := by simpa using hs2
  have s1 : ((sv + (1 : Int32))).toInt = ((t + 1 : Nat) : Int) := toInt_add (b := 1) hs2 (by decide) (by omega) (by omega) (by omega)
  have s2 : ((sv + (2 : Int32))).toInt = ((t + 2 : Nat) : Int) := toInt_add (b := 2) hs2 (by decide) (by omega) (by omega) (by omega)
  have bnd_0 : -100 ≤ (0 : Int) ∧ (0 : Int) ≤ 100 := by constructor <;> (repeat' split) <;> omega
  have bnd_1 : -100 ≤ ((0 : Int) + (if cL (t + 0) = j then cO (t + 0) else 0)) ∧ ((0 : Int) + (if cL (t + 0) = j then cO (t + 0) else 0)) ≤ 100 := by constructor <;> (repeat' split) <;> omega
  have bnd_2 : -100 ≤ (((0 : Int) + (if cL (t + 0) = j then cO (t + 0) else 0)) + (if cL (t + 1) = j then cO (t + 1) else 0)) ∧ (((0 : Int) + (if cL (t + 0) = j then cO (t + 0) else 0)) + (if cL (t + 1) = j then cO (t + 1) else 0)) ≤ 100 := by constructor <;> (repeat' split) <;> omega
  have g102 : ∀ s, FP.Core.DInt (((0 : Int) + (if cL (t + 0) = j then cO (t + 0) else 0)) + (if cL (t + 1) = j then cO (t + 1) else 0)) s → Go l Z ({ frames := 0, cells := 0, slots := 0, locals := 0 } : Room) ((⟨"com/example/orbifold/orbifold/solvers/BicgstabPreconditionPinLaw", "entry", "([I[D[III)D"⟩ : MethodName), method_5_code, 9, some .double) n0 (fun v h' => ∃ r, v = some (.double r) ∧ h' = h ∧ FP.Core.DInt (En cO cL j t 2) r) h 0 0 102 #[.val (.ref co), .val (.ref cf), .val (.ref ts), .val (.int rv), .val (.int jv), .val (.double s), .second, .val (.int sv), .val (.int ev)] [] := by
    intro s hd
    refine Go.dload 104 d11_102 rfl rfl ?_
    exact Go.dret d11_104 rfl (leB rfl) (leB rfl) ⟨s, rfl, rfl, dint_cast hd (by show (((0 : Int) + (if cL (t + 0) = j then cO (t + 0) else 0)) + (if cL (t + 1) = j then cO (t + 1) else 0)) = (if cL (t + 0) = j then cO (t + 0) else 0) + ((if cL (t + 1) = j then cO (t + 1) else 0) + 0); omega)⟩
  have g71 : ∀ s, FP.Core.DInt (((0 : Int) + (if cL (t + 0) = j then cO (t + 0) else 0)) + (if cL (t + 1) = j then cO (t + 1) else 0)) s → Go l Z ({ frames := 0, cells := 0, slots := 0, locals := 0 } : Room) ((⟨"com/example/orbifold/orbifold/solvers/BicgstabPreconditionPinLaw", "entry", "([I[D[III)D"⟩ : MethodName), method_5_code, 9, some .double) n0 (fun v h' => ∃ r, v = some (.double r) ∧ h' = h ∧ FP.Core.DInt (En cO cL j t 2) r) h 0 0 71 #[.val (.ref co), .val (.ref cf), .val (.ref ts), .val (.int rv), .val (.int jv), .val (.double s), .second, .val (.int sv), .val (.int ev)] [] := by
    intro s hd
    refine Go.iload 73 d11_71 rfl rfl ?_
    refine Go.iconst 74 (2 : Int32) d11_73 rfl (by decide) ?_
    refine Go.iadd 75 (sv + (2 : Int32)) d11_74 rfl rfl ?_
    refine Go.iload 77 d11_75 rfl rfl ?_
    refine Go.icmpT 102 d11_77 (by decide) (by decide) (show (ev).toInt ≤ ((sv + (2 : Int32))).toInt from by omega) ?_
    exact g102 s hd
  have g40 : ∀ s, FP.Core.DInt ((0 : Int) + (if cL (t + 0) = j then cO (t + 0) else 0)) s → Go l Z ({ frames := 0, cells := 0, slots := 0, locals := 0 } : Room) ((⟨"com/example/orbifold/orbifold/solvers/BicgstabPreconditionPinLaw", "entry", "([I[D[III)D"⟩ : MethodName), method_5_code, 9, some .double) n0 (fun v h' => ∃ r, v = some (.double r) ∧ h' = h ∧ FP.Core.DInt (En cO cL j t 2) r) h 0 0 40 #[.val (.ref co), .val (.ref cf), .val (.ref ts), .val (.int rv), .val (.int jv), .val (.double s), .second, .val (.int sv), .val (.int ev)] [] := by
    intro s hd
    refine Go.iload 42 d11_40 rfl rfl ?_
    refine Go.iconst 43 (1 : Int32) d11_42 rfl (by decide) ?_
    refine Go.iadd 44 (sv + (1 : Int32)) d11_43 rfl rfl ?_
    refine Go.iload 46 d11_44 rfl rfl ?_
    refine Go.icmpF 49 d11_46 rfl (show ((sv + (1 : Int32))).toInt < (ev).toInt from by omega) ?_
    obtain ⟨k1, k2, k3⟩ := hcol (t + 1) (by omega)
    obtain ⟨m1, m2⟩ := hcf (t + 1) (by omega)
    refine Go.aloadN 50 d11_49 rfl rfl rfl ?_
    refine Go.iload 52 d11_50 rfl rfl ?_
    refine Go.iconst 53 (1 : Int32) d11_52 rfl (by decide) ?_
    refine Go.iadd 54 (sv + (1 : Int32)) d11_53 rfl rfl ?_
    refine Go.iaload 55 A3 (i := t + 1) s1 k1 d11_54 rfl ?_
    refine Go.iload 57 d11_55 rfl rfl ?_
    by_cases hq : cL (t + 1) = j
    · refine Go.icmpF 60 d11_57 rfl (show ((colV (t + 1))).toInt = (jv).toInt from by omega) ?_
      obtain ⟨a1, a2, a3⟩ := addI hd m2 (by have := bnd_1; omega) (by have := bnd_1; omega)
      refine Go.dload 62 d11_60 rfl rfl ?_
      refine Go.aloadN 63 d11_62 rfl rfl rfl ?_
      refine Go.iload 65 d11_63 rfl rfl ?_
      refine Go.iconst 66 (1 : Int32) d11_65 rfl (by decide) ?_
      refine Go.iadd 67 (sv + (1 : Int32)) d11_66 rfl rfl ?_
      refine Go.daload 68 A4 (i := t + 1) s1 m1 d11_67 rfl ?_
      refine Go.dadd 69 a1 d11_68 rfl a2.1 a2.2 ?_
      refine Go.dstore 71 #[.val (.ref co), .val (.ref cf), .val (.ref ts), .val (.int rv), .val (.int jv), .val (.double a1), .second, .val (.int sv), .val (.int ev)] d11_69 rfl rfl ?_
      exact g71 a1 (by rw [if_pos hq]; exact a3)
    · refine Go.icmpT 71 d11_57 (by decide) (by decide) (show ((colV (t + 1))).toInt ≠ (jv).toInt from by omega) ?_
      exact g71 s (by rw [if_neg hq, Int.add_zero]; exact hd)
  have g15 : ∀ s, FP.Core.DInt (0 : Int) s → Go l Z ({ frames := 0, cells := 0, slots := 0, locals := 0 } : Room) ((⟨"com/example/orbifold/orbifold/solvers/BicgstabPreconditionPinLaw", "entry", "([I[D[III)D"⟩ : MethodName), method_5_code, 9, some .double) n0 (fun v h' => ∃ r, v = some (.double r) ∧ h' = h ∧ FP.Core.DInt (En cO cL j t 2) r) h 0 0 15 #[.val (.ref co), .val (.ref cf), .val (.ref ts), .val (.int rv), .val (.int jv), .val (.double s), .second, .val (.int sv), .val (.int ev)] [] := by
    intro s hd
    refine Go.iload 17 d11_15 rfl rfl ?_
    refine Go.iload 19 d11_17 rfl rfl ?_
    refine Go.icmpF 22 d11_19 rfl (show (sv).toInt < (ev).toInt from by omega) ?_
    obtain ⟨k1, k2, k3⟩ := hcol (t + 0) (by omega)
    obtain ⟨m1, m2⟩ := hcf (t + 0) (by omega)
    refine Go.aloadN 23 d11_22 rfl rfl rfl ?_
    refine Go.iload 25 d11_23 rfl rfl ?_
    refine Go.iaload 26 A3 (i := t + 0) s0 k1 d11_25 rfl ?_
    refine Go.iload 28 d11_26 rfl rfl ?_
    by_cases hq : cL (t + 0) = j
    · refine Go.icmpF 31 d11_28 rfl (show ((colV (t + 0))).toInt = (jv).toInt from by omega) ?_
      obtain ⟨a1, a2, a3⟩ := addI hd m2 (by have := bnd_0; omega) (by have := bnd_0; omega)
      refine Go.dload 33 d11_31 rfl rfl ?_
      refine Go.aloadN 34 d11_33 rfl rfl rfl ?_
      refine Go.iload 36 d11_34 rfl rfl ?_
      refine Go.daload 37 A4 (i := t + 0) s0 m1 d11_36 rfl ?_
      refine Go.dadd 38 a1 d11_37 rfl a2.1 a2.2 ?_
      refine Go.dstore 40 #[.val (.ref co), .val (.ref cf), .val (.ref ts), .val (.int rv), .val (.int jv), .val (.double a1), .second, .val (.int sv), .val (.int ev)] d11_38 rfl rfl ?_
      exact g40 a1 (by rw [if_pos hq]; exact a3)
    · refine Go.icmpT 40 d11_28 (by decide) (by decide) (show ((colV (t + 0))).toInt ≠ (jv).toInt from by omega) ?_
      exact g40 s (by rw [if_neg hq, Int.add_zero]; exact hd)
  refine Go.dconst0 1 (0 : UInt64) d11_0 rfl rfl ?_
  refine Go.dstore 3 #[.val (.ref co), .val (.ref cf), .val (.ref ts), .val (.int rv), .val (.int jv), .val (.double (0 : UInt64)), .second, .unset, .unset] d11_1 rfl rfl ?_
  refine Go.aloadN 4 d11_3 rfl rfl rfl ?_
  refine Go.iloadN 5 d11_4 rfl rfl ?_
  refine Go.iaload 6 A1 hr hs d11_5 rfl ?_
  refine Go.istore 8 #[.val (.ref co), .val (.ref cf), .val (.ref ts), .val (.int rv), .val (.int jv), .val (.double (0 : UInt64)), .second, .val (.int sv), .unset] d11_6 rfl rfl ?_
  refine Go.aloadN 9 d11_8 rfl rfl rfl ?_
  refine Go.iloadN 10 d11_9 rfl rfl ?_
  refine Go.iconst 11 (1 : Int32) d11_10 rfl (by decide) ?_
  refine Go.iadd 12 (rv + (1 : Int32)) d11_11 rfl rfl ?_
  refine Go.iaload 13 A1 (i := row + 1) (toInt_add (b := 1) hr (by decide) (by omega) (by omega) (by omega)) he d11_12 rfl ?_
  refine Go.istore 15 #[.val (.ref co), .val (.ref cf), .val (.ref ts), .val (.int rv), .val (.int jv), .val (.double (0 : UInt64)), .second, .val (.int sv), .val (.int ev)] d11_13 rfl rfl ?_
  exact g15 0 dint_zero
set_option maxRecDepth 65536 in
set_option maxHeartbeats 40000000 in
theorem entry_3 (l : Launch) (Z : State) (a0 : Array Value) (hw : ∀ d ∈ tables_1, d.before a0 Z = true) {n0 : Nat} {h : Heap} {co cf ts : Nat} {rv jv sv ev : Int32} {row j t : Nat} {tl cols : List Int32} {cfs : List UInt64} {colV : Nat → Int32} {cL : Nat → Nat} {cF : Nat → UInt64} {cO : Nat → Int} (A1 : ArI Z h ts tl) (A3 : ArI Z h co cols) (A4 : ArD Z h cf cfs) (hr : rv.toInt = (row : Int)) (hrow : row < 3) (hj : jv.toInt = (j : Int)) (hs : tl[row]? = some sv) (hs2 : sv.toInt = (t : Int)) (he : tl[row + 1]? = some ev) (he2 : ev.toInt = ((t + 3 : Nat) : Int)) (ht : t + 3 ≤ 9) (hcol : ∀ k, k < 9 → cols[k]? = some (colV k) ∧ (colV k).toInt = (cL k : Int) ∧ cL k < 3) (hcf : ∀ k, k < 9 → cfs[k]? = some (cF k) ∧ FP.Core.DInt (cO k) (cF k)) (hco : ∀ k, -8 ≤ cO k ∧ cO k ≤ 7) :
    Go l Z ({ frames := 0, cells := 0, slots := 0, locals := 0 } : Room) ((⟨"com/example/orbifold/orbifold/solvers/BicgstabPreconditionPinLaw", "entry", "([I[D[III)D"⟩ : MethodName), method_5_code, 9, some .double) n0 (fun v h' => ∃ r, v = some (.double r) ∧ h' = h ∧ FP.Core.DInt (En cO cL j t 3) r) h 0 0 0 #[.val (.ref co), .val (.ref cf), .val (.ref ts), .val (.int rv), .val (.int jv), .unset, .unset, .unset, .unset] [] := by
  have b0 := hco (t + 0)
  have b1 := hco (t + 1)
  have b2 := hco (t + 2)
  have s0 : (sv).toInt = ((t + 0 : Nat) : Int) := by simpa using hs2
  have s1 : ((sv + (1 : Int32))).toInt = ((t + 1 : Nat) : Int) := toInt_add (b := 1) hs2 (by decide) (by omega) (by omega) (by omega)
  have s2 : ((sv + (2 : Int32))).toInt = ((t + 2 : Nat) : Int) := toInt_add (b := 2) hs2 (by decide) (by omega) (by omega) (by omega)
  have bnd_0 : -100 ≤ (0 : Int) ∧ (0 : Int) ≤ 100 := by constructor <;> (repeat' split) <;> omega
  have bnd_1 : -100 ≤ ((0 : Int) + (if cL (t + 0) = j then cO (t + 0) else 0)) ∧ ((0 : Int) + (if cL (t + 0) = j then cO (t + 0) else 0)) ≤ 100 := by constructor <;> (repeat' split) <;> omega
  have bnd_2 : -100 ≤ (((0 : Int) + (if cL (t + 0) = j then cO (t + 0) else 0)) + (if cL (t + 1) = j then cO (t + 1) else 0)) ∧ (((0 : Int) + (if cL (t + 0) = j then cO (t + 0) else 0)) + (if cL (t + 1) = j then cO (t + 1) else 0)) ≤ 100 := by constructor <;> (repeat' split) <;> omega
  have g102 : ∀ s, FP.Core.DInt ((((0 : Int) + (if cL (t + 0) = j then cO (t + 0) else 0)) + (if cL (t + 1) = j then cO (t + 1) else 0)) + (if cL (t + 2) = j then cO (t + 2) else 0)) s → Go l Z ({ frames := 0, cells := 0, slots := 0, locals := 0 } : Room) ((⟨"com/example/orbifold/orbifold/solvers/BicgstabPreconditionPinLaw", "entry", "([I[D[III)D"⟩ : MethodName), method_5_code, 9, some .double) n0 (fun v h' => ∃ r, v = some (.double r) ∧ h' = h ∧ FP.Core.DInt (En cO cL j t 3) r) h 0 0 102 #[.val (.ref co), .val (.ref cf), .val (.ref ts), .val (.int rv), .val (.int jv), .val (.double s), .second, .val (.int sv), .val (.int ev)] [] := by
    intro s hd
    refine Go.dload 104 d11_102 rfl rfl ?_
    exact Go.dret d11_104 rfl (leB rfl) (leB rfl) ⟨s, rfl, rfl, dint_cast hd (by show ((((0 : Int) + (if cL (t + 0) = j then cO (t + 0) else 0)) + (if cL (t + 1) = j then cO (t + 1) else 0)) + (if cL (t + 2) = j then cO (t + 2) else 0)) = (if cL (t + 0) = j then cO (t + 0) else 0) + ((if cL (t + 1) = j then cO (t + 1) else 0) + ((if cL (t + 2) = j then cO (t + 2) else 0) + 0)); omega)⟩
  have g71 : ∀ s, FP.Core.DInt (((0 : Int) + (if cL (t + 0) = j then cO (t + 0) else 0)) + (if cL (t + 1) = j then cO (t + 1) else 0)) s → Go l Z ({ frames := 0, cells := 0, slots := 0, locals := 0 } : Room) ((⟨"com/example/orbifold/orbifold/solvers/BicgstabPreconditionPinLaw", "entry", "([I[D[III)D"⟩ : MethodName), method_5_code, 9, some .double) n0 (fun v h' => ∃ r, v = some (.double r) ∧ h' = h ∧ FP.Core.DInt (En cO cL j t 3) r) h 0 0 71 #[.val (.ref co), .val (.ref cf), .val (.ref ts), .val (.int rv), .val (.int jv), .val (.double s), .second, .val (.int sv), .val (.int ev)] [] := by
    intro s hd
    refine Go.iload 73 d11_71 rfl rfl ?_
    refine Go.iconst 74 (2 : Int32) d11_73 rfl (by decide) ?_
    refine Go.iadd 75 (sv + (2 : Int32)) d11_74 rfl rfl ?_
    refine Go.iload 77 d11_75 rfl rfl ?_
    refine Go.icmpF 80 d11_77 rfl (show ((sv + (2 : Int32))).toInt < (ev).toInt from by omega) ?_
    obtain ⟨k1, k2, k3⟩ := hcol (t + 2) (by omega)
    obtain ⟨m1, m2⟩ := hcf (t + 2) (by omega)
    refine Go.aloadN 81 d11_80 rfl rfl rfl ?_
    refine Go.iload 83 d11_81 rfl rfl ?_
    refine Go.iconst 84 (2 : Int32) d11_83 rfl (by decide) ?_
    refine Go.iadd 85 (sv + (2 : Int32)) d11_84 rfl rfl ?_
    refine Go.iaload 86 A3 (i := t + 2) s2 k1 d11_85 rfl ?_
    refine Go.iload 88 d11_86 rfl rfl ?_
    by_cases hq : cL (t + 2) = j
    · refine Go.icmpF 91 d11_88 rfl (show ((colV (t + 2))).toInt = (jv).toInt from by omega) ?_
      obtain ⟨a1, a2, a3⟩ := addI hd m2 (by have := bnd_2; omega) (by have := bnd_2; omega)
      refine Go.dload 93 d11_91 rfl rfl ?_
      refine Go.aloadN 94 d11_93 rfl rfl rfl ?_
      refine Go.iload 96 d11_94 rfl rfl ?_
      refine Go.iconst 97 (2 : Int32) d11_96 rfl (by decide) ?_
      refine Go.iadd 98 (sv + (2 : Int32)) d11_97 rfl rfl ?_
      refine Go.daload 99 A4 (i := t + 2) s2 m1 d11_98 rfl ?_
      refine Go.dadd 100 a1 d11_99 rfl a2.1 a2.2 ?_
      refine Go.dstore 102 #[.val (.ref co), .val (.ref cf), .val (.ref ts), .val (.int rv), .val (.int jv), .val (.double a1), .second, .val (.int sv), .val (.int ev)] d11_100 rfl rfl ?_
      exact g102 a1 (by rw [if_pos hq]; exact a3)
    · refine Go.icmpT 102 d11_88 (by decide) (by decide) (show ((colV (t + 2))).toInt ≠ (jv).toInt from by omega) ?_
      exact g102 s (by rw [if_neg hq, Int.add_zero]; exact hd)
  have g40 : ∀ s, FP.Core.DInt ((0 : Int) + (if cL (t + 0) = j then cO (t + 0) else 0)) s → Go l Z ({ frames := 0, cells := 0, slots := 0, locals := 0 } : Room) ((⟨"com/example/orbifold/orbifold/solvers/BicgstabPreconditionPinLaw", "entry", "([I[D[III)D"⟩ : MethodName), method_5_code, 9, some .double) n0 (fun v h' => ∃ r, v = some (.double r) ∧ h' = h ∧ FP.Core.DInt (En cO cL j t 3) r) h 0 0 40 #[.val (.ref co), .val (.ref cf), .val (.ref ts), .val (.int rv), .val (.int jv), .val (.double s), .second, .val (.int sv), .val (.int ev)] [] := by
    intro s hd
    refine Go.iload 42 d11_40 rfl rfl ?_
    refine Go.iconst 43 (1 : Int32) d11_42 rfl (by decide) ?_
    refine Go.iadd 44 (sv + (1 : Int32)) d11_43 rfl rfl ?_
    refine Go.iload 46 d11_44 rfl rfl ?_
    refine Go.icmpF 49 d11_46 rfl (show ((sv + (1 : Int32))).toInt < (ev).toInt from by omega) ?_
    obtain ⟨k1, k2, k3⟩ := hcol (t + 1) (by omega)
    obtain ⟨m1, m2⟩ := hcf (t + 1) (by omega)
    refine Go.aloadN 50 d11_49 rfl rfl rfl ?_
    refine Go.iload 52 d11_50 rfl rfl ?_
    refine Go.iconst 53 (1 : Int32) d11_52 rfl (by decide) ?_
    refine Go.iadd 54 (sv + (1 : Int32)) d11_53 rfl rfl ?_
    refine Go.iaload 55 A3 (i := t + 1) s1 k1 d11_54 rfl ?_
    refine Go.iload 57 d11_55 rfl rfl ?_
    by_cases hq : cL (t + 1) = j
    · refine Go.icmpF 60 d11_57 rfl (show ((colV (t + 1))).toInt = (jv).toInt from by omega) ?_
      obtain ⟨a1, a2, a3⟩ := addI hd m2 (by have := bnd_1; omega) (by have := bnd_1; omega)
      refine Go.dload 62 d11_60 rfl rfl ?_
      refine Go.aloadN 63 d11_62 rfl rfl rfl ?_
      refine Go.iload 65 d11_63 rfl rfl ?_
      refine Go.iconst 66 (1 : Int32) d11_65 rfl (by decide) ?_
      refine Go.iadd 67 (sv + (1 : Int32)) d11_66 rfl rfl ?_
      refine Go.daload 68 A4 (i := t + 1) s1 m1 d11_67 rfl ?_
      refine Go.dadd 69 a1 d11_68 rfl a2.1 a2.2 ?_
      refine Go.dstore 71 #[.val (.ref co), .val (.ref cf), .val (.ref ts), .val (.int rv), .val (.int jv), .val (.double a1), .second, .val (.int sv), .val (.int ev)] d11_69 rfl rfl ?_
      exact g71 a1 (by rw [if_pos hq]; exact a3)
    · refine Go.icmpT 71 d11_57 (by decide) (by decide) (show ((colV (t + 1))).toInt ≠ (jv).toInt from by omega) ?_
      exact g71 s (by rw [if_neg hq, Int.add_zero]; exact hd)
  have g15 : ∀ s, FP.Core.DInt (0 : Int) s → Go l Z ({ frames := 0, cells := 0, slots := 0, locals := 0 } : Room) ((⟨"com/example/orbifold/orbifold/solvers/BicgstabPreconditionPinLaw", "entry", "([I[D[III)D"⟩ : MethodName), method_5_code, 9, some .double) n0 (fun v h' => ∃ r, v = some (.double r) ∧ h' = h ∧ FP.Core.DInt (En cO cL j t 3) r) h 0 0 15 #[.val (.ref co), .val (.ref cf), .val (.ref ts), .val (.int rv), .val (.int jv), .val (.double s), .second, .val (.int sv), .val (.int ev)] [] := by
    intro s hd
    refine Go.iload 17 d11_15 rfl rfl ?_
    refine Go.iload 19 d11_17 rfl rfl ?_
    refine Go.icmpF 22 d11_19 rfl (show (sv).toInt < (ev).toInt from by omega) ?_
    obtain ⟨k1, k2, k3⟩ := hcol (t + 0) (by omega)
    obtain ⟨m1, m2⟩ := hcf (t + 0) (by omega)
    refine Go.aloadN 23 d11_22 rfl rfl rfl ?_
    refine Go.iload 25 d11_23 rfl rfl ?_
    refine Go.iaload 26 A3 (i := t + 0) s0 k1 d11_25 rfl ?_
    refine Go.iload 28 d11_26 rfl rfl ?_
    by_cases hq : cL (t + 0) = j
    · refine Go.icmpF 31 d11_28 rfl (show ((colV (t + 0))).toInt = (jv).toInt from by omega) ?_
      obtain ⟨a1, a2, a3⟩ := addI hd m2 (by have := bnd_0; omega) (by have := bnd_0; omega)
      refine Go.dload 33 d11_31 rfl rfl ?_
      refine Go.aloadN 34 d11_33 rfl rfl rfl ?_
      refine Go.iload 36 d11_34 rfl rfl ?_
      refine Go.daload 37 A4 (i := t + 0) s0 m1 d11_36 rfl ?_
      refine Go.dadd 38 a1 d11_37 rfl a2.1 a2.2 ?_
      refine Go.dstore 40 #[.val (.ref co), .val (.ref cf), .val (.ref ts), .val (.int rv), .val (.int jv), .val (.double a1), .second, .val (.int sv), .val (.int ev)] d11_38 rfl rfl ?_
      exact g40 a1 (by rw [if_pos hq]; exact a3)
    · refine Go.icmpT 40 d11_28 (by decide) (by decide) (show ((colV (t + 0))).toInt ≠ (jv).toInt from by omega) ?_
      exact g40 s (by rw [if_neg hq, Int.add_zero]; exact hd)
  refine Go.dconst0 1 (0 : UInt64) d11_0 rfl rfl ?_
  refine Go.dstore 3 #[.val (.ref co), .val (.ref cf), .val (.ref ts), .val (.int rv), .val (.int jv), .val (.double (0 : UInt64)), .second, .unset, .unset] d11_1 rfl rfl ?_
  refine Go.aloadN 4 d11_3 rfl rfl rfl ?_
  refine Go.iloadN 5 d11_4 rfl rfl ?_
  refine Go.iaload 6 A1 hr hs d11_5 rfl ?_
  refine Go.istore 8 #[.val (.ref co), .val (.ref cf), .val (.ref ts), .val (.int rv), .val (.int jv), .val (.double (0 : UInt64)), .second, .val (.int sv), .unset] d11_6 rfl rfl ?_
  refine Go.aloadN 9 d11_8 rfl rfl rfl ?_
  refine Go.iloadN 10 d11_9 rfl rfl ?_
  refine Go.iconst 11 (1 : Int32) d11_10 rfl (by decide) ?_
  refine Go.iadd 12 (rv + (1 : Int32)) d11_11 rfl rfl ?_
  refine Go.iaload 13 A1 (i := row + 1) (toInt_add (b := 1) hr (by decide) (by omega) (by omega) (by omega)) he d11_12 rfl ?_
  refine Go.istore 15 #[.val (.ref co), .val (.ref cf), .val (.ref ts), .val (.int rv), .val (.int jv), .val (.double (0 : UInt64)), .second, .val (.int sv), .val (.int ev)] d11_13 rfl rfl ?_
  exact g15 0 dint_zero
theorem entry_go (l : Launch) (Z : State) (a0 : Array Value) (hw : ∀ d ∈ tables_1, d.before a0 Z = true) {n0 : Nat} {h : Heap} {co cf ts : Nat} {rv jv sv ev : Int32} {row j t : Nat} {tl cols : List Int32} {cfs : List UInt64} {colV : Nat → Int32} {cL : Nat → Nat} {cF : Nat → UInt64} {cO : Nat → Int} (A1 : ArI Z h ts tl) (A3 : ArI Z h co cols) (A4 : ArD Z h cf cfs) (hr : rv.toInt = (row : Int)) (hrow : row < 3) (hj : jv.toInt = (j : Int)) (hs : tl[row]? = some sv) (hs2 : sv.toInt = (t : Int)) (he : tl[row + 1]? = some ev) {n : Nat} (hn : n ≤ 3) (he2 : ev.toInt = ((t + n : Nat) : Int)) (ht : t + n ≤ 9) (hcol : ∀ k, k < 9 → cols[k]? = some (colV k) ∧ (colV k).toInt = (cL k : Int) ∧ cL k < 3) (hcf : ∀ k, k < 9 → cfs[k]? = some (cF k) ∧ FP.Core.DInt (cO k) (cF k)) (hco : ∀ k, -8 ≤ cO k ∧ cO k ≤ 7) :
    Go l Z ({ frames := 0, cells := 0, slots := 0, locals := 0 } : Room) ((⟨"com/example/orbifold/orbifold/solvers/BicgstabPreconditionPinLaw", "entry", "([I[D[III)D"⟩ : MethodName), method_5_code, 9, some .double) n0 (fun v h' => ∃ r, v = some (.double r) ∧ h' = h ∧ FP.Core.DInt (En cO cL j t n) r) h 0 0 0 #[.val (.ref co), .val (.ref cf), .val (.ref ts), .val (.int rv), .val (.int jv), .unset, .unset, .unset, .unset] [] := by
  have : n = 0 ∨ n = 1 ∨ n = 2 ∨ n = 3 := by omega
  rcases this with rfl | rfl | rfl | rfl
  · exact entry_0 l Z a0 hw A1 A3 A4 hr hrow hj hs hs2 he he2 ht hcol hcf hco
  · exact entry_1 l Z a0 hw A1 A3 A4 hr hrow hj hs hs2 he he2 ht hcol hcf hco
  · exact entry_2 l Z a0 hw A1 A3 A4 hr hrow hj hs hs2 he he2 ht hcol hcf hco
  · exact entry_3 l Z a0 hw A1 A3 A4 hr hrow hj hs hs2 he he2 ht hcol hcf hco
set_option maxRecDepth 65536 in
set_option maxHeartbeats 40000000 in
theorem pB (l : Launch) (Z : State) (a0 : Array Value) (hw : ∀ d ∈ tables_1, d.before a0 Z = true) {n0 : Nat} {h : Heap} {a f3 p1 p2 p3 p4 p5 p6 va im : Nat} {bs as_ : List Int32} {colV : Nat → Int32} {cF : Nat → UInt64} {cL : Nat → Nat} {Y cO : Nat → Int} {rs : List UInt64} {BL AL : List Nat} (H : Iv Z n0 h a f3 p1 p2 p3 p4 p5 p6 bs as_ colV cF BL AL 0 0) (V : ArD Z h im rs) (hcf : ∀ k, k < 9 → FP.Core.DInt (cO k) (cF k)) (hco : ∀ k, -8 ≤ cO k ∧ cO k ≤ 7) (hcol : ∀ k, k < 9 → (colV k).toInt = (cL k : Int) ∧ cL k < 3) {Q : Option Value → Heap → Prop} {i M : Nat} {iv ev : Int32} {post : List Nat} (hi : iv.toInt = (i : Int)) (hi1 : (iv + 1).toInt = ((i + 1 : Nat) : Int)) (he : bs[i + 1]? = some ev) : ∀ (r X : List Nat) (k : Int32) (s : UInt64) (x : Int) (Bd : Nat), BL = X ++ (r ++ post) → k.toInt = (X.length : Int) → ev.toInt = ((X ++ r).length : Int) → (∀ t ∈ r, t < 9 ∧ (∃ y, rs[cL t]? = some y ∧ FP.Core.DInt (Y (cL t)) y ∧ (-(M : Int) ≤ Y (cL t) ∧ Y (cL t) ≤ (M : Int)))) → FP.Core.DInt x s → (-(Bd : Int) ≤ x ∧ x ≤ (Bd : Int)) → Bd + 8 * M * r.length ≤ 9007199254740992 →
    (∀ k2 s2, FP.Core.DInt (x + sumL cO Y cL r) s2 → Go l Z ({ frames := 0, cells := 0, slots := 0, locals := 0 } : Room) ((⟨"com/example/orbifold/orbifold/solvers/Bicgstab$Equations", "precondition", "([D[D)V"⟩ : MethodName), prog_170_method_7_code, 7, none) n0 Q h 0 0 64 #[.val (.ref a), .val (.ref va), .val (.ref im), .val (.int iv), .val (.double s2), .second, .val (.int k2)] []) → Go l Z ({ frames := 0, cells := 0, slots := 0, locals := 0 } : Room) ((⟨"com/example/orbifold/orbifold/solvers/Bicgstab$Equations", "precondition", "([D[D)V"⟩ : MethodName), prog_170_method_7_code, 7, none) n0 Q h 0 0 23 #[.val (.ref a), .val (.ref va), .val (.ref im), .val (.int iv), .val (.double s), .second, .val (.int k)] [] := by
  intro r
  induction r with
  | nil =>
    intro X k s x Bd hL hk hev hr hx hxb hbd kk
    refine Go.iload 25 d10_23 rfl rfl ?_
    refine Go.aloadN 26 d10_25 rfl rfl rfl ?_
    refine Go.getf 29 (hw _ (List.mem_of_getElem? (i := 33) rfl)) H.1.2.2.1 d10_26 rfl ?_
    refine Go.iloadN 30 d10_29 rfl rfl ?_
    refine Go.iconst 31 (1 : Int32) d10_30 rfl (by decide) ?_
    refine Go.iadd 32 (iv + (1 : Int32)) d10_31 rfl rfl ?_
    refine Go.iaload 33 H.2.1 hi1 he d10_32 rfl ?_
    refine Go.icmpT 64 d10_33 (by decide) (by decide) (show (ev).toInt ≤ (k).toInt from by rw [List.append_nil] at hev; omega) ?_
    exact kk k s (by simpa [sumL] using hx)
  | cons t r ih =>
    intro X k s x Bd hL hk hev hr hx hxb hbd kk
    refine Go.iload 25 d10_23 rfl rfl ?_
    refine Go.aloadN 26 d10_25 rfl rfl rfl ?_
    refine Go.getf 29 (hw _ (List.mem_of_getElem? (i := 33) rfl)) H.1.2.2.1 d10_26 rfl ?_
    refine Go.iloadN 30 d10_29 rfl rfl ?_
    refine Go.iconst 31 (1 : Int32) d10_30 rfl (by decide) ?_
    refine Go.iadd 32 (iv + (1 : Int32)) d10_31 rfl rfl ?_
    refine Go.iaload 33 H.2.1 hi1 he d10_32 rfl ?_
    refine Go.icmpF 36 d10_33 rfl (show (k).toInt < (ev).toInt from by rw [hk, hev]; simp only [List.length_append, List.length_cons]; omega) ?_
    obtain ⟨t9, tY⟩ := hr t (List.mem_cons_self ..)
    obtain ⟨y1, y2⟩ := hcol t t9
    have u1 := hcf t t9
    have u2 := hco t
    simp only [List.length_cons] at hbd
    rw [Nat.mul_add_one] at hbd
    have eL : BL = X ++ (t :: (r ++ post)) := by first | exact hL | simpa using hL
    have lL := H.2.2.2.1.len
    rw [eL] at lL
    simp only [List.length_map, List.length_append, List.length_cons, List.length_replicate] at lL
    obtain ⟨yv, z1, z2, z3⟩ := tY
    have pb := prod_m u2 z3
    obtain ⟨pv, pq, pd⟩ := mulI u1 z2 (by omega) (by omega)
    obtain ⟨sv, sq, sd⟩ := addI hx pd (by omega) (by omega)
    refine Go.dload 38 d10_36 rfl rfl ?_
    refine Go.aloadN 39 d10_38 rfl rfl rfl ?_
    refine Go.getf 42 (hw _ (List.mem_of_getElem? (i := 48) rfl)) H.1.2.2.2.2.2.1 d10_39 rfl ?_
    refine Go.iload 44 d10_42 rfl rfl ?_
    refine Go.daload 45 H.2.2.2.2.1 hk (by rw [eL]; exact mid cF 0 X (r ++ post) t) d10_44 rfl ?_
    refine Go.aloadN 46 d10_45 rfl rfl rfl ?_
    refine Go.aloadN 47 d10_46 rfl rfl rfl ?_
    refine Go.getf 50 (hw _ (List.mem_of_getElem? (i := 46) rfl)) H.1.2.2.2.2.1 d10_47 rfl ?_
    refine Go.iload 52 d10_50 rfl rfl ?_
    refine Go.iaload 53 H.2.2.2.1 hk (by rw [eL]; exact mid colV 0 X (r ++ post) t) d10_52 rfl ?_
    refine Go.daload 54 V y1 z1 d10_53 rfl ?_
    refine Go.dmul 55 pv d10_54 rfl pq.1 pq.2 ?_
    refine Go.dadd 56 sv d10_55 rfl sq.1 sq.2 ?_
    refine Go.dstore 58 #[.val (.ref a), .val (.ref va), .val (.ref im), .val (.int iv), .val (.double sv), .second, .val (.int k)] d10_56 rfl rfl ?_
    refine Go.iinc 61 #[.val (.ref a), .val (.ref va), .val (.ref im), .val (.int iv), .val (.double sv), .second, .val (.int (k + (1 : Int32)))] (k + (1 : Int32)) d10_58 rfl rfl rfl rfl ?_
    refine Go.goto 23 d10_61 (by decide) (by decide) ?_
    refine ih (X ++ [t]) (k + 1) sv (x + cO t * Y (cL t)) (Bd + 8 * M) (by simp [eL]) (toInt_add (b := 1) hk (by decide) (by omega) (by omega) (by simp only [List.length_append, List.length_cons, List.length_nil]; omega)) (by rw [hev]; simp) (fun q hq => hr q (List.mem_cons_of_mem _ hq)) sd (by omega) (by omega) ?_
    intro k2 s2 q2
    refine kk k2 s2 (dint_cast q2 ?_)
    rw [sumL_s]; omega
set_option maxRecDepth 65536 in
set_option maxHeartbeats 40000000 in
theorem pA (l : Launch) (Z : State) (a0 : Array Value) (hw : ∀ d ∈ tables_1, d.before a0 Z = true) {n0 : Nat} {h : Heap} {a f3 p1 p2 p3 p4 p5 p6 va im : Nat} {bs as_ : List Int32} {colV : Nat → Int32} {cF : Nat → UInt64} {cL : Nat → Nat} {Y cO : Nat → Int} {rs : List UInt64} {BL AL : List Nat} (H : Iv Z n0 h a f3 p1 p2 p3 p4 p5 p6 bs as_ colV cF BL AL 0 0) (V : ArD Z h im rs) (hcf : ∀ k, k < 9 → FP.Core.DInt (cO k) (cF k)) (hco : ∀ k, -8 ≤ cO k ∧ cO k ≤ 7) (hcol : ∀ k, k < 9 → (colV k).toInt = (cL k : Int) ∧ cL k < 3) {Q : Option Value → Heap → Prop} {i M : Nat} {iv ev : Int32} {post : List Nat} (hi : iv.toInt = (i : Int)) (hi1 : (iv + 1).toInt = ((i + 1 : Nat) : Int)) (he : as_[i + 1]? = some ev) : ∀ (r X : List Nat) (k : Int32) (s : UInt64) (x : Int) (Bd : Nat), AL = X ++ (r ++ post) → k.toInt = (X.length : Int) → ev.toInt = ((X ++ r).length : Int) → (∀ t ∈ r, t < 9 ∧ (cL t ≠ i → ∃ y, rs[cL t]? = some y ∧ FP.Core.DInt (Y (cL t)) y ∧ (-(M : Int) ≤ Y (cL t) ∧ Y (cL t) ≤ (M : Int)))) → FP.Core.DInt x s → (-(Bd : Int) ≤ x ∧ x ≤ (Bd : Int)) → Bd + 8 * M * r.length ≤ 9007199254740992 →
    (∀ k2 s2, FP.Core.DInt (x + sumS cO Y cL i r) s2 → Go l Z ({ frames := 0, cells := 0, slots := 0, locals := 0 } : Room) ((⟨"com/example/orbifold/orbifold/solvers/Bicgstab$Equations", "precondition", "([D[D)V"⟩ : MethodName), prog_170_method_7_code, 7, none) n0 Q h 0 0 151 #[.val (.ref a), .val (.ref va), .val (.ref im), .val (.int iv), .val (.double s2), .second, .val (.int k2)] []) → Go l Z ({ frames := 0, cells := 0, slots := 0, locals := 0 } : Room) ((⟨"com/example/orbifold/orbifold/solvers/Bicgstab$Equations", "precondition", "([D[D)V"⟩ : MethodName), prog_170_method_7_code, 7, none) n0 Q h 0 0 99 #[.val (.ref a), .val (.ref va), .val (.ref im), .val (.int iv), .val (.double s), .second, .val (.int k)] [] := by
  intro r
  induction r with
  | nil =>
    intro X k s x Bd hL hk hev hr hx hxb hbd kk
    refine Go.iload 101 d10_99 rfl rfl ?_
    refine Go.aloadN 102 d10_101 rfl rfl rfl ?_
    refine Go.getf 105 (hw _ (List.mem_of_getElem? (i := 35) rfl)) H.1.2.2.2.1 d10_102 rfl ?_
    refine Go.iloadN 106 d10_105 rfl rfl ?_
    refine Go.iconst 107 (1 : Int32) d10_106 rfl (by decide) ?_
    refine Go.iadd 108 (iv + (1 : Int32)) d10_107 rfl rfl ?_
    refine Go.iaload 109 H.2.2.1 hi1 he d10_108 rfl ?_
    refine Go.icmpT 151 d10_109 (by decide) (by decide) (show (ev).toInt ≤ (k).toInt from by rw [List.append_nil] at hev; omega) ?_
    exact kk k s (by simpa [sumS] using hx)
  | cons t r ih =>
    intro X k s x Bd hL hk hev hr hx hxb hbd kk
    refine Go.iload 101 d10_99 rfl rfl ?_
    refine Go.aloadN 102 d10_101 rfl rfl rfl ?_
    refine Go.getf 105 (hw _ (List.mem_of_getElem? (i := 35) rfl)) H.1.2.2.2.1 d10_102 rfl ?_
    refine Go.iloadN 106 d10_105 rfl rfl ?_
    refine Go.iconst 107 (1 : Int32) d10_106 rfl (by decide) ?_
    refine Go.iadd 108 (iv + (1 : Int32)) d10_107 rfl rfl ?_
    refine Go.iaload 109 H.2.2.1 hi1 he d10_108 rfl ?_
    refine Go.icmpF 112 d10_109 rfl (show (k).toInt < (ev).toInt from by rw [hk, hev]; simp only [List.length_append, List.length_cons]; omega) ?_
    obtain ⟨t9, tY⟩ := hr t (List.mem_cons_self ..)
    obtain ⟨y1, y2⟩ := hcol t t9
    have u1 := hcf t t9
    have u2 := hco t
    simp only [List.length_cons] at hbd
    rw [Nat.mul_add_one] at hbd
    have eL : AL = X ++ (t :: (r ++ post)) := by first | exact hL | simpa using hL
    have lL := H.2.2.2.2.2.1.len
    rw [eL] at lL
    simp only [List.length_map, List.length_append, List.length_cons, List.length_replicate] at lL
    refine Go.aloadN 113 d10_112 rfl rfl rfl ?_
    refine Go.getf 116 (hw _ (List.mem_of_getElem? (i := 50) rfl)) H.1.2.2.2.2.2.2.1 d10_113 rfl ?_
    refine Go.iload 118 d10_116 rfl rfl ?_
    refine Go.iaload 119 H.2.2.2.2.2.1 hk (by rw [eL]; exact mid colV 0 X (r ++ post) t) d10_118 rfl ?_
    refine Go.iloadN 120 d10_119 rfl rfl ?_
    by_cases hq : cL t = i
    · refine Go.icmpT 145 d10_120 (by decide) (by decide) (show ((colV t)).toInt = (iv).toInt from by omega) ?_
      refine Go.iinc 148 #[.val (.ref a), .val (.ref va), .val (.ref im), .val (.int iv), .val (.double s), .second, .val (.int (k + (1 : Int32)))] (k + (1 : Int32)) d10_145 rfl rfl rfl rfl ?_
      refine Go.goto 99 d10_148 (by decide) (by decide) ?_
      refine ih (X ++ [t]) (k + 1) s (x) (Bd) (by simp [eL]) (toInt_add (b := 1) hk (by decide) (by omega) (by omega) (by simp only [List.length_append, List.length_cons, List.length_nil]; omega)) (by rw [hev]; simp) (fun q hq => hr q (List.mem_cons_of_mem _ hq)) hx (by omega) (by omega) ?_
      intro k2 s2 q2
      refine kk k2 s2 (dint_cast q2 ?_)
      rw [sumS_s, if_pos hq, Int.zero_add]
    · refine Go.icmpF 123 d10_120 rfl (show ((colV t)).toInt ≠ (iv).toInt from by omega) ?_
      obtain ⟨yv, z1, z2, z3⟩ := tY hq
      have pb := prod_m u2 z3
      obtain ⟨pv, pq, pd⟩ := mulI u1 z2 (by omega) (by omega)
      obtain ⟨sv, sq, sd⟩ := addI hx pd (by omega) (by omega)
      refine Go.dload 125 d10_123 rfl rfl ?_
      refine Go.aloadN 126 d10_125 rfl rfl rfl ?_
      refine Go.getf 129 (hw _ (List.mem_of_getElem? (i := 52) rfl)) H.1.2.2.2.2.2.2.2 d10_126 rfl ?_
      refine Go.iload 131 d10_129 rfl rfl ?_
      refine Go.daload 132 H.2.2.2.2.2.2.1 hk (by rw [eL]; exact mid cF 0 X (r ++ post) t) d10_131 rfl ?_
      refine Go.aloadN 133 d10_132 rfl rfl rfl ?_
      refine Go.aloadN 134 d10_133 rfl rfl rfl ?_
      refine Go.getf 137 (hw _ (List.mem_of_getElem? (i := 50) rfl)) H.1.2.2.2.2.2.2.1 d10_134 rfl ?_
      refine Go.iload 139 d10_137 rfl rfl ?_
      refine Go.iaload 140 H.2.2.2.2.2.1 hk (by rw [eL]; exact mid colV 0 X (r ++ post) t) d10_139 rfl ?_
      refine Go.daload 141 V y1 z1 d10_140 rfl ?_
      refine Go.dmul 142 pv d10_141 rfl pq.1 pq.2 ?_
      refine Go.dadd 143 sv d10_142 rfl sq.1 sq.2 ?_
      refine Go.dstore 145 #[.val (.ref a), .val (.ref va), .val (.ref im), .val (.int iv), .val (.double sv), .second, .val (.int k)] d10_143 rfl rfl ?_
      refine Go.iinc 148 #[.val (.ref a), .val (.ref va), .val (.ref im), .val (.int iv), .val (.double sv), .second, .val (.int (k + (1 : Int32)))] (k + (1 : Int32)) d10_145 rfl rfl rfl rfl ?_
      refine Go.goto 99 d10_148 (by decide) (by decide) ?_
      refine ih (X ++ [t]) (k + 1) sv (x + cO t * Y (cL t)) (Bd + 8 * M) (by simp [eL]) (toInt_add (b := 1) hk (by decide) (by omega) (by omega) (by simp only [List.length_append, List.length_cons, List.length_nil]; omega)) (by rw [hev]; simp) (fun q hq => hr q (List.mem_cons_of_mem _ hq)) sd (by omega) (by omega) ?_
      intro k2 s2 q2
      refine kk k2 s2 (dint_cast q2 ?_)
      rw [sumS_s, if_neg hq]; omega
set_option maxRecDepth 65536 in
set_option maxHeartbeats 40000000 in
theorem pre_go (l : Launch) (Z : State) (a0 : Array Value) (hw : ∀ d ∈ tables_1, d.before a0 Z = true) {n0 : Nat} {h : Heap} {a f3 p1 p2 p3 p4 p5 p6 va im : Nat} {b0 b1 b2 b3 c0 c1 c2 c3 : Int32} {t_0 t_1 t_2 n_0 n_1 n_2 : Nat} {colV : Nat → Int32} {cF : Nat → UInt64} {cL : Nat → Nat} {cO : Nat → Int} {x0 x1 x2 m0 m1 m2 : UInt64} (H : Iv Z n0 h a f3 p1 p2 p3 p4 p5 p6 [b0, b1, b2, b3] [c0, c1, c2, c3] colV cF ((rB cL 0 t_0 n_0) ++ (rB cL 1 t_1 n_1) ++ (rB cL 2 t_2 n_2)) ((rA cL 0 t_0 n_0) ++ (rA cL 1 t_1 n_1) ++ (rA cL 2 t_2 n_2)) 0 0) (V : ArD Z h va [x0, x1, x2]) (M0 : ArD Z h im [m0, m1, m2]) (hcf : ∀ k, k < 9 → FP.Core.DInt (cO k) (cF k)) (hco : ∀ k, -8 ≤ cO k ∧ cO k ≤ 7) (hcol : ∀ k, k < 9 → (colV k).toInt = (cL k : Int) ∧ cL k < 3) (hc3 : ∀ k, cL k < 3) (SB : St4 b0 b1 b2 b3 (rB cL 0 t_0 n_0) (rB cL 1 t_1 n_1) (rB cL 2 t_2 n_2)) (SA : St4 c0 c1 c2 c3 (rA cL 0 t_0 n_0) (rA cL 1 t_1 n_1) (rA cL 2 t_2 n_2)) (hn : n_0 ≤ 3 ∧ n_1 ≤ 3 ∧ n_2 ≤ 3 ∧ t_0 + n_0 ≤ 9 ∧ t_1 + n_1 ≤ 9 ∧ t_2 + n_2 ≤ 9) (ov : p6 < va) (oi : va < im) {u0 u1 u2 : Int} (du0 : FP.Core.DInt u0 x0) (du1 : FP.Core.DInt u1 x1) (du2 : FP.Core.DInt u2 x2) (hu0 : -2147483648 ≤ u0 ∧ u0 ≤ 2147483648) (hu1 : -2147483648 ≤ u1 ∧ u1 ≤ 2147483648) (hu2 : -2147483648 ≤ u2 ∧ u2 ≤ 2147483648) :
    Go l Z ({ frames := 0, cells := 0, slots := 0, locals := 0 } : Room) ((⟨"com/example/orbifold/orbifold/solvers/Bicgstab$Equations", "precondition", "([D[D)V"⟩ : MethodName), prog_170_method_7_code, 7, none) n0 (fun v h' => v = none ∧ (∀ b ty ws, ArV Z h b ty ws → b ≠ im → ArV Z h' b ty ws) ∧ ∃ r0 r1 r2 y1 z1 z0 y2, ArD Z h' im [r0, r1, r2] ∧ FP.Core.DInt z0 r0 ∧ FP.Core.DInt z1 r1 ∧ FP.Core.DInt y2 r2 ∧ y1 = u1 + En cO cL 0 t_1 n_1 * u0 ∧ y2 = u2 + (En cO cL 0 t_2 n_2 * u0 + En cO cL 1 t_2 n_2 * y1) ∧ z1 = y1 + En cO cL 2 t_1 n_1 * y2 ∧ z0 = u0 + (En cO cL 1 t_0 n_0 * z1 + En cO cL 2 t_0 n_0 * y2) ∧ (-53687091200 ≤ y1 ∧ y1 ≤ 53687091200) ∧ (-1400000000000 ≤ y2 ∧ y2 ≤ 1400000000000) ∧ (-34000000000000 ≤ z1 ∧ z1 ≤ 34000000000000) ∧ -900000000000000 ≤ z0 ∧ z0 ≤ 900000000000000) h 0 0 0 #[.val (.ref a), .val (.ref va), .val (.ref im), .unset, .unset, .unset, .unset] [] := by
  have oH := H.2.2.2.2.2.2.2
  have l0 := rAB_len cL 0 n_0 t_0
  have e00 := En_b (cL := cL) (j := 0) hco n_0 t_0
  have e01 := En_b (cL := cL) (j := 1) hco n_0 t_0
  have e02 := En_b (cL := cL) (j := 2) hco n_0 t_0
  have l1 := rAB_len cL 1 n_1 t_1
  have e10 := En_b (cL := cL) (j := 0) hco n_1 t_1
  have e11 := En_b (cL := cL) (j := 1) hco n_1 t_1
  have e12 := En_b (cL := cL) (j := 2) hco n_1 t_1
  have l2 := rAB_len cL 2 n_2 t_2
  have e20 := En_b (cL := cL) (j := 0) hco n_2 t_2
  have e21 := En_b (cL := cL) (j := 1) hco n_2 t_2
  have e22 := En_b (cL := cL) (j := 2) hco n_2 t_2
  obtain ⟨y1, hy1⟩ : ∃ y1, y1 = u1 + En cO cL 0 t_1 n_1 * u0 := ⟨_, rfl⟩
  obtain ⟨y2, hy2⟩ : ∃ y2, y2 = u2 + (En cO cL 0 t_2 n_2 * u0 + En cO cL 1 t_2 n_2 * y1) := ⟨_, rfl⟩
  obtain ⟨z1, hz1⟩ : ∃ z1, z1 = y1 + En cO cL 2 t_1 n_1 * y2 := ⟨_, rfl⟩
  obtain ⟨z0, hz0⟩ : ∃ z0, z0 = u0 + (En cO cL 1 t_0 n_0 * z1 + En cO cL 2 t_0 n_0 * y2) := ⟨_, rfl⟩
  have a1 := prod_e (M := 2147483648) (show -24 ≤ En cO cL 0 t_1 n_1 ∧ En cO cL 0 t_1 n_1 ≤ 24 by omega) hu0
  have by1 : -53687091200 ≤ y1 ∧ y1 ≤ 53687091200 := by omega
  have a2 := prod_e (M := 2147483648) (show -24 ≤ En cO cL 0 t_2 n_2 ∧ En cO cL 0 t_2 n_2 ≤ 24 by omega) hu0
  have a3 := prod_e (M := 53687091200) (show -24 ≤ En cO cL 1 t_2 n_2 ∧ En cO cL 1 t_2 n_2 ≤ 24 by omega) by1
  have by2 : -1400000000000 ≤ y2 ∧ y2 ≤ 1400000000000 := by omega
  have a4 := prod_e (M := 1400000000000) (show -24 ≤ En cO cL 2 t_1 n_1 ∧ En cO cL 2 t_1 n_1 ≤ 24 by omega) by2
  have bz1 : -34000000000000 ≤ z1 ∧ z1 ≤ 34000000000000 := by omega
  have a5 := prod_e (M := 34000000000000) (show -24 ≤ En cO cL 1 t_0 n_0 ∧ En cO cL 1 t_0 n_0 ≤ 24 by omega) bz1
  have a6 := prod_e (M := 1400000000000) (show -24 ≤ En cO cL 2 t_0 n_0 ∧ En cO cL 2 t_0 n_0 ≤ 24 by omega) by2
  have bz0 : -900000000000000 ≤ z0 ∧ z0 ≤ 900000000000000 := by omega
  refine Go.iconst 1 (0 : Int32) d10_0 rfl (by decide) ?_
  refine Go.istoreN 2 #[.val (.ref a), .val (.ref va), .val (.ref im), .val (.int (0 : Int32)), .unset, .unset, .unset] d10_1 rfl rfl ?_
  refine Go.iloadN 3 d10_2 rfl rfl ?_
  refine Go.aloadN 4 d10_3 rfl rfl rfl ?_
  refine Go.getf 7 (hw _ (List.mem_of_getElem? (i := 31) rfl)) H.1.2.1 d10_4 rfl ?_
  refine Go.icmpF 10 d10_7 rfl (show (0 : Int) < (3 : Int) from by decide) ?_
  refine Go.aloadN 11 d10_10 rfl rfl rfl ?_
  refine Go.iloadN 12 d10_11 rfl rfl ?_
  refine Go.daload 13 V (i := 0) (by decide) rfl d10_12 rfl ?_
  refine Go.dstore 15 #[.val (.ref a), .val (.ref va), .val (.ref im), .val (.int (0 : Int32)), .val (.double x0), .second, .unset] d10_13 rfl rfl ?_
  refine Go.aloadN 16 d10_15 rfl rfl rfl ?_
  refine Go.getf 19 (hw _ (List.mem_of_getElem? (i := 33) rfl)) H.1.2.2.1 d10_16 rfl ?_
  refine Go.iloadN 20 d10_19 rfl rfl ?_
  refine Go.iaload 21 H.2.1 (i := 0) (by decide) rfl d10_20 rfl ?_
  refine Go.istore 23 #[.val (.ref a), .val (.ref va), .val (.ref im), .val (.int (0 : Int32)), .val (.double x0), .second, .val (.int b0)] d10_21 rfl rfl ?_
  refine pB l Z a0 hw H M0 hcf hco hcol (Y := (pick u0 0 0)) (M := 2147483648) (i := 0) (by decide) (by decide) rfl (post := ((rB cL 1 t_1 n_1) ++ (rB cL 2 t_2 n_2))) (rB cL 0 t_0 n_0) ([] : List Nat) b0 x0 u0 2147483648 (by simp) (by first | exact SB.1 | simpa using SB.1) (by simpa using SB.2.1) (fun t ht => absurd (rB_mem ht).2.2 (Nat.not_lt_zero _)) du0 (by omega) (by omega) ?_
  intro k0 s0 d0
  refine Go.aloadN 65 d10_64 rfl rfl rfl ?_
  refine Go.iloadN 66 d10_65 rfl rfl ?_
  refine Go.dload 68 d10_66 rfl rfl ?_
  refine Go.dastore 69 M0 (i := 0) (by decide) (leB rfl) (by omega) d10_68 rfl ?_
  intro h1 K1 Mx1
  have M1 : ArD Z h1 im [s0, m1, m2] := Mx1
  have H1 := H.off K1 (by omega)
  have V1 := V.keep K1 (ninN (by omega) nin0)
  have dm0 : FP.Core.DInt u0 s0 := dint_cast d0 (by rw [sB0, Int.add_zero])
  refine Go.iinc 72 #[.val (.ref a), .val (.ref va), .val (.ref im), .val (.int (1 : Int32)), .val (.double s0), .second, .val (.int k0)] (1 : Int32) d10_69 rfl rfl (by decide) rfl ?_
  refine Go.goto 2 d10_72 (by decide) (by decide) ?_
  refine Go.iloadN 3 d10_2 rfl rfl ?_
  refine Go.aloadN 4 d10_3 rfl rfl rfl ?_
  refine Go.getf 7 (hw _ (List.mem_of_getElem? (i := 31) rfl)) H1.1.2.1 d10_4 rfl ?_
  refine Go.icmpF 10 d10_7 rfl (show (1 : Int) < (3 : Int) from by decide) ?_
  refine Go.aloadN 11 d10_10 rfl rfl rfl ?_
  refine Go.iloadN 12 d10_11 rfl rfl ?_
  refine Go.daload 13 V1 (i := 1) (by decide) rfl d10_12 rfl ?_
  refine Go.dstore 15 #[.val (.ref a), .val (.ref va), .val (.ref im), .val (.int (1 : Int32)), .val (.double x1), .second, .val (.int k0)] d10_13 rfl rfl ?_
  refine Go.aloadN 16 d10_15 rfl rfl rfl ?_
  refine Go.getf 19 (hw _ (List.mem_of_getElem? (i := 33) rfl)) H1.1.2.2.1 d10_16 rfl ?_
  refine Go.iloadN 20 d10_19 rfl rfl ?_
  refine Go.iaload 21 H1.2.1 (i := 1) (by decide) rfl d10_20 rfl ?_
  refine Go.istore 23 #[.val (.ref a), .val (.ref va), .val (.ref im), .val (.int (1 : Int32)), .val (.double x1), .second, .val (.int b1)] d10_21 rfl rfl ?_
  refine pB l Z a0 hw H1 M1 hcf hco hcol (Y := (pick u0 0 0)) (M := 2147483648) (i := 1) (by decide) (by decide) rfl (post := (rB cL 2 t_2 n_2)) (rB cL 1 t_1 n_1) (rB cL 0 t_0 n_0) b1 x1 u1 2147483648 (by simp) (by first | exact SB.2.1 | simpa using SB.2.1) (by simpa using SB.2.2.1) (by
    intro t ht
    have hm := rB_mem ht
    have q0 : cL t = 0 := by omega
    refine ⟨by omega, ?_⟩
    rw [q0]
    exact ⟨s0, rfl, dm0, by show -((2147483648 : Nat) : Int) ≤ u0 ∧ u0 ≤ ((2147483648 : Nat) : Int); omega⟩) du1 (by omega) (by omega) ?_
  intro k1 s1 d1
  refine Go.aloadN 65 d10_64 rfl rfl rfl ?_
  refine Go.iloadN 66 d10_65 rfl rfl ?_
  refine Go.dload 68 d10_66 rfl rfl ?_
  refine Go.dastore 69 M1 (i := 1) (by decide) (leB rfl) (by omega) d10_68 rfl ?_
  intro h2 K2 Mx2
  have M2 : ArD Z h2 im [s0, s1, m2] := Mx2
  have H2 := H1.off K2 (by omega)
  have V2 := V1.keep K2 (ninN (by omega) nin0)
  have dm1 : FP.Core.DInt y1 s1 := dint_cast d1 (by rw [sB1]; exact hy1.symm)
  refine Go.iinc 72 #[.val (.ref a), .val (.ref va), .val (.ref im), .val (.int (2 : Int32)), .val (.double s1), .second, .val (.int k1)] (2 : Int32) d10_69 rfl rfl (by decide) rfl ?_
  refine Go.goto 2 d10_72 (by decide) (by decide) ?_
  refine Go.iloadN 3 d10_2 rfl rfl ?_
  refine Go.aloadN 4 d10_3 rfl rfl rfl ?_
  refine Go.getf 7 (hw _ (List.mem_of_getElem? (i := 31) rfl)) H2.1.2.1 d10_4 rfl ?_
  refine Go.icmpF 10 d10_7 rfl (show (2 : Int) < (3 : Int) from by decide) ?_
  refine Go.aloadN 11 d10_10 rfl rfl rfl ?_
  refine Go.iloadN 12 d10_11 rfl rfl ?_
  refine Go.daload 13 V2 (i := 2) (by decide) rfl d10_12 rfl ?_
  refine Go.dstore 15 #[.val (.ref a), .val (.ref va), .val (.ref im), .val (.int (2 : Int32)), .val (.double x2), .second, .val (.int k1)] d10_13 rfl rfl ?_
  refine Go.aloadN 16 d10_15 rfl rfl rfl ?_
  refine Go.getf 19 (hw _ (List.mem_of_getElem? (i := 33) rfl)) H2.1.2.2.1 d10_16 rfl ?_
  refine Go.iloadN 20 d10_19 rfl rfl ?_
  refine Go.iaload 21 H2.2.1 (i := 2) (by decide) rfl d10_20 rfl ?_
  refine Go.istore 23 #[.val (.ref a), .val (.ref va), .val (.ref im), .val (.int (2 : Int32)), .val (.double x2), .second, .val (.int b2)] d10_21 rfl rfl ?_
  refine pB l Z a0 hw H2 M2 hcf hco hcol (Y := (pick u0 y1 0)) (M := 53687091200) (i := 2) (by decide) (by decide) rfl (post := ([] : List Nat)) (rB cL 2 t_2 n_2) ((rB cL 0 t_0 n_0) ++ (rB cL 1 t_1 n_1)) b2 x2 u2 2147483648 (by simp) (by first | exact SB.2.2.1 | simpa using SB.2.2.1) (by simpa using SB.2.2.2) (by
    intro t ht
    have hm := rB_mem ht
    have : cL t = 0 ∨ cL t = 1 := by omega
    refine ⟨by omega, ?_⟩
    rcases this with q0 | q0 <;> rw [q0]
    · exact ⟨s0, rfl, dm0, by show -((53687091200 : Nat) : Int) ≤ u0 ∧ u0 ≤ ((53687091200 : Nat) : Int); omega⟩
    · exact ⟨s1, rfl, dm1, by show -((53687091200 : Nat) : Int) ≤ y1 ∧ y1 ≤ ((53687091200 : Nat) : Int); omega⟩) du2 (by omega) (by omega) ?_
  intro k2 s2 d2
  refine Go.aloadN 65 d10_64 rfl rfl rfl ?_
  refine Go.iloadN 66 d10_65 rfl rfl ?_
  refine Go.dload 68 d10_66 rfl rfl ?_
  refine Go.dastore 69 M2 (i := 2) (by decide) (leB rfl) (by omega) d10_68 rfl ?_
  intro h3 K3 Mx3
  have M3 : ArD Z h3 im [s0, s1, s2] := Mx3
  have H3 := H2.off K3 (by omega)
  have V3 := V2.keep K3 (ninN (by omega) nin0)
  have dm2 : FP.Core.DInt y2 s2 := dint_cast d2 (by rw [sB2]; exact hy2.symm)
  refine Go.iinc 72 #[.val (.ref a), .val (.ref va), .val (.ref im), .val (.int (3 : Int32)), .val (.double s2), .second, .val (.int k2)] (3 : Int32) d10_69 rfl rfl (by decide) rfl ?_
  refine Go.goto 2 d10_72 (by decide) (by decide) ?_
  refine Go.iloadN 3 d10_2 rfl rfl ?_
  refine Go.aloadN 4 d10_3 rfl rfl rfl ?_
  refine Go.getf 7 (hw _ (List.mem_of_getElem? (i := 31) rfl)) H3.1.2.1 d10_4 rfl ?_
  refine Go.icmpT 75 d10_7 (by decide) (by decide) (show (3 : Int) ≤ (3 : Int) from by decide) ?_
  refine Go.aloadN 76 d10_75 rfl rfl rfl ?_
  refine Go.getf 79 (hw _ (List.mem_of_getElem? (i := 31) rfl)) H3.1.2.1 d10_76 rfl ?_
  refine Go.iconst 80 (1 : Int32) d10_79 rfl (by decide) ?_
  refine Go.isub 81 (2 : Int32) d10_80 rfl (by decide) ?_
  refine Go.istoreN 82 #[.val (.ref a), .val (.ref va), .val (.ref im), .val (.int (2 : Int32)), .val (.double s2), .second, .val (.int k2)] d10_81 rfl rfl ?_
  refine Go.iloadN 83 d10_82 rfl rfl ?_
  refine Go.ifCF 86 d10_83 rfl (show 0 ≤ (2 : Int) from by decide) ?_
  refine Go.aloadN 87 d10_86 rfl rfl rfl ?_
  refine Go.iloadN 88 d10_87 rfl rfl ?_
  refine Go.daload 89 M3 (i := 2) (by decide) rfl d10_88 rfl ?_
  refine Go.dstore 91 #[.val (.ref a), .val (.ref va), .val (.ref im), .val (.int (2 : Int32)), .val (.double s2), .second, .val (.int k2)] d10_89 rfl rfl ?_
  refine Go.aloadN 92 d10_91 rfl rfl rfl ?_
  refine Go.getf 95 (hw _ (List.mem_of_getElem? (i := 35) rfl)) H3.1.2.2.2.1 d10_92 rfl ?_
  refine Go.iloadN 96 d10_95 rfl rfl ?_
  refine Go.iaload 97 H3.2.2.1 (i := 2) (by decide) rfl d10_96 rfl ?_
  refine Go.istore 99 #[.val (.ref a), .val (.ref va), .val (.ref im), .val (.int (2 : Int32)), .val (.double s2), .second, .val (.int c2)] d10_97 rfl rfl ?_
  refine pA l Z a0 hw H3 M3 hcf hco hcol (Y := (pick 0 0 y2)) (M := 1400000000000) (i := 2) (by decide) (by decide) rfl (post := ([] : List Nat)) (rA cL 2 t_2 n_2) ((rA cL 0 t_0 n_0) ++ (rA cL 1 t_1 n_1)) c2 s2 y2 1400000000000 (by simp) (by first | exact SA.2.2.1 | simpa using SA.2.2.1) (by simpa using SA.2.2.2) (by
    intro t ht
    have hm := rA_mem ht
    have h3 := (hcol t (by omega)).2
    exact ⟨by omega, fun q => absurd (show cL t = 2 by omega) q⟩) dm2 (by omega) (by omega) ?_
  intro kk2 r2 dr2
  refine Go.aloadN 152 d10_151 rfl rfl rfl ?_
  refine Go.iloadN 153 d10_152 rfl rfl ?_
  refine Go.dload 155 d10_153 rfl rfl ?_
  refine Go.dastore 156 M3 (i := 2) (by decide) (leB rfl) (by omega) d10_155 rfl ?_
  intro h4 K4 Mx4
  have M4 : ArD Z h4 im [s0, s1, r2] := Mx4
  have H4 := H3.off K4 (by omega)
  have V4 := V3.keep K4 (ninN (by omega) nin0)
  have dn2 : FP.Core.DInt y2 r2 := dint_cast dr2 (by rw [sA2 _ _ _ hc3, Int.add_zero])
  refine Go.iinc 159 #[.val (.ref a), .val (.ref va), .val (.ref im), .val (.int (1 : Int32)), .val (.double r2), .second, .val (.int kk2)] (1 : Int32) d10_156 rfl rfl (by decide) rfl ?_
  refine Go.goto 82 d10_159 (by decide) (by decide) ?_
  refine Go.iloadN 83 d10_82 rfl rfl ?_
  refine Go.ifCF 86 d10_83 rfl (show 0 ≤ (1 : Int) from by decide) ?_
  refine Go.aloadN 87 d10_86 rfl rfl rfl ?_
  refine Go.iloadN 88 d10_87 rfl rfl ?_
  refine Go.daload 89 M4 (i := 1) (by decide) rfl d10_88 rfl ?_
  refine Go.dstore 91 #[.val (.ref a), .val (.ref va), .val (.ref im), .val (.int (1 : Int32)), .val (.double s1), .second, .val (.int kk2)] d10_89 rfl rfl ?_
  refine Go.aloadN 92 d10_91 rfl rfl rfl ?_
  refine Go.getf 95 (hw _ (List.mem_of_getElem? (i := 35) rfl)) H4.1.2.2.2.1 d10_92 rfl ?_
  refine Go.iloadN 96 d10_95 rfl rfl ?_
  refine Go.iaload 97 H4.2.2.1 (i := 1) (by decide) rfl d10_96 rfl ?_
  refine Go.istore 99 #[.val (.ref a), .val (.ref va), .val (.ref im), .val (.int (1 : Int32)), .val (.double s1), .second, .val (.int c1)] d10_97 rfl rfl ?_
  refine pA l Z a0 hw H4 M4 hcf hco hcol (Y := (pick 0 0 y2)) (M := 1400000000000) (i := 1) (by decide) (by decide) rfl (post := (rA cL 2 t_2 n_2)) (rA cL 1 t_1 n_1) (rA cL 0 t_0 n_0) c1 s1 y1 53687091200 (by simp) (by first | exact SA.2.1 | simpa using SA.2.1) (by simpa using SA.2.2.1) (by
    intro t ht
    have hm := rA_mem ht
    have h3 := (hcol t (by omega)).2
    refine ⟨by omega, fun q => ?_⟩
    rw [show cL t = 2 by omega]
    exact ⟨r2, rfl, dn2, by show -((1400000000000 : Nat) : Int) ≤ y2 ∧ y2 ≤ ((1400000000000 : Nat) : Int); omega⟩) dm1 (by omega) (by omega) ?_
  intro kk1 r1 dr1
  refine Go.aloadN 152 d10_151 rfl rfl rfl ?_
  refine Go.iloadN 153 d10_152 rfl rfl ?_
  refine Go.dload 155 d10_153 rfl rfl ?_
  refine Go.dastore 156 M4 (i := 1) (by decide) (leB rfl) (by omega) d10_155 rfl ?_
  intro h5 K5 Mx5
  have M5 : ArD Z h5 im [s0, r1, r2] := Mx5
  have H5 := H4.off K5 (by omega)
  have V5 := V4.keep K5 (ninN (by omega) nin0)
  have dn1 : FP.Core.DInt z1 r1 := dint_cast dr1 (by rw [sA1 _ _ _ hc3]; exact hz1.symm)
  refine Go.iinc 159 #[.val (.ref a), .val (.ref va), .val (.ref im), .val (.int (0 : Int32)), .val (.double r1), .second, .val (.int kk1)] (0 : Int32) d10_156 rfl rfl (by decide) rfl ?_
  refine Go.goto 82 d10_159 (by decide) (by decide) ?_
  refine Go.iloadN 83 d10_82 rfl rfl ?_
  refine Go.ifCF 86 d10_83 rfl (show 0 ≤ (0 : Int) from by decide) ?_
  refine Go.aloadN 87 d10_86 rfl rfl rfl ?_
  refine Go.iloadN 88 d10_87 rfl rfl ?_
  refine Go.daload 89 M5 (i := 0) (by decide) rfl d10_88 rfl ?_
  refine Go.dstore 91 #[.val (.ref a), .val (.ref va), .val (.ref im), .val (.int (0 : Int32)), .val (.double s0), .second, .val (.int kk1)] d10_89 rfl rfl ?_
  refine Go.aloadN 92 d10_91 rfl rfl rfl ?_
  refine Go.getf 95 (hw _ (List.mem_of_getElem? (i := 35) rfl)) H5.1.2.2.2.1 d10_92 rfl ?_
  refine Go.iloadN 96 d10_95 rfl rfl ?_
  refine Go.iaload 97 H5.2.2.1 (i := 0) (by decide) rfl d10_96 rfl ?_
  refine Go.istore 99 #[.val (.ref a), .val (.ref va), .val (.ref im), .val (.int (0 : Int32)), .val (.double s0), .second, .val (.int c0)] d10_97 rfl rfl ?_
  refine pA l Z a0 hw H5 M5 hcf hco hcol (Y := (pick 0 z1 y2)) (M := 34000000000000) (i := 0) (by decide) (by decide) rfl (post := ((rA cL 1 t_1 n_1) ++ (rA cL 2 t_2 n_2))) (rA cL 0 t_0 n_0) ([] : List Nat) c0 s0 u0 2147483648 (by simp) (by first | exact SA.1 | simpa using SA.1) (by simpa using SA.2.1) (by
    intro t ht
    have hm := rA_mem ht
    have h3 := (hcol t (by omega)).2
    refine ⟨by omega, fun q => ?_⟩
    have : cL t = 1 ∨ cL t = 2 := by omega
    rcases this with q0 | q0 <;> rw [q0]
    · exact ⟨r1, rfl, dn1, by show -((34000000000000 : Nat) : Int) ≤ z1 ∧ z1 ≤ ((34000000000000 : Nat) : Int); omega⟩
    · exact ⟨r2, rfl, dn2, by show -((34000000000000 : Nat) : Int) ≤ y2 ∧ y2 ≤ ((34000000000000 : Nat) : Int); omega⟩) dm0 (by omega) (by omega) ?_
  intro kk0 r0 dr0
  refine Go.aloadN 152 d10_151 rfl rfl rfl ?_
  refine Go.iloadN 153 d10_152 rfl rfl ?_
  refine Go.dload 155 d10_153 rfl rfl ?_
  refine Go.dastore 156 M5 (i := 0) (by decide) (leB rfl) (by omega) d10_155 rfl ?_
  intro h6 K6 Mx6
  have M6 : ArD Z h6 im [r0, r1, r2] := Mx6
  have H6 := H5.off K6 (by omega)
  have V6 := V5.keep K6 (ninN (by omega) nin0)
  have dn0 : FP.Core.DInt z0 r0 := dint_cast dr0 (by rw [sA0 _ _ _ hc3]; exact hz0.symm)
  refine Go.iinc 159 #[.val (.ref a), .val (.ref va), .val (.ref im), .val (.int (-1 : Int32)), .val (.double r0), .second, .val (.int kk0)] (-1 : Int32) d10_156 rfl rfl (by decide) rfl ?_
  refine Go.goto 82 d10_159 (by decide) (by decide) ?_
  refine Go.iloadN 83 d10_82 rfl rfl ?_
  refine Go.ifCT 162 d10_83 (by decide) (by decide) (show (-1 : Int) < 0 from by decide) ?_
  exact Go.ret d10_162 rfl (leB rfl) (leB rfl) ⟨rfl, fun b ty ws A hb => (((((A.keep K1 (ninN hb nin0)).keep K2 (ninN hb nin0)).keep K3 (ninN hb nin0)).keep K4 (ninN hb nin0)).keep K5 (ninN hb nin0)).keep K6 (ninN hb nin0), r0, r1, r2, y1, z1, z0, y2, M6, dn0, dn1, dn2, hy1, hy2, hz1, hz0, by1, by2, bz1, bz0⟩
set_option maxRecDepth 65536 in
set_option maxHeartbeats 40000000 in
theorem law_go (l : Launch) (Z : State) (a0 : Array Value) (hw : ∀ d ∈ tables_1, d.before a0 Z = true) (sh : Int64) (cn v0 v1 v2 jk : Int32) {h : Heap} {n0 : Nat} : Go l Z room_1 (x, code, maxLocals, ret) n0 Q1 h 0 0 0 #[.val (.long sh), .second, .val (.int cn), .val (.int v0), .val (.int v1), .val (.int v2), .val (.int jk), .unset, .unset, .unset, .unset, .unset, .unset, .unset, .unset, .unset, .unset, .unset, .unset, .unset, .unset, .unset, .unset, .unset, .unset, .unset, .unset, .unset, .unset, .unset, .unset, .unset, .unset, .unset, .unset, .unset, .unset, .unset, .unset, .unset, .unset, .unset, .unset] [] := by
  obtain ⟨j0, g_x0, q_x0⟩ := and_nat cn 3 (by decide)
  obtain ⟨x0, h_x0⟩ : ∃ y, (cn &&& (3 : Int32)) = y := ⟨_, rfl⟩
  have q_x0 : ((cn &&& (3 : Int32))).toInt = (j0 : Int) := q_x0
  rw [show _ = x0 from h_x0] at q_x0
  obtain ⟨j1, g_x1, q_x1⟩ := and_nat (XT.ushr cn (2 : Int32)) 3 (by decide)
  obtain ⟨x1, h_x1⟩ : ∃ y, (XT.ushr cn (2 : Int32) &&& (3 : Int32)) = y := ⟨_, rfl⟩
  have q_x1 : ((XT.ushr cn (2 : Int32) &&& (3 : Int32))).toInt = (j1 : Int) := q_x1
  rw [show _ = x1 from h_x1] at q_x1
  obtain ⟨j2, g_x2, q_x2⟩ := and_nat (XT.ushr cn (4 : Int32)) 3 (by decide)
  obtain ⟨x2, h_x2⟩ : ∃ y, (XT.ushr cn (4 : Int32) &&& (3 : Int32)) = y := ⟨_, rfl⟩
  have q_x2 : ((XT.ushr cn (4 : Int32) &&& (3 : Int32))).toInt = (j2 : Int) := q_x2
  rw [show _ = x2 from h_x2] at q_x2
  obtain ⟨t2, ht2⟩ : ∃ y, x0 + x1 = y := ⟨_, rfl⟩
  obtain ⟨t3, ht3⟩ : ∃ y, t2 + x2 = y := ⟨_, rfl⟩
  have q_t2 : t2.toInt = ((j0 + j1 : Nat) : Int) := toInt_add' q_x0 q_x1 ht2 (by omega) (by omega) (by omega)
  have q_t3 : t3.toInt = ((j0 + j1 + j2 : Nat) : Int) := toInt_add' q_t2 q_x2 ht3 (by omega) (by omega) (by omega)
  refine Go.iloadN 1 at_0 rfl rfl ?_
  refine Go.iconst 2 (3 : Int32) at_1 rfl (by decide) ?_
  refine Go.iand 3 x0 at_2 rfl h_x0 ?_
  refine Go.istore 5 #[.val (.long sh), .second, .val (.int cn), .val (.int v0), .val (.int v1), .val (.int v2), .val (.int jk), .val (.int x0), .unset, .unset, .unset, .unset, .unset, .unset, .unset, .unset, .unset, .unset, .unset, .unset, .unset, .unset, .unset, .unset, .unset, .unset, .unset, .unset, .unset, .unset, .unset, .unset, .unset, .unset, .unset, .unset, .unset, .unset, .unset, .unset, .unset, .unset, .unset] at_3 rfl rfl ?_
  refine Go.iloadN 6 at_5 rfl rfl ?_
  refine Go.iconst 7 (2 : Int32) at_6 rfl (by decide) ?_
  refine Go.iushr 8 (XT.ushr cn (2 : Int32)) at_7 rfl rfl ?_
  refine Go.iconst 9 (3 : Int32) at_8 rfl (by decide) ?_
  refine Go.iand 10 x1 at_9 rfl h_x1 ?_
  refine Go.istore 12 #[.val (.long sh), .second, .val (.int cn), .val (.int v0), .val (.int v1), .val (.int v2), .val (.int jk), .val (.int x0), .val (.int x1), .unset, .unset, .unset, .unset, .unset, .unset, .unset, .unset, .unset, .unset, .unset, .unset, .unset, .unset, .unset, .unset, .unset, .unset, .unset, .unset, .unset, .unset, .unset, .unset, .unset, .unset, .unset, .unset, .unset, .unset, .unset, .unset, .unset, .unset] at_10 rfl rfl ?_
  refine Go.iloadN 13 at_12 rfl rfl ?_
  refine Go.iconst 14 (4 : Int32) at_13 rfl (by decide) ?_
  refine Go.iushr 15 (XT.ushr cn (4 : Int32)) at_14 rfl rfl ?_
  refine Go.iconst 16 (3 : Int32) at_15 rfl (by decide) ?_
  refine Go.iand 17 x2 at_16 rfl h_x2 ?_
  refine Go.istore 19 #[.val (.long sh), .second, .val (.int cn), .val (.int v0), .val (.int v1), .val (.int v2), .val (.int jk), .val (.int x0), .val (.int x1), .val (.int x2), .unset, .unset, .unset, .unset, .unset, .unset, .unset, .unset, .unset, .unset, .unset, .unset, .unset, .unset, .unset, .unset, .unset, .unset, .unset, .unset, .unset, .unset, .unset, .unset, .unset, .unset, .unset, .unset, .unset, .unset, .unset, .unset, .unset] at_17 rfl rfl ?_
  refine Go.iconst 20 (4 : Int32) at_19 rfl (by decide) ?_
  refine Go.newI 22 4 (hw _ (List.mem_of_getElem? (i := 0) rfl)) (i := 4) (by decide) (by decide) (by decide) at_20 rfl (by decide) (by decide) ?_
  intro h1 ts E1 e1 n_ts A1
  have A1 : ArI Z h1 ts [0, 0, 0, 0] := A1
  refine Go.dup 23 at_22 rfl rfl ?_
  refine Go.iconst 24 (0 : Int32) at_23 rfl (by decide) ?_
  refine Go.iconst 25 (0 : Int32) at_24 rfl (by decide) ?_
  refine Go.iastore 26 A1 (i := 0) (by decide) (leB rfl) n_ts at_25 rfl ?_
  intro h2 K2 A2
  have A2 : ArI Z h2 ts [(0 : Int32), 0, 0, 0] := A2
  refine Go.dup 27 at_26 rfl rfl ?_
  refine Go.iconst 28 (1 : Int32) at_27 rfl (by decide) ?_
  refine Go.iload 30 at_28 rfl rfl ?_
  refine Go.iastore 31 A2 (i := 1) (by decide) (leB rfl) n_ts at_30 rfl ?_
  intro h3 K3 A3
  have A3 : ArI Z h3 ts [(0 : Int32), x0, 0, 0] := A3
  refine Go.dup 32 at_31 rfl rfl ?_
  refine Go.iconst 33 (2 : Int32) at_32 rfl (by decide) ?_
  refine Go.iload 35 at_33 rfl rfl ?_
  refine Go.iload 37 at_35 rfl rfl ?_
  refine Go.iadd 38 t2 at_37 rfl ht2 ?_
  refine Go.iastore 39 A3 (i := 2) (by decide) (leB rfl) n_ts at_38 rfl ?_
  intro h4 K4 A4
  have A4 : ArI Z h4 ts [(0 : Int32), x0, t2, 0] := A4
  refine Go.dup 40 at_39 rfl rfl ?_
  refine Go.iconst 41 (3 : Int32) at_40 rfl (by decide) ?_
  refine Go.iload 43 at_41 rfl rfl ?_
  refine Go.iload 45 at_43 rfl rfl ?_
  refine Go.iadd 46 t2 at_45 rfl ht2 ?_
  refine Go.iload 48 at_46 rfl rfl ?_
  refine Go.iadd 49 t3 at_48 rfl ht3 ?_
  refine Go.iastore 50 A4 (i := 3) (by decide) (leB rfl) n_ts at_49 rfl ?_
  intro h5 K5 A5
  have A5 : ArI Z h5 ts [(0 : Int32), x0, t2, t3] := A5
  refine Go.astore 52 #[.val (.long sh), .second, .val (.int cn), .val (.int v0), .val (.int v1), .val (.int v2), .val (.int jk), .val (.int x0), .val (.int x1), .val (.int x2), .val (.ref ts), .unset, .unset, .unset, .unset, .unset, .unset, .unset, .unset, .unset, .unset, .unset, .unset, .unset, .unset, .unset, .unset, .unset, .unset, .unset, .unset, .unset, .unset, .unset, .unset, .unset, .unset, .unset, .unset, .unset, .unset, .unset, .unset] at_50 rfl rfl rfl ?_
  refine Go.bipush 54 (9 : Int32) at_52 rfl (by decide) ?_
  refine Go.newI 56 9 (hw _ (List.mem_of_getElem? (i := 0) rfl)) (i := 9) (by decide) (by decide) (by decide) at_54 rfl (by decide) (by decide) ?_
  intro h6 co E6 e6 n_co A6
  have o_co : ts < co := Nat.lt_of_lt_of_le (A5).lt e6
  have A6_ts := A5.ext E6
  have A6 : ArI Z h6 co [0, 0, 0, 0, 0, 0, 0, 0, 0] := A6
  refine Go.astore 58 #[.val (.long sh), .second, .val (.int cn), .val (.int v0), .val (.int v1), .val (.int v2), .val (.int jk), .val (.int x0), .val (.int x1), .val (.int x2), .val (.ref ts), .val (.ref co), .unset, .unset, .unset, .unset, .unset, .unset, .unset, .unset, .unset, .unset, .unset, .unset, .unset, .unset, .unset, .unset, .unset, .unset, .unset, .unset, .unset, .unset, .unset, .unset, .unset, .unset, .unset, .unset, .unset, .unset, .unset] at_56 rfl rfl rfl ?_
  refine Go.bipush 60 (9 : Int32) at_58 rfl (by decide) ?_
  refine Go.newD 62 9 (hw _ (List.mem_of_getElem? (i := 1) rfl)) (i := 9) (by decide) (by decide) (by decide) at_60 rfl (by decide) (by decide) ?_
  intro h7 cf E7 e7 n_cf A7
  have o_cf : co < cf := Nat.lt_of_lt_of_le (A6).lt e7
  have A7_ts := A6_ts.ext E7
  have A7_co := A6.ext E7
  have A7 : ArD Z h7 cf [0, 0, 0, 0, 0, 0, 0, 0, 0] := A7
  refine Go.astore 64 #[.val (.long sh), .second, .val (.int cn), .val (.int v0), .val (.int v1), .val (.int v2), .val (.int jk), .val (.int x0), .val (.int x1), .val (.int x2), .val (.ref ts), .val (.ref co), .val (.ref cf), .unset, .unset, .unset, .unset, .unset, .unset, .unset, .unset, .unset, .unset, .unset, .unset, .unset, .unset, .unset, .unset, .unset, .unset, .unset, .unset, .unset, .unset, .unset, .unset, .unset, .unset, .unset, .unset, .unset, .unset] at_62 rfl rfl rfl ?_
  refine Go.aload 66 at_64 rfl rfl rfl ?_
  refine Go.iconst 67 (0 : Int32) at_66 rfl (by decide) ?_
  refine Go.lloadN 68 at_67 rfl rfl ?_
  refine Go.iconst 69 (0 : Int32) at_68 rfl (by decide) ?_
  refine Go.callS 72 [(.long sh), (.int (0 : Int32))] [(.int (0 : Int32)), (.ref co)] (hw _ (List.mem_of_getElem? (i := 2) rfl)) (hw _ (List.mem_of_getElem? (i := 3) rfl)) (hw _ (List.mem_of_getElem? (i := 5) rfl)) (hw _ (List.mem_of_getElem? (i := 4) rfl)) (by decide) pn_13 pd_14 rfl (ef_1_JI sh (0 : Int32)) (col_go l Z a0 hw sh (0 : Int32)) rfl rfl (leB rfl) (leB rfl) (leB rfl) (leB rfl) at_69 rfl ?_
  rintro _ _ ⟨rfl, rfl⟩
  refine Go.iastore 73 A7_co (i := 0) (by decide) (leB rfl) n_co at_72 rfl ?_
  intro h8 K8 A8
  have A8 : ArI Z h8 co [(colx sh (0 : Int32)), 0, 0, 0, 0, 0, 0, 0, 0] := A8
  have A8_ts := A7_ts.keep K8 (ninN (by omega) nin0)
  have A8_cf := A7.keep K8 (ninN (by omega) nin0)
  refine Go.aload 75 at_73 rfl rfl rfl ?_
  refine Go.iconst 76 (0 : Int32) at_75 rfl (by decide) ?_
  refine Go.lloadN 77 at_76 rfl rfl ?_
  refine Go.iconst 78 (0 : Int32) at_77 rfl (by decide) ?_
  refine Go.callS 81 [(.long sh), (.int (0 : Int32))] [(.int (0 : Int32)), (.ref cf)] (hw _ (List.mem_of_getElem? (i := 7) rfl)) (hw _ (List.mem_of_getElem? (i := 8) rfl)) (hw _ (List.mem_of_getElem? (i := 9) rfl)) (hw _ (List.mem_of_getElem? (i := 4) rfl)) (by decide) pn_13 pd_16 rfl (ef_2_JI sh (0 : Int32)) (coef_go l Z a0 hw sh (0 : Int32)) rfl rfl (leB rfl) (leB rfl) (leB rfl) (leB rfl) at_78 rfl ?_
  rintro _ _ ⟨rfl, rfl⟩
  refine Go.dastore 82 A8_cf (i := 0) (by decide) (leB rfl) n_cf at_81 rfl ?_
  intro h9 K9 A9
  have A9 : ArD Z h9 cf [(FP.i2d (cox sh (0 : Int32))), 0, 0, 0, 0, 0, 0, 0, 0] := A9
  have A9_ts := A8_ts.keep K9 (ninN (by omega) nin0)
  have A9_co := A8.keep K9 (ninN (by omega) nin0)
  refine Go.aload 84 at_82 rfl rfl rfl ?_
  refine Go.iconst 85 (1 : Int32) at_84 rfl (by decide) ?_
  refine Go.lloadN 86 at_85 rfl rfl ?_
  refine Go.iconst 87 (1 : Int32) at_86 rfl (by decide) ?_
  refine Go.callS 90 [(.long sh), (.int (1 : Int32))] [(.int (1 : Int32)), (.ref co)] (hw _ (List.mem_of_getElem? (i := 2) rfl)) (hw _ (List.mem_of_getElem? (i := 3) rfl)) (hw _ (List.mem_of_getElem? (i := 5) rfl)) (hw _ (List.mem_of_getElem? (i := 4) rfl)) (by decide) pn_13 pd_14 rfl (ef_1_JI sh (1 : Int32)) (col_go l Z a0 hw sh (1 : Int32)) rfl rfl (leB rfl) (leB rfl) (leB rfl) (leB rfl) at_87 rfl ?_
  rintro _ _ ⟨rfl, rfl⟩
  refine Go.iastore 91 A9_co (i := 1) (by decide) (leB rfl) n_co at_90 rfl ?_
  intro h10 K10 A10
  have A10 : ArI Z h10 co [(colx sh (0 : Int32)), (colx sh (1 : Int32)), 0, 0, 0, 0, 0, 0, 0] := A10
  have A10_ts := A9_ts.keep K10 (ninN (by omega) nin0)
  have A10_cf := A9.keep K10 (ninN (by omega) nin0)
  refine Go.aload 93 at_91 rfl rfl rfl ?_
  refine Go.iconst 94 (1 : Int32) at_93 rfl (by decide) ?_
  refine Go.lloadN 95 at_94 rfl rfl ?_
  refine Go.iconst 96 (1 : Int32) at_95 rfl (by decide) ?_
  refine Go.callS 99 [(.long sh), (.int (1 : Int32))] [(.int (1 : Int32)), (.ref cf)] (hw _ (List.mem_of_getElem? (i := 7) rfl)) (hw _ (List.mem_of_getElem? (i := 8) rfl)) (hw _ (List.mem_of_getElem? (i := 9) rfl)) (hw _ (List.mem_of_getElem? (i := 4) rfl)) (by decide) pn_13 pd_16 rfl (ef_2_JI sh (1 : Int32)) (coef_go l Z a0 hw sh (1 : Int32)) rfl rfl (leB rfl) (leB rfl) (leB rfl) (leB rfl) at_96 rfl ?_
  rintro _ _ ⟨rfl, rfl⟩
  refine Go.dastore 100 A10_cf (i := 1) (by decide) (leB rfl) n_cf at_99 rfl ?_
  intro h11 K11 A11
  have A11 : ArD Z h11 cf [(FP.i2d (cox sh (0 : Int32))), (FP.i2d (cox sh (1 : Int32))), 0, 0, 0, 0, 0, 0, 0] := A11
  have A11_ts := A10_ts.keep K11 (ninN (by omega) nin0)
  have A11_co := A10.keep K11 (ninN (by omega) nin0)
  refine Go.aload 102 at_100 rfl rfl rfl ?_
  refine Go.iconst 103 (2 : Int32) at_102 rfl (by decide) ?_
  refine Go.lloadN 104 at_103 rfl rfl ?_
  refine Go.iconst 105 (2 : Int32) at_104 rfl (by decide) ?_
  refine Go.callS 108 [(.long sh), (.int (2 : Int32))] [(.int (2 : Int32)), (.ref co)] (hw _ (List.mem_of_getElem? (i := 2) rfl)) (hw _ (List.mem_of_getElem? (i := 3) rfl)) (hw _ (List.mem_of_getElem? (i := 5) rfl)) (hw _ (List.mem_of_getElem? (i := 4) rfl)) (by decide) pn_13 pd_14 rfl (ef_1_JI sh (2 : Int32)) (col_go l Z a0 hw sh (2 : Int32)) rfl rfl (leB rfl) (leB rfl) (leB rfl) (leB rfl) at_105 rfl ?_
  rintro _ _ ⟨rfl, rfl⟩
  refine Go.iastore 109 A11_co (i := 2) (by decide) (leB rfl) n_co at_108 rfl ?_
  intro h12 K12 A12
  have A12 : ArI Z h12 co [(colx sh (0 : Int32)), (colx sh (1 : Int32)), (colx sh (2 : Int32)), 0, 0, 0, 0, 0, 0] := A12
  have A12_ts := A11_ts.keep K12 (ninN (by omega) nin0)
  have A12_cf := A11.keep K12 (ninN (by omega) nin0)
  refine Go.aload 111 at_109 rfl rfl rfl ?_
  refine Go.iconst 112 (2 : Int32) at_111 rfl (by decide) ?_
  refine Go.lloadN 113 at_112 rfl rfl ?_
  refine Go.iconst 114 (2 : Int32) at_113 rfl (by decide) ?_
  refine Go.callS 117 [(.long sh), (.int (2 : Int32))] [(.int (2 : Int32)), (.ref cf)] (hw _ (List.mem_of_getElem? (i := 7) rfl)) (hw _ (List.mem_of_getElem? (i := 8) rfl)) (hw _ (List.mem_of_getElem? (i := 9) rfl)) (hw _ (List.mem_of_getElem? (i := 4) rfl)) (by decide) pn_13 pd_16 rfl (ef_2_JI sh (2 : Int32)) (coef_go l Z a0 hw sh (2 : Int32)) rfl rfl (leB rfl) (leB rfl) (leB rfl) (leB rfl) at_114 rfl ?_
  rintro _ _ ⟨rfl, rfl⟩
  refine Go.dastore 118 A12_cf (i := 2) (by decide) (leB rfl) n_cf at_117 rfl ?_
  intro h13 K13 A13
  have A13 : ArD Z h13 cf [(FP.i2d (cox sh (0 : Int32))), (FP.i2d (cox sh (1 : Int32))), (FP.i2d (cox sh (2 : Int32))), 0, 0, 0, 0, 0, 0] := A13
  have A13_ts := A12_ts.keep K13 (ninN (by omega) nin0)
  have A13_co := A12.keep K13 (ninN (by omega) nin0)
  refine Go.aload 120 at_118 rfl rfl rfl ?_
  refine Go.iconst 121 (3 : Int32) at_120 rfl (by decide) ?_
  refine Go.lloadN 122 at_121 rfl rfl ?_
  refine Go.iconst 123 (3 : Int32) at_122 rfl (by decide) ?_
  refine Go.callS 126 [(.long sh), (.int (3 : Int32))] [(.int (3 : Int32)), (.ref co)] (hw _ (List.mem_of_getElem? (i := 2) rfl)) (hw _ (List.mem_of_getElem? (i := 3) rfl)) (hw _ (List.mem_of_getElem? (i := 5) rfl)) (hw _ (List.mem_of_getElem? (i := 4) rfl)) (by decide) pn_13 pd_14 rfl (ef_1_JI sh (3 : Int32)) (col_go l Z a0 hw sh (3 : Int32)) rfl rfl (leB rfl) (leB rfl) (leB rfl) (leB rfl) at_123 rfl ?_
  rintro _ _ ⟨rfl, rfl⟩
  refine Go.iastore 127 A13_co (i := 3) (by decide) (leB rfl) n_co at_126 rfl ?_
  intro h14 K14 A14
  have A14 : ArI Z h14 co [(colx sh (0 : Int32)), (colx sh (1 : Int32)), (colx sh (2 : Int32)), (colx sh (3 : Int32)), 0, 0, 0, 0, 0] := A14
  have A14_ts := A13_ts.keep K14 (ninN (by omega) nin0)
  have A14_cf := A13.keep K14 (ninN (by omega) nin0)
  refine Go.aload 129 at_127 rfl rfl rfl ?_
  refine Go.iconst 130 (3 : Int32) at_129 rfl (by decide) ?_
  refine Go.lloadN 131 at_130 rfl rfl ?_
  refine Go.iconst 132 (3 : Int32) at_131 rfl (by decide) ?_
  refine Go.callS 135 [(.long sh), (.int (3 : Int32))] [(.int (3 : Int32)), (.ref cf)] (hw _ (List.mem_of_getElem? (i := 7) rfl)) (hw _ (List.mem_of_getElem? (i := 8) rfl)) (hw _ (List.mem_of_getElem? (i := 9) rfl)) (hw _ (List.mem_of_getElem? (i := 4) rfl)) (by decide) pn_13 pd_16 rfl (ef_2_JI sh (3 : Int32)) (coef_go l Z a0 hw sh (3 : Int32)) rfl rfl (leB rfl) (leB rfl) (leB rfl) (leB rfl) at_132 rfl ?_
  rintro _ _ ⟨rfl, rfl⟩
  refine Go.dastore 136 A14_cf (i := 3) (by decide) (leB rfl) n_cf at_135 rfl ?_
  intro h15 K15 A15
  have A15 : ArD Z h15 cf [(FP.i2d (cox sh (0 : Int32))), (FP.i2d (cox sh (1 : Int32))), (FP.i2d (cox sh (2 : Int32))), (FP.i2d (cox sh (3 : Int32))), 0, 0, 0, 0, 0] := A15
  have A15_ts := A14_ts.keep K15 (ninN (by omega) nin0)
  have A15_co := A14.keep K15 (ninN (by omega) nin0)
  refine Go.aload 138 at_136 rfl rfl rfl ?_
  refine Go.iconst 139 (4 : Int32) at_138 rfl (by decide) ?_
  refine Go.lloadN 140 at_139 rfl rfl ?_
  refine Go.iconst 141 (4 : Int32) at_140 rfl (by decide) ?_
  refine Go.callS 144 [(.long sh), (.int (4 : Int32))] [(.int (4 : Int32)), (.ref co)] (hw _ (List.mem_of_getElem? (i := 2) rfl)) (hw _ (List.mem_of_getElem? (i := 3) rfl)) (hw _ (List.mem_of_getElem? (i := 5) rfl)) (hw _ (List.mem_of_getElem? (i := 4) rfl)) (by decide) pn_13 pd_14 rfl (ef_1_JI sh (4 : Int32)) (col_go l Z a0 hw sh (4 : Int32)) rfl rfl (leB rfl) (leB rfl) (leB rfl) (leB rfl) at_141 rfl ?_
  rintro _ _ ⟨rfl, rfl⟩
  refine Go.iastore 145 A15_co (i := 4) (by decide) (leB rfl) n_co at_144 rfl ?_
  intro h16 K16 A16
  have A16 : ArI Z h16 co [(colx sh (0 : Int32)), (colx sh (1 : Int32)), (colx sh (2 : Int32)), (colx sh (3 : Int32)), (colx sh (4 : Int32)), 0, 0, 0, 0] := A16
  have A16_ts := A15_ts.keep K16 (ninN (by omega) nin0)
  have A16_cf := A15.keep K16 (ninN (by omega) nin0)
  refine Go.aload 147 at_145 rfl rfl rfl ?_
  refine Go.iconst 148 (4 : Int32) at_147 rfl (by decide) ?_
  refine Go.lloadN 149 at_148 rfl rfl ?_
  refine Go.iconst 150 (4 : Int32) at_149 rfl (by decide) ?_
  refine Go.callS 153 [(.long sh), (.int (4 : Int32))] [(.int (4 : Int32)), (.ref cf)] (hw _ (List.mem_of_getElem? (i := 7) rfl)) (hw _ (List.mem_of_getElem? (i := 8) rfl)) (hw _ (List.mem_of_getElem? (i := 9) rfl)) (hw _ (List.mem_of_getElem? (i := 4) rfl)) (by decide) pn_13 pd_16 rfl (ef_2_JI sh (4 : Int32)) (coef_go l Z a0 hw sh (4 : Int32)) rfl rfl (leB rfl) (leB rfl) (leB rfl) (leB rfl) at_150 rfl ?_
  rintro _ _ ⟨rfl, rfl⟩
  refine Go.dastore 154 A16_cf (i := 4) (by decide) (leB rfl) n_cf at_153 rfl ?_
  intro h17 K17 A17
  have A17 : ArD Z h17 cf [(FP.i2d (cox sh (0 : Int32))), (FP.i2d (cox sh (1 : Int32))), (FP.i2d (cox sh (2 : Int32))), (FP.i2d (cox sh (3 : Int32))), (FP.i2d (cox sh (4 : Int32))), 0, 0, 0, 0] := A17
  have A17_ts := A16_ts.keep K17 (ninN (by omega) nin0)
  have A17_co := A16.keep K17 (ninN (by omega) nin0)
  refine Go.aload 156 at_154 rfl rfl rfl ?_
  refine Go.iconst 157 (5 : Int32) at_156 rfl (by decide) ?_
  refine Go.lloadN 158 at_157 rfl rfl ?_
  refine Go.iconst 159 (5 : Int32) at_158 rfl (by decide) ?_
  refine Go.callS 162 [(.long sh), (.int (5 : Int32))] [(.int (5 : Int32)), (.ref co)] (hw _ (List.mem_of_getElem? (i := 2) rfl)) (hw _ (List.mem_of_getElem? (i := 3) rfl)) (hw _ (List.mem_of_getElem? (i := 5) rfl)) (hw _ (List.mem_of_getElem? (i := 4) rfl)) (by decide) pn_13 pd_14 rfl (ef_1_JI sh (5 : Int32)) (col_go l Z a0 hw sh (5 : Int32)) rfl rfl (leB rfl) (leB rfl) (leB rfl) (leB rfl) at_159 rfl ?_
  rintro _ _ ⟨rfl, rfl⟩
  refine Go.iastore 163 A17_co (i := 5) (by decide) (leB rfl) n_co at_162 rfl ?_
  intro h18 K18 A18
  have A18 : ArI Z h18 co [(colx sh (0 : Int32)), (colx sh (1 : Int32)), (colx sh (2 : Int32)), (colx sh (3 : Int32)), (colx sh (4 : Int32)), (colx sh (5 : Int32)), 0, 0, 0] := A18
  have A18_ts := A17_ts.keep K18 (ninN (by omega) nin0)
  have A18_cf := A17.keep K18 (ninN (by omega) nin0)
  refine Go.aload 165 at_163 rfl rfl rfl ?_
  refine Go.iconst 166 (5 : Int32) at_165 rfl (by decide) ?_
  refine Go.lloadN 167 at_166 rfl rfl ?_
  refine Go.iconst 168 (5 : Int32) at_167 rfl (by decide) ?_
  refine Go.callS 171 [(.long sh), (.int (5 : Int32))] [(.int (5 : Int32)), (.ref cf)] (hw _ (List.mem_of_getElem? (i := 7) rfl)) (hw _ (List.mem_of_getElem? (i := 8) rfl)) (hw _ (List.mem_of_getElem? (i := 9) rfl)) (hw _ (List.mem_of_getElem? (i := 4) rfl)) (by decide) pn_13 pd_16 rfl (ef_2_JI sh (5 : Int32)) (coef_go l Z a0 hw sh (5 : Int32)) rfl rfl (leB rfl) (leB rfl) (leB rfl) (leB rfl) at_168 rfl ?_
  rintro _ _ ⟨rfl, rfl⟩
  refine Go.dastore 172 A18_cf (i := 5) (by decide) (leB rfl) n_cf at_171 rfl ?_
  intro h19 K19 A19
  have A19 : ArD Z h19 cf [(FP.i2d (cox sh (0 : Int32))), (FP.i2d (cox sh (1 : Int32))), (FP.i2d (cox sh (2 : Int32))), (FP.i2d (cox sh (3 : Int32))), (FP.i2d (cox sh (4 : Int32))), (FP.i2d (cox sh (5 : Int32))), 0, 0, 0] := A19
  have A19_ts := A18_ts.keep K19 (ninN (by omega) nin0)
  have A19_co := A18.keep K19 (ninN (by omega) nin0)
  refine Go.aload 174 at_172 rfl rfl rfl ?_
  refine Go.bipush 176 (6 : Int32) at_174 rfl (by decide) ?_
  refine Go.lloadN 177 at_176 rfl rfl ?_
  refine Go.bipush 179 (6 : Int32) at_177 rfl (by decide) ?_
  refine Go.callS 182 [(.long sh), (.int (6 : Int32))] [(.int (6 : Int32)), (.ref co)] (hw _ (List.mem_of_getElem? (i := 2) rfl)) (hw _ (List.mem_of_getElem? (i := 3) rfl)) (hw _ (List.mem_of_getElem? (i := 5) rfl)) (hw _ (List.mem_of_getElem? (i := 4) rfl)) (by decide) pn_13 pd_14 rfl (ef_1_JI sh (6 : Int32)) (col_go l Z a0 hw sh (6 : Int32)) rfl rfl (leB rfl) (leB rfl) (leB rfl) (leB rfl) at_179 rfl ?_
  rintro _ _ ⟨rfl, rfl⟩
  refine Go.iastore 183 A19_co (i := 6) (by decide) (leB rfl) n_co at_182 rfl ?_
  intro h20 K20 A20
  have A20 : ArI Z h20 co [(colx sh (0 : Int32)), (colx sh (1 : Int32)), (colx sh (2 : Int32)), (colx sh (3 : Int32)), (colx sh (4 : Int32)), (colx sh (5 : Int32)), (colx sh (6 : Int32)), 0, 0] := A20
  have A20_ts := A19_ts.keep K20 (ninN (by omega) nin0)
  have A20_cf := A19.keep K20 (ninN (by omega) nin0)
  refine Go.aload 185 at_183 rfl rfl rfl ?_
  refine Go.bipush 187 (6 : Int32) at_185 rfl (by decide) ?_
  refine Go.lloadN 188 at_187 rfl rfl ?_
  refine Go.bipush 190 (6 : Int32) at_188 rfl (by decide) ?_
  refine Go.callS 193 [(.long sh), (.int (6 : Int32))] [(.int (6 : Int32)), (.ref cf)] (hw _ (List.mem_of_getElem? (i := 7) rfl)) (hw _ (List.mem_of_getElem? (i := 8) rfl)) (hw _ (List.mem_of_getElem? (i := 9) rfl)) (hw _ (List.mem_of_getElem? (i := 4) rfl)) (by decide) pn_13 pd_16 rfl (ef_2_JI sh (6 : Int32)) (coef_go l Z a0 hw sh (6 : Int32)) rfl rfl (leB rfl) (leB rfl) (leB rfl) (leB rfl) at_190 rfl ?_
  rintro _ _ ⟨rfl, rfl⟩
  refine Go.dastore 194 A20_cf (i := 6) (by decide) (leB rfl) n_cf at_193 rfl ?_
  intro h21 K21 A21
  have A21 : ArD Z h21 cf [(FP.i2d (cox sh (0 : Int32))), (FP.i2d (cox sh (1 : Int32))), (FP.i2d (cox sh (2 : Int32))), (FP.i2d (cox sh (3 : Int32))), (FP.i2d (cox sh (4 : Int32))), (FP.i2d (cox sh (5 : Int32))), (FP.i2d (cox sh (6 : Int32))), 0, 0] := A21
  have A21_ts := A20_ts.keep K21 (ninN (by omega) nin0)
  have A21_co := A20.keep K21 (ninN (by omega) nin0)
  refine Go.aload 196 at_194 rfl rfl rfl ?_
  refine Go.bipush 198 (7 : Int32) at_196 rfl (by decide) ?_
  refine Go.lloadN 199 at_198 rfl rfl ?_
  refine Go.bipush 201 (7 : Int32) at_199 rfl (by decide) ?_
  refine Go.callS 204 [(.long sh), (.int (7 : Int32))] [(.int (7 : Int32)), (.ref co)] (hw _ (List.mem_of_getElem? (i := 2) rfl)) (hw _ (List.mem_of_getElem? (i := 3) rfl)) (hw _ (List.mem_of_getElem? (i := 5) rfl)) (hw _ (List.mem_of_getElem? (i := 4) rfl)) (by decide) pn_13 pd_14 rfl (ef_1_JI sh (7 : Int32)) (col_go l Z a0 hw sh (7 : Int32)) rfl rfl (leB rfl) (leB rfl) (leB rfl) (leB rfl) at_201 rfl ?_
  rintro _ _ ⟨rfl, rfl⟩
  refine Go.iastore 205 A21_co (i := 7) (by decide) (leB rfl) n_co at_204 rfl ?_
  intro h22 K22 A22
  have A22 : ArI Z h22 co [(colx sh (0 : Int32)), (colx sh (1 : Int32)), (colx sh (2 : Int32)), (colx sh (3 : Int32)), (colx sh (4 : Int32)), (colx sh (5 : Int32)), (colx sh (6 : Int32)), (colx sh (7 : Int32)), 0] := A22
  have A22_ts := A21_ts.keep K22 (ninN (by omega) nin0)
  have A22_cf := A21.keep K22 (ninN (by omega) nin0)
  refine Go.aload 207 at_205 rfl rfl rfl ?_
  refine Go.bipush 209 (7 : Int32) at_207 rfl (by decide) ?_
  refine Go.lloadN 210 at_209 rfl rfl ?_
  refine Go.bipush 212 (7 : Int32) at_210 rfl (by decide) ?_
  refine Go.callS 215 [(.long sh), (.int (7 : Int32))] [(.int (7 : Int32)), (.ref cf)] (hw _ (List.mem_of_getElem? (i := 7) rfl)) (hw _ (List.mem_of_getElem? (i := 8) rfl)) (hw _ (List.mem_of_getElem? (i := 9) rfl)) (hw _ (List.mem_of_getElem? (i := 4) rfl)) (by decide) pn_13 pd_16 rfl (ef_2_JI sh (7 : Int32)) (coef_go l Z a0 hw sh (7 : Int32)) rfl rfl (leB rfl) (leB rfl) (leB rfl) (leB rfl) at_212 rfl ?_
  rintro _ _ ⟨rfl, rfl⟩
  refine Go.dastore 216 A22_cf (i := 7) (by decide) (leB rfl) n_cf at_215 rfl ?_
  intro h23 K23 A23
  have A23 : ArD Z h23 cf [(FP.i2d (cox sh (0 : Int32))), (FP.i2d (cox sh (1 : Int32))), (FP.i2d (cox sh (2 : Int32))), (FP.i2d (cox sh (3 : Int32))), (FP.i2d (cox sh (4 : Int32))), (FP.i2d (cox sh (5 : Int32))), (FP.i2d (cox sh (6 : Int32))), (FP.i2d (cox sh (7 : Int32))), 0] := A23
  have A23_ts := A22_ts.keep K23 (ninN (by omega) nin0)
  have A23_co := A22.keep K23 (ninN (by omega) nin0)
  refine Go.aload 218 at_216 rfl rfl rfl ?_
  refine Go.bipush 220 (8 : Int32) at_218 rfl (by decide) ?_
  refine Go.lloadN 221 at_220 rfl rfl ?_
  refine Go.bipush 223 (8 : Int32) at_221 rfl (by decide) ?_
  refine Go.callS 226 [(.long sh), (.int (8 : Int32))] [(.int (8 : Int32)), (.ref co)] (hw _ (List.mem_of_getElem? (i := 2) rfl)) (hw _ (List.mem_of_getElem? (i := 3) rfl)) (hw _ (List.mem_of_getElem? (i := 5) rfl)) (hw _ (List.mem_of_getElem? (i := 4) rfl)) (by decide) pn_13 pd_14 rfl (ef_1_JI sh (8 : Int32)) (col_go l Z a0 hw sh (8 : Int32)) rfl rfl (leB rfl) (leB rfl) (leB rfl) (leB rfl) at_223 rfl ?_
  rintro _ _ ⟨rfl, rfl⟩
  refine Go.iastore 227 A23_co (i := 8) (by decide) (leB rfl) n_co at_226 rfl ?_
  intro h24 K24 A24
  have A24 : ArI Z h24 co [(colx sh (0 : Int32)), (colx sh (1 : Int32)), (colx sh (2 : Int32)), (colx sh (3 : Int32)), (colx sh (4 : Int32)), (colx sh (5 : Int32)), (colx sh (6 : Int32)), (colx sh (7 : Int32)), (colx sh (8 : Int32))] := A24
  have A24_ts := A23_ts.keep K24 (ninN (by omega) nin0)
  have A24_cf := A23.keep K24 (ninN (by omega) nin0)
  refine Go.aload 229 at_227 rfl rfl rfl ?_
  refine Go.bipush 231 (8 : Int32) at_229 rfl (by decide) ?_
  refine Go.lloadN 232 at_231 rfl rfl ?_
  refine Go.bipush 234 (8 : Int32) at_232 rfl (by decide) ?_
  refine Go.callS 237 [(.long sh), (.int (8 : Int32))] [(.int (8 : Int32)), (.ref cf)] (hw _ (List.mem_of_getElem? (i := 7) rfl)) (hw _ (List.mem_of_getElem? (i := 8) rfl)) (hw _ (List.mem_of_getElem? (i := 9) rfl)) (hw _ (List.mem_of_getElem? (i := 4) rfl)) (by decide) pn_13 pd_16 rfl (ef_2_JI sh (8 : Int32)) (coef_go l Z a0 hw sh (8 : Int32)) rfl rfl (leB rfl) (leB rfl) (leB rfl) (leB rfl) at_234 rfl ?_
  rintro _ _ ⟨rfl, rfl⟩
  refine Go.dastore 238 A24_cf (i := 8) (by decide) (leB rfl) n_cf at_237 rfl ?_
  intro h25 K25 A25
  have A25 : ArD Z h25 cf [(FP.i2d (cox sh (0 : Int32))), (FP.i2d (cox sh (1 : Int32))), (FP.i2d (cox sh (2 : Int32))), (FP.i2d (cox sh (3 : Int32))), (FP.i2d (cox sh (4 : Int32))), (FP.i2d (cox sh (5 : Int32))), (FP.i2d (cox sh (6 : Int32))), (FP.i2d (cox sh (7 : Int32))), (FP.i2d (cox sh (8 : Int32)))] := A25
  have A25_ts := A24_ts.keep K25 (ninN (by omega) nin0)
  have A25_co := A24.keep K25 (ninN (by omega) nin0)
  refine Go.iconst 239 (3 : Int32) at_238 rfl (by decide) ?_
  refine Go.newI 241 3 (hw _ (List.mem_of_getElem? (i := 0) rfl)) (i := 3) (by decide) (by decide) (by decide) at_239 rfl (by decide) (by decide) ?_
  intro h26 ch E26 e26 n_ch A26
  have o_ch : cf < ch := Nat.lt_of_lt_of_le (A25).lt e26
  have A26_ts := A25_ts.ext E26
  have A26_co := A25_co.ext E26
  have A26_cf := A25.ext E26
  have A26 : ArI Z h26 ch [0, 0, 0] := A26
  refine Go.dup 242 at_241 rfl rfl ?_
  refine Go.iconst 243 (0 : Int32) at_242 rfl (by decide) ?_
  refine Go.iconst 244 (0 : Int32) at_243 rfl (by decide) ?_
  refine Go.iastore 245 A26 (i := 0) (by decide) (leB rfl) n_ch at_244 rfl ?_
  intro h27 K27 A27
  have A27 : ArI Z h27 ch [(0 : Int32), 0, 0] := A27
  have A27_ts := A26_ts.keep K27 (ninN (by omega) nin0)
  have A27_co := A26_co.keep K27 (ninN (by omega) nin0)
  have A27_cf := A26_cf.keep K27 (ninN (by omega) nin0)
  refine Go.dup 246 at_245 rfl rfl ?_
  refine Go.iconst 247 (1 : Int32) at_246 rfl (by decide) ?_
  refine Go.iconst 248 (1 : Int32) at_247 rfl (by decide) ?_
  refine Go.iastore 249 A27 (i := 1) (by decide) (leB rfl) n_ch at_248 rfl ?_
  intro h28 K28 A28
  have A28 : ArI Z h28 ch [(0 : Int32), (1 : Int32), 0] := A28
  have A28_ts := A27_ts.keep K28 (ninN (by omega) nin0)
  have A28_co := A27_co.keep K28 (ninN (by omega) nin0)
  have A28_cf := A27_cf.keep K28 (ninN (by omega) nin0)
  refine Go.dup 250 at_249 rfl rfl ?_
  refine Go.iconst 251 (2 : Int32) at_250 rfl (by decide) ?_
  refine Go.iconst 252 (2 : Int32) at_251 rfl (by decide) ?_
  refine Go.iastore 253 A28 (i := 2) (by decide) (leB rfl) n_ch at_252 rfl ?_
  intro h29 K29 A29
  have A29 : ArI Z h29 ch [(0 : Int32), (1 : Int32), (2 : Int32)] := A29
  have A29_ts := A28_ts.keep K29 (ninN (by omega) nin0)
  have A29_co := A28_co.keep K29 (ninN (by omega) nin0)
  have A29_cf := A28_cf.keep K29 (ninN (by omega) nin0)
  refine Go.astore 255 #[.val (.long sh), .second, .val (.int cn), .val (.int v0), .val (.int v1), .val (.int v2), .val (.int jk), .val (.int x0), .val (.int x1), .val (.int x2), .val (.ref ts), .val (.ref co), .val (.ref cf), .val (.ref ch), .unset, .unset, .unset, .unset, .unset, .unset, .unset, .unset, .unset, .unset, .unset, .unset, .unset, .unset, .unset, .unset, .unset, .unset, .unset, .unset, .unset, .unset, .unset, .unset, .unset, .unset, .unset, .unset, .unset] at_253 rfl rfl rfl ?_
  refine Go.new 258 (hw _ (List.mem_of_getElem? (i := 11) rfl)) (hw _ (List.mem_of_getElem? (i := 12) rfl)) (hw _ (List.mem_of_getElem? (i := 13) rfl)) at_255 rfl (by decide) (by decide) ?_
  intro hn a En_ g1 g2 na X1 D1
  have oa : ch < a := Nat.lt_of_lt_of_le (A29).lt g1
  have An_ts := A29_ts.ext En_
  have An_co := A29_co.ext En_
  have An_cf := A29_cf.ext En_
  have An_ch := A29.ext En_
  have B0 : EN Z hn a 0 .null .null .null .null .null .null := ⟨X1, D1 (Or.inr (hw _ (List.mem_of_getElem? (i := 32) rfl))) (ty := .int) (by decide), D1 (Or.inr (hw _ (List.mem_of_getElem? (i := 34) rfl))) (ty := (.array .int)) (by decide), D1 (Or.inr (hw _ (List.mem_of_getElem? (i := 36) rfl))) (ty := (.array .int)) (by decide), D1 (Or.inr (hw _ (List.mem_of_getElem? (i := 47) rfl))) (ty := (.array .int)) (by decide), D1 (Or.inr (hw _ (List.mem_of_getElem? (i := 49) rfl))) (ty := (.array .double)) (by decide), D1 (Or.inr (hw _ (List.mem_of_getElem? (i := 51) rfl))) (ty := (.array .int)) (by decide), D1 (Or.inr (hw _ (List.mem_of_getElem? (i := 53) rfl))) (ty := (.array .double)) (by decide)⟩
  have D : Dt [(0 : Int32), x0, t2, t3] [(0 : Int32), (1 : Int32), (2 : Int32)] [(colx sh (0 : Int32)), (colx sh (1 : Int32)), (colx sh (2 : Int32)), (colx sh (3 : Int32)), (colx sh (4 : Int32)), (colx sh (5 : Int32)), (colx sh (6 : Int32)), (colx sh (7 : Int32)), (colx sh (8 : Int32))] [(FP.i2d (cox sh (0 : Int32))), (FP.i2d (cox sh (1 : Int32))), (FP.i2d (cox sh (2 : Int32))), (FP.i2d (cox sh (3 : Int32))), (FP.i2d (cox sh (4 : Int32))), (FP.i2d (cox sh (5 : Int32))), (FP.i2d (cox sh (6 : Int32))), (FP.i2d (cox sh (7 : Int32))), (FP.i2d (cox sh (8 : Int32)))] (tSx j0 j1 j2) (pick 0 1 2) (fun t => colx sh (Int32.ofNat t)) (cLx sh) (fun t => FP.i2d (cox sh (Int32.ofNat t))) := by
    refine ⟨?_, ?_, ?_, ?_, ?_⟩
    · intro i hi
      have h3 : i = 0 ∨ i = 1 ∨ i = 2 := by omega
      rcases h3 with rfl | rfl | rfl
      · exact ⟨(0 : Int32), rfl, by decide, by decide⟩
      · exact ⟨(1 : Int32), rfl, by decide, by decide⟩
      · exact ⟨(2 : Int32), rfl, by decide, by decide⟩
    · intro i hi
      have h3 : i = 0 ∨ i = 1 ∨ i = 2 ∨ i = 3 := by omega
      rcases h3 with rfl | rfl | rfl | rfl
      · exact ⟨(0 : Int32), rfl, show (0 : Int32).toInt = ((0 : Nat) : Int) from by decide⟩
      · exact ⟨x0, rfl, q_x0⟩
      · exact ⟨t2, rfl, q_t2⟩
      · exact ⟨t3, rfl, q_t3⟩
    · intro i hi
      have h3 : i = 0 ∨ i = 1 ∨ i = 2 := by omega
      rcases h3 with rfl | rfl | rfl
      · show 0 ≤ j0 ∧ j0 ≤ 0 + 3 ∧ j0 ≤ 9; omega
      · show j0 ≤ j0 + j1 ∧ j0 + j1 ≤ j0 + 3 ∧ j0 + j1 ≤ 9; omega
      · show j0 + j1 ≤ j0 + j1 + j2 ∧ j0 + j1 + j2 ≤ j0 + j1 + 3 ∧ j0 + j1 + j2 ≤ 9; omega
    · intro t ht
      refine ⟨?_, (cLx_b sh t).1, (cLx_b sh t).2⟩
      have h9 : t = 0 ∨ t = 1 ∨ t = 2 ∨ t = 3 ∨ t = 4 ∨ t = 5 ∨ t = 6 ∨ t = 7 ∨ t = 8 := by omega
      rcases h9 with rfl | rfl | rfl | rfl | rfl | rfl | rfl | rfl | rfl <;> rfl
    · intro t ht
      have h9 : t = 0 ∨ t = 1 ∨ t = 2 ∨ t = 3 ∨ t = 4 ∨ t = 5 ∨ t = 6 ∨ t = 7 ∨ t = 8 := by omega
      rcases h9 with rfl | rfl | rfl | rfl | rfl | rfl | rfl | rfl | rfl <;> rfl
  refine Go.dup 259 at_258 rfl rfl ?_
  refine Go.iconst 260 (3 : Int32) at_259 rfl (by decide) ?_
  refine Go.aload 262 at_260 rfl rfl rfl ?_
  refine Go.aload 264 at_262 rfl rfl rfl ?_
  refine Go.aload 266 at_264 rfl rfl rfl ?_
  refine Go.aload 268 at_266 rfl rfl rfl ?_
  refine Go.callN 271 [(.int (3 : Int32)), (.ref ts), (.ref co), (.ref cf), (.ref ch)] [(.ref a)] rfl (hw _ (List.mem_of_getElem? (i := 14) rfl)) (hw _ (List.mem_of_getElem? (i := 15) rfl)) (hw _ (List.mem_of_getElem? (i := 16) rfl)) (hw _ (List.mem_of_getElem? (i := 13) rfl)) (by decide) pn_0 pd_18 rfl (ef_3_AIAAAA a (3 : Int32) ts co cf ch) (init5_go l Z a0 hw D B0 An_ts An_ch An_co An_cf (by omega) na) rfl rfl (leB rfl) (leB rfl) (leB rfl) (leB rfl) at_268 rfl ?_
  rintro _ hq ⟨rfl, f3, ⟨p1, p2, p3, p4, p5, p6, b0, b1, b2, b3, c0, c1, c2, c3, SB, SA, H⟩, Q_ts, Q_ch, Q_co, Q_cf⟩
  have oH := H.2.2.2.2.2.2.2
  refine Go.astore 273 #[.val (.long sh), .second, .val (.int cn), .val (.int v0), .val (.int v1), .val (.int v2), .val (.int jk), .val (.int x0), .val (.int x1), .val (.int x2), .val (.ref ts), .val (.ref co), .val (.ref cf), .val (.ref ch), .val (.ref a), .unset, .unset, .unset, .unset, .unset, .unset, .unset, .unset, .unset, .unset, .unset, .unset, .unset, .unset, .unset, .unset, .unset, .unset, .unset, .unset, .unset, .unset, .unset, .unset, .unset, .unset, .unset, .unset] at_271 rfl rfl rfl ?_
  refine Go.iconst 274 (3 : Int32) at_273 rfl (by decide) ?_
  refine Go.newD 276 3 (hw _ (List.mem_of_getElem? (i := 1) rfl)) (i := 3) (by decide) (by decide) (by decide) at_274 rfl (by decide) (by decide) ?_
  intro h30 va E30 e30 n_va A30
  have o_va : p6 < va := Nat.lt_of_lt_of_le (H.2.2.2.2.2.2.1).lt e30
  have A30_ts := Q_ts.ext E30
  have A30_co := Q_co.ext E30
  have A30_cf := Q_cf.ext E30
  have A30_ch := Q_ch.ext E30
  have A30 : ArD Z h30 va [0, 0, 0] := A30
  have H_30 := H.ext E30
  refine Go.dup 277 at_276 rfl rfl ?_
  refine Go.iconst 278 (0 : Int32) at_277 rfl (by decide) ?_
  refine Go.iloadN 279 at_278 rfl rfl ?_
  refine Go.i2d 280 (FP.i2d v0) at_279 rfl rfl ?_
  refine Go.dastore 281 A30 (i := 0) (by decide) (leB rfl) n_va at_280 rfl ?_
  intro h31 K31 A31
  have A31 : ArD Z h31 va [(FP.i2d v0), 0, 0] := A31
  have A31_ts := A30_ts.keep K31 (ninN (by omega) nin0)
  have A31_co := A30_co.keep K31 (ninN (by omega) nin0)
  have A31_cf := A30_cf.keep K31 (ninN (by omega) nin0)
  have A31_ch := A30_ch.keep K31 (ninN (by omega) nin0)
  have H_31 := H_30.off K31 (by omega)
  refine Go.dup 282 at_281 rfl rfl ?_
  refine Go.iconst 283 (1 : Int32) at_282 rfl (by decide) ?_
  refine Go.iload 285 at_283 rfl rfl ?_
  refine Go.i2d 286 (FP.i2d v1) at_285 rfl rfl ?_
  refine Go.dastore 287 A31 (i := 1) (by decide) (leB rfl) n_va at_286 rfl ?_
  intro h32 K32 A32
  have A32 : ArD Z h32 va [(FP.i2d v0), (FP.i2d v1), 0] := A32
  have A32_ts := A31_ts.keep K32 (ninN (by omega) nin0)
  have A32_co := A31_co.keep K32 (ninN (by omega) nin0)
  have A32_cf := A31_cf.keep K32 (ninN (by omega) nin0)
  have A32_ch := A31_ch.keep K32 (ninN (by omega) nin0)
  have H_32 := H_31.off K32 (by omega)
  refine Go.dup 288 at_287 rfl rfl ?_
  refine Go.iconst 289 (2 : Int32) at_288 rfl (by decide) ?_
  refine Go.iload 291 at_289 rfl rfl ?_
  refine Go.i2d 292 (FP.i2d v2) at_291 rfl rfl ?_
  refine Go.dastore 293 A32 (i := 2) (by decide) (leB rfl) n_va at_292 rfl ?_
  intro h33 K33 A33
  have A33 : ArD Z h33 va [(FP.i2d v0), (FP.i2d v1), (FP.i2d v2)] := A33
  have A33_ts := A32_ts.keep K33 (ninN (by omega) nin0)
  have A33_co := A32_co.keep K33 (ninN (by omega) nin0)
  have A33_cf := A32_cf.keep K33 (ninN (by omega) nin0)
  have A33_ch := A32_ch.keep K33 (ninN (by omega) nin0)
  have H_33 := H_32.off K33 (by omega)
  refine Go.astore 295 #[.val (.long sh), .second, .val (.int cn), .val (.int v0), .val (.int v1), .val (.int v2), .val (.int jk), .val (.int x0), .val (.int x1), .val (.int x2), .val (.ref ts), .val (.ref co), .val (.ref cf), .val (.ref ch), .val (.ref a), .val (.ref va), .unset, .unset, .unset, .unset, .unset, .unset, .unset, .unset, .unset, .unset, .unset, .unset, .unset, .unset, .unset, .unset, .unset, .unset, .unset, .unset, .unset, .unset, .unset, .unset, .unset, .unset, .unset] at_293 rfl rfl rfl ?_
  refine Go.iconst 296 (3 : Int32) at_295 rfl (by decide) ?_
  refine Go.newD 298 3 (hw _ (List.mem_of_getElem? (i := 1) rfl)) (i := 3) (by decide) (by decide) (by decide) at_296 rfl (by decide) (by decide) ?_
  intro h34 im E34 e34 n_im A34
  have o_im : va < im := Nat.lt_of_lt_of_le (A33).lt e34
  have A34_ts := A33_ts.ext E34
  have A34_co := A33_co.ext E34
  have A34_cf := A33_cf.ext E34
  have A34_ch := A33_ch.ext E34
  have A34_va := A33.ext E34
  have A34 : ArD Z h34 im [0, 0, 0] := A34
  have H_34 := H_33.ext E34
  refine Go.dup 299 at_298 rfl rfl ?_
  refine Go.iconst 300 (0 : Int32) at_299 rfl (by decide) ?_
  refine Go.iload 302 at_300 rfl rfl ?_
  refine Go.i2d 303 (FP.i2d jk) at_302 rfl rfl ?_
  refine Go.dastore 304 A34 (i := 0) (by decide) (leB rfl) n_im at_303 rfl ?_
  intro h35 K35 A35
  have A35 : ArD Z h35 im [(FP.i2d jk), 0, 0] := A35
  have A35_ts := A34_ts.keep K35 (ninN (by omega) nin0)
  have A35_co := A34_co.keep K35 (ninN (by omega) nin0)
  have A35_cf := A34_cf.keep K35 (ninN (by omega) nin0)
  have A35_ch := A34_ch.keep K35 (ninN (by omega) nin0)
  have A35_va := A34_va.keep K35 (ninN (by omega) nin0)
  have H_35 := H_34.off K35 (by omega)
  refine Go.dup 305 at_304 rfl rfl ?_
  refine Go.iconst 306 (1 : Int32) at_305 rfl (by decide) ?_
  refine Go.iload 308 at_306 rfl rfl ?_
  refine Go.iconst 309 (1 : Int32) at_308 rfl (by decide) ?_
  refine Go.ixor 310 (jk ^^^ (1 : Int32)) at_309 rfl rfl ?_
  refine Go.i2d 311 (FP.i2d (jk ^^^ (1 : Int32))) at_310 rfl rfl ?_
  refine Go.dastore 312 A35 (i := 1) (by decide) (leB rfl) n_im at_311 rfl ?_
  intro h36 K36 A36
  have A36 : ArD Z h36 im [(FP.i2d jk), (FP.i2d (jk ^^^ (1 : Int32))), 0] := A36
  have A36_ts := A35_ts.keep K36 (ninN (by omega) nin0)
  have A36_co := A35_co.keep K36 (ninN (by omega) nin0)
  have A36_cf := A35_cf.keep K36 (ninN (by omega) nin0)
  have A36_ch := A35_ch.keep K36 (ninN (by omega) nin0)
  have A36_va := A35_va.keep K36 (ninN (by omega) nin0)
  have H_36 := H_35.off K36 (by omega)
  refine Go.dup 313 at_312 rfl rfl ?_
  refine Go.iconst 314 (2 : Int32) at_313 rfl (by decide) ?_
  refine Go.iload 316 at_314 rfl rfl ?_
  refine Go.iconst 317 (-1 : Int32) at_316 rfl (by decide) ?_
  refine Go.ixor 318 (jk ^^^ (-1 : Int32)) at_317 rfl rfl ?_
  refine Go.i2d 319 (FP.i2d (jk ^^^ (-1 : Int32))) at_318 rfl rfl ?_
  refine Go.dastore 320 A36 (i := 2) (by decide) (leB rfl) n_im at_319 rfl ?_
  intro h37 K37 A37
  have A37 : ArD Z h37 im [(FP.i2d jk), (FP.i2d (jk ^^^ (1 : Int32))), (FP.i2d (jk ^^^ (-1 : Int32)))] := A37
  have A37_ts := A36_ts.keep K37 (ninN (by omega) nin0)
  have A37_co := A36_co.keep K37 (ninN (by omega) nin0)
  have A37_cf := A36_cf.keep K37 (ninN (by omega) nin0)
  have A37_ch := A36_ch.keep K37 (ninN (by omega) nin0)
  have A37_va := A36_va.keep K37 (ninN (by omega) nin0)
  have H_37 := H_36.off K37 (by omega)
  refine Go.astore 322 #[.val (.long sh), .second, .val (.int cn), .val (.int v0), .val (.int v1), .val (.int v2), .val (.int jk), .val (.int x0), .val (.int x1), .val (.int x2), .val (.ref ts), .val (.ref co), .val (.ref cf), .val (.ref ch), .val (.ref a), .val (.ref va), .val (.ref im), .unset, .unset, .unset, .unset, .unset, .unset, .unset, .unset, .unset, .unset, .unset, .unset, .unset, .unset, .unset, .unset, .unset, .unset, .unset, .unset, .unset, .unset, .unset, .unset, .unset, .unset] at_320 rfl rfl rfl ?_
  refine Go.aload 324 at_322 rfl rfl rfl ?_
  refine Go.aload 326 at_324 rfl rfl rfl ?_
  refine Go.aload 328 at_326 rfl rfl rfl ?_
  have bv0 := b32 v0
  have bv1 := b32 v1
  have bv2 := b32 v2
  have hco : ∀ t, -8 ≤ (fun t => (cox sh (Int32.ofNat t)).toInt) t ∧ (fun t => (cox sh (Int32.ofNat t)).toInt) t ≤ 7 := fun t => cox_b sh (Int32.ofNat t)
  have hcf : ∀ t, t < 9 → FP.Core.DInt ((fun t => (cox sh (Int32.ofNat t)).toInt) t) ((fun t => FP.i2d (cox sh (Int32.ofNat t))) t) := fun t _ => FP.Core.i2d_int _
  refine Go.callV 331 [(.ref va), (.ref im)] [] (hw _ (List.mem_of_getElem? (i := 59) rfl)) (hw _ (List.mem_of_getElem? (i := 60) rfl)) (hw _ (List.mem_of_getElem? (i := 62) rfl)) (hw _ (List.mem_of_getElem? (i := 61) rfl)) (hw _ (List.mem_of_getElem? (i := 63) rfl)) (hw _ (List.mem_of_getElem? (i := 13) rfl)) (by decide) pn_0 pd_20 rfl H_37.1.1 (ef_10_AAA a va im) (pre_go l Z a0 hw (cO := (fun t => (cox sh (Int32.ofNat t)).toInt)) (cL := (cLx sh)) H_37 A37_va A37 hcf hco (fun k hk => cLx_b sh k) (fun k => (cLx_b sh k).2) SB SA (show j0 - 0 ≤ 3 ∧ (j0 + j1) - j0 ≤ 3 ∧ (j0 + j1 + j2) - (j0 + j1) ≤ 3 ∧ 0 + (j0 - 0) ≤ 9 ∧ j0 + ((j0 + j1) - j0) ≤ 9 ∧ (j0 + j1) + ((j0 + j1 + j2) - (j0 + j1)) ≤ 9 from by omega) o_va o_im (FP.Core.i2d_int v0) (FP.Core.i2d_int v1) (FP.Core.i2d_int v2) (by omega) (by omega) (by omega)) rfl rfl (leB rfl) (leB rfl) (leB rfl) (leB rfl) at_328 rfl ?_
  rintro _ hm ⟨rfl, KA, r0, r1, r2, y1, z1, z0, y2, M, dr0, dr1, dr2, hy1, hy2, hz1, hz0, by1, by2, bz1, bz0⟩
  have Z_ts : ArI Z hm ts [(0 : Int32), x0, t2, t3] := KA _ _ _ A37_ts (by omega)
  have Z_co : ArI Z hm co [(colx sh (0 : Int32)), (colx sh (1 : Int32)), (colx sh (2 : Int32)), (colx sh (3 : Int32)), (colx sh (4 : Int32)), (colx sh (5 : Int32)), (colx sh (6 : Int32)), (colx sh (7 : Int32)), (colx sh (8 : Int32))] := KA _ _ _ A37_co (by omega)
  have Z_cf : ArD Z hm cf [(FP.i2d (cox sh (0 : Int32))), (FP.i2d (cox sh (1 : Int32))), (FP.i2d (cox sh (2 : Int32))), (FP.i2d (cox sh (3 : Int32))), (FP.i2d (cox sh (4 : Int32))), (FP.i2d (cox sh (5 : Int32))), (FP.i2d (cox sh (6 : Int32))), (FP.i2d (cox sh (7 : Int32))), (FP.i2d (cox sh (8 : Int32)))] := KA _ _ _ A37_cf (by omega)
  have Z_ch : ArI Z hm ch [(0 : Int32), (1 : Int32), (2 : Int32)] := KA _ _ _ A37_ch (by omega)
  have Z_va : ArD Z hm va [(FP.i2d v0), (FP.i2d v1), (FP.i2d v2)] := KA _ _ _ A37_va (by omega)
  have hcf2 : ∀ t, t < 9 → ([(FP.i2d (cox sh (0 : Int32))), (FP.i2d (cox sh (1 : Int32))), (FP.i2d (cox sh (2 : Int32))), (FP.i2d (cox sh (3 : Int32))), (FP.i2d (cox sh (4 : Int32))), (FP.i2d (cox sh (5 : Int32))), (FP.i2d (cox sh (6 : Int32))), (FP.i2d (cox sh (7 : Int32))), (FP.i2d (cox sh (8 : Int32)))] : List UInt64)[t]? = some ((fun t => FP.i2d (cox sh (Int32.ofNat t))) t) ∧ FP.Core.DInt ((fun t => (cox sh (Int32.ofNat t)).toInt) t) ((fun t => FP.i2d (cox sh (Int32.ofNat t))) t) := fun t ht => ⟨D.2.2.2.2 t ht, hcf t ht⟩
  refine Go.aload 333 at_331 rfl rfl rfl ?_
  refine Go.aload 335 at_333 rfl rfl rfl ?_
  refine Go.aload 337 at_335 rfl rfl rfl ?_
  refine Go.iconst 338 (1 : Int32) at_337 rfl (by decide) ?_
  refine Go.iconst 339 (0 : Int32) at_338 rfl (by decide) ?_
  refine Go.callS 342 [(.ref co), (.ref cf), (.ref ts), (.int (1 : Int32)), (.int (0 : Int32))] [] (hw _ (List.mem_of_getElem? (i := 64) rfl)) (hw _ (List.mem_of_getElem? (i := 65) rfl)) (hw _ (List.mem_of_getElem? (i := 66) rfl)) (hw _ (List.mem_of_getElem? (i := 4) rfl)) (by decide) pn_13 pd_22 rfl (ef_11_AAAII co cf ts (1 : Int32) (0 : Int32)) (entry_go l Z a0 hw (cO := (fun t => (cox sh (Int32.ofNat t)).toInt)) (cL := (cLx sh)) Z_ts Z_co Z_cf (row := 1) (j := 0) (t := j0) (n := j1) (by decide) (by decide) (by decide) rfl q_x0 rfl g_x1 (by omega) (by omega) D.2.2.2.1 hcf2 hco) rfl rfl (leB rfl) (leB rfl) (leB rfl) (leB rfl) at_339 rfl ?_
  rintro _ _ ⟨l10, rfl, rfl, d_l10⟩
  refine Go.dstore 344 #[.val (.long sh), .second, .val (.int cn), .val (.int v0), .val (.int v1), .val (.int v2), .val (.int jk), .val (.int x0), .val (.int x1), .val (.int x2), .val (.ref ts), .val (.ref co), .val (.ref cf), .val (.ref ch), .val (.ref a), .val (.ref va), .val (.ref im), .val (.double l10), .second, .unset, .unset, .unset, .unset, .unset, .unset, .unset, .unset, .unset, .unset, .unset, .unset, .unset, .unset, .unset, .unset, .unset, .unset, .unset, .unset, .unset, .unset, .unset, .unset] at_342 rfl rfl ?_
  refine Go.aload 346 at_344 rfl rfl rfl ?_
  refine Go.aload 348 at_346 rfl rfl rfl ?_
  refine Go.aload 350 at_348 rfl rfl rfl ?_
  refine Go.iconst 351 (2 : Int32) at_350 rfl (by decide) ?_
  refine Go.iconst 352 (0 : Int32) at_351 rfl (by decide) ?_
  refine Go.callS 355 [(.ref co), (.ref cf), (.ref ts), (.int (2 : Int32)), (.int (0 : Int32))] [] (hw _ (List.mem_of_getElem? (i := 64) rfl)) (hw _ (List.mem_of_getElem? (i := 65) rfl)) (hw _ (List.mem_of_getElem? (i := 66) rfl)) (hw _ (List.mem_of_getElem? (i := 4) rfl)) (by decide) pn_13 pd_22 rfl (ef_11_AAAII co cf ts (2 : Int32) (0 : Int32)) (entry_go l Z a0 hw (cO := (fun t => (cox sh (Int32.ofNat t)).toInt)) (cL := (cLx sh)) Z_ts Z_co Z_cf (row := 2) (j := 0) (t := (j0 + j1)) (n := j2) (by decide) (by decide) (by decide) rfl q_t2 rfl g_x2 (by omega) (by omega) D.2.2.2.1 hcf2 hco) rfl rfl (leB rfl) (leB rfl) (leB rfl) (leB rfl) at_352 rfl ?_
  rintro _ _ ⟨l20, rfl, rfl, d_l20⟩
  refine Go.dstore 357 #[.val (.long sh), .second, .val (.int cn), .val (.int v0), .val (.int v1), .val (.int v2), .val (.int jk), .val (.int x0), .val (.int x1), .val (.int x2), .val (.ref ts), .val (.ref co), .val (.ref cf), .val (.ref ch), .val (.ref a), .val (.ref va), .val (.ref im), .val (.double l10), .second, .val (.double l20), .second, .unset, .unset, .unset, .unset, .unset, .unset, .unset, .unset, .unset, .unset, .unset, .unset, .unset, .unset, .unset, .unset, .unset, .unset, .unset, .unset, .unset, .unset] at_355 rfl rfl ?_
  refine Go.aload 359 at_357 rfl rfl rfl ?_
  refine Go.aload 361 at_359 rfl rfl rfl ?_
  refine Go.aload 363 at_361 rfl rfl rfl ?_
  refine Go.iconst 364 (2 : Int32) at_363 rfl (by decide) ?_
  refine Go.iconst 365 (1 : Int32) at_364 rfl (by decide) ?_
  refine Go.callS 368 [(.ref co), (.ref cf), (.ref ts), (.int (2 : Int32)), (.int (1 : Int32))] [] (hw _ (List.mem_of_getElem? (i := 64) rfl)) (hw _ (List.mem_of_getElem? (i := 65) rfl)) (hw _ (List.mem_of_getElem? (i := 66) rfl)) (hw _ (List.mem_of_getElem? (i := 4) rfl)) (by decide) pn_13 pd_22 rfl (ef_11_AAAII co cf ts (2 : Int32) (1 : Int32)) (entry_go l Z a0 hw (cO := (fun t => (cox sh (Int32.ofNat t)).toInt)) (cL := (cLx sh)) Z_ts Z_co Z_cf (row := 2) (j := 1) (t := (j0 + j1)) (n := j2) (by decide) (by decide) (by decide) rfl q_t2 rfl g_x2 (by omega) (by omega) D.2.2.2.1 hcf2 hco) rfl rfl (leB rfl) (leB rfl) (leB rfl) (leB rfl) at_365 rfl ?_
  rintro _ _ ⟨l21, rfl, rfl, d_l21⟩
  refine Go.dstore 370 #[.val (.long sh), .second, .val (.int cn), .val (.int v0), .val (.int v1), .val (.int v2), .val (.int jk), .val (.int x0), .val (.int x1), .val (.int x2), .val (.ref ts), .val (.ref co), .val (.ref cf), .val (.ref ch), .val (.ref a), .val (.ref va), .val (.ref im), .val (.double l10), .second, .val (.double l20), .second, .val (.double l21), .second, .unset, .unset, .unset, .unset, .unset, .unset, .unset, .unset, .unset, .unset, .unset, .unset, .unset, .unset, .unset, .unset, .unset, .unset, .unset, .unset] at_368 rfl rfl ?_
  refine Go.aload 372 at_370 rfl rfl rfl ?_
  refine Go.aload 374 at_372 rfl rfl rfl ?_
  refine Go.aload 376 at_374 rfl rfl rfl ?_
  refine Go.iconst 377 (0 : Int32) at_376 rfl (by decide) ?_
  refine Go.iconst 378 (1 : Int32) at_377 rfl (by decide) ?_
  refine Go.callS 381 [(.ref co), (.ref cf), (.ref ts), (.int (0 : Int32)), (.int (1 : Int32))] [] (hw _ (List.mem_of_getElem? (i := 64) rfl)) (hw _ (List.mem_of_getElem? (i := 65) rfl)) (hw _ (List.mem_of_getElem? (i := 66) rfl)) (hw _ (List.mem_of_getElem? (i := 4) rfl)) (by decide) pn_13 pd_22 rfl (ef_11_AAAII co cf ts (0 : Int32) (1 : Int32)) (entry_go l Z a0 hw (cO := (fun t => (cox sh (Int32.ofNat t)).toInt)) (cL := (cLx sh)) Z_ts Z_co Z_cf (row := 0) (j := 1) (t := 0) (n := j0) (by decide) (by decide) (by decide) rfl (by decide) rfl g_x0 (by omega) (by omega) D.2.2.2.1 hcf2 hco) rfl rfl (leB rfl) (leB rfl) (leB rfl) (leB rfl) at_378 rfl ?_
  rintro _ _ ⟨u01, rfl, rfl, d_u01⟩
  refine Go.dstore 383 #[.val (.long sh), .second, .val (.int cn), .val (.int v0), .val (.int v1), .val (.int v2), .val (.int jk), .val (.int x0), .val (.int x1), .val (.int x2), .val (.ref ts), .val (.ref co), .val (.ref cf), .val (.ref ch), .val (.ref a), .val (.ref va), .val (.ref im), .val (.double l10), .second, .val (.double l20), .second, .val (.double l21), .second, .val (.double u01), .second, .unset, .unset, .unset, .unset, .unset, .unset, .unset, .unset, .unset, .unset, .unset, .unset, .unset, .unset, .unset, .unset, .unset, .unset] at_381 rfl rfl ?_
  refine Go.aload 385 at_383 rfl rfl rfl ?_
  refine Go.aload 387 at_385 rfl rfl rfl ?_
  refine Go.aload 389 at_387 rfl rfl rfl ?_
  refine Go.iconst 390 (0 : Int32) at_389 rfl (by decide) ?_
  refine Go.iconst 391 (2 : Int32) at_390 rfl (by decide) ?_
  refine Go.callS 394 [(.ref co), (.ref cf), (.ref ts), (.int (0 : Int32)), (.int (2 : Int32))] [] (hw _ (List.mem_of_getElem? (i := 64) rfl)) (hw _ (List.mem_of_getElem? (i := 65) rfl)) (hw _ (List.mem_of_getElem? (i := 66) rfl)) (hw _ (List.mem_of_getElem? (i := 4) rfl)) (by decide) pn_13 pd_22 rfl (ef_11_AAAII co cf ts (0 : Int32) (2 : Int32)) (entry_go l Z a0 hw (cO := (fun t => (cox sh (Int32.ofNat t)).toInt)) (cL := (cLx sh)) Z_ts Z_co Z_cf (row := 0) (j := 2) (t := 0) (n := j0) (by decide) (by decide) (by decide) rfl (by decide) rfl g_x0 (by omega) (by omega) D.2.2.2.1 hcf2 hco) rfl rfl (leB rfl) (leB rfl) (leB rfl) (leB rfl) at_391 rfl ?_
  rintro _ _ ⟨u02, rfl, rfl, d_u02⟩
  refine Go.dstore 396 #[.val (.long sh), .second, .val (.int cn), .val (.int v0), .val (.int v1), .val (.int v2), .val (.int jk), .val (.int x0), .val (.int x1), .val (.int x2), .val (.ref ts), .val (.ref co), .val (.ref cf), .val (.ref ch), .val (.ref a), .val (.ref va), .val (.ref im), .val (.double l10), .second, .val (.double l20), .second, .val (.double l21), .second, .val (.double u01), .second, .val (.double u02), .second, .unset, .unset, .unset, .unset, .unset, .unset, .unset, .unset, .unset, .unset, .unset, .unset, .unset, .unset, .unset, .unset] at_394 rfl rfl ?_
  refine Go.aload 398 at_396 rfl rfl rfl ?_
  refine Go.aload 400 at_398 rfl rfl rfl ?_
  refine Go.aload 402 at_400 rfl rfl rfl ?_
  refine Go.iconst 403 (1 : Int32) at_402 rfl (by decide) ?_
  refine Go.iconst 404 (2 : Int32) at_403 rfl (by decide) ?_
  refine Go.callS 407 [(.ref co), (.ref cf), (.ref ts), (.int (1 : Int32)), (.int (2 : Int32))] [] (hw _ (List.mem_of_getElem? (i := 64) rfl)) (hw _ (List.mem_of_getElem? (i := 65) rfl)) (hw _ (List.mem_of_getElem? (i := 66) rfl)) (hw _ (List.mem_of_getElem? (i := 4) rfl)) (by decide) pn_13 pd_22 rfl (ef_11_AAAII co cf ts (1 : Int32) (2 : Int32)) (entry_go l Z a0 hw (cO := (fun t => (cox sh (Int32.ofNat t)).toInt)) (cL := (cLx sh)) Z_ts Z_co Z_cf (row := 1) (j := 2) (t := j0) (n := j1) (by decide) (by decide) (by decide) rfl q_x0 rfl g_x1 (by omega) (by omega) D.2.2.2.1 hcf2 hco) rfl rfl (leB rfl) (leB rfl) (leB rfl) (leB rfl) at_404 rfl ?_
  rintro _ _ ⟨u12, rfl, rfl, d_u12⟩
  have cc0 : tSx j0 j1 j2 (pick 0 1 2 0 + 1) - tSx j0 j1 j2 (pick 0 1 2 0) = j0 := show j0 - 0 = j0 from by omega
  have cc1 : tSx j0 j1 j2 (pick 0 1 2 1 + 1) - tSx j0 j1 j2 (pick 0 1 2 1) = j1 := show (j0 + j1) - j0 = j1 from by omega
  have cc2 : tSx j0 j1 j2 (pick 0 1 2 2 + 1) - tSx j0 j1 j2 (pick 0 1 2 2) = j2 := show (j0 + j1 + j2) - (j0 + j1) = j2 from by omega
  rw [cc1] at hy1
  rw [cc2] at hy2
  rw [cc1] at hz1
  rw [cc0] at hz0
  clear cc0 cc1 cc2
  obtain ⟨G_l10, hG_l10⟩ : ∃ G, G = (En (fun t => (cox sh (Int32.ofNat t)).toInt) (cLx sh) 0 j0 j1) := ⟨_, rfl⟩
  have d_l10 : FP.Core.DInt G_l10 l10 := by rw [hG_l10]; exact d_l10
  have e_l10 : -24 ≤ G_l10 ∧ G_l10 ≤ 24 := by have q := En_b (cL := (cLx sh)) (j := 0) hco j1 j0; first | (rw [← hG_l10] at q; omega) | (rw [hG_l10]; omega)
  obtain ⟨G_l20, hG_l20⟩ : ∃ G, G = (En (fun t => (cox sh (Int32.ofNat t)).toInt) (cLx sh) 0 (j0 + j1) j2) := ⟨_, rfl⟩
  have d_l20 : FP.Core.DInt G_l20 l20 := by rw [hG_l20]; exact d_l20
  have e_l20 : -24 ≤ G_l20 ∧ G_l20 ≤ 24 := by have q := En_b (cL := (cLx sh)) (j := 0) hco j2 (j0 + j1); first | (rw [← hG_l20] at q; omega) | (rw [hG_l20]; omega)
  obtain ⟨G_l21, hG_l21⟩ : ∃ G, G = (En (fun t => (cox sh (Int32.ofNat t)).toInt) (cLx sh) 1 (j0 + j1) j2) := ⟨_, rfl⟩
  have d_l21 : FP.Core.DInt G_l21 l21 := by rw [hG_l21]; exact d_l21
  have e_l21 : -24 ≤ G_l21 ∧ G_l21 ≤ 24 := by have q := En_b (cL := (cLx sh)) (j := 1) hco j2 (j0 + j1); first | (rw [← hG_l21] at q; omega) | (rw [hG_l21]; omega)
  obtain ⟨G_u01, hG_u01⟩ : ∃ G, G = (En (fun t => (cox sh (Int32.ofNat t)).toInt) (cLx sh) 1 0 j0) := ⟨_, rfl⟩
  have d_u01 : FP.Core.DInt G_u01 u01 := by rw [hG_u01]; exact d_u01
  have e_u01 : -24 ≤ G_u01 ∧ G_u01 ≤ 24 := by have q := En_b (cL := (cLx sh)) (j := 1) hco j0 0; first | (rw [← hG_u01] at q; omega) | (rw [hG_u01]; omega)
  obtain ⟨G_u02, hG_u02⟩ : ∃ G, G = (En (fun t => (cox sh (Int32.ofNat t)).toInt) (cLx sh) 2 0 j0) := ⟨_, rfl⟩
  have d_u02 : FP.Core.DInt G_u02 u02 := by rw [hG_u02]; exact d_u02
  have e_u02 : -24 ≤ G_u02 ∧ G_u02 ≤ 24 := by have q := En_b (cL := (cLx sh)) (j := 2) hco j0 0; first | (rw [← hG_u02] at q; omega) | (rw [hG_u02]; omega)
  obtain ⟨G_u12, hG_u12⟩ : ∃ G, G = (En (fun t => (cox sh (Int32.ofNat t)).toInt) (cLx sh) 2 j0 j1) := ⟨_, rfl⟩
  have d_u12 : FP.Core.DInt G_u12 u12 := by rw [hG_u12]; exact d_u12
  have e_u12 : -24 ≤ G_u12 ∧ G_u12 ≤ 24 := by have q := En_b (cL := (cLx sh)) (j := 2) hco j1 j0; first | (rw [← hG_u12] at q; omega) | (rw [hG_u12]; omega)
  have hy1 : y1 = v1.toInt + G_l10 * v0.toInt := by rw [hG_l10]; exact hy1
  have hy2 : y2 = v2.toInt + (G_l20 * v0.toInt + G_l21 * y1) := by rw [hG_l20, hG_l21]; exact hy2
  have hz1 : z1 = y1 + G_u12 * y2 := by rw [hG_u12]; exact hz1
  have hz0 : z0 = v0.toInt + (G_u01 * z1 + G_u02 * y2) := by rw [hG_u01, hG_u02]; exact hz0
  have b_p01 := prod_e (M := 34000000000000) (show -24 ≤ G_u01 ∧ G_u01 ≤ 24 by omega) (show -34000000000000 ≤ z1 ∧ z1 ≤ 34000000000000 by omega)
  obtain ⟨p01, q_p01, d_p01⟩ := mulI d_u01 dr1 (by omega) (by omega)
  have b_p02 := prod_e (M := 1400000000000) (show -24 ≤ G_u02 ∧ G_u02 ≤ 24 by omega) (show -1400000000000 ≤ y2 ∧ y2 ≤ 1400000000000 by omega)
  obtain ⟨p02, q_p02, d_p02⟩ := mulI d_u02 dr2 (by omega) (by omega)
  obtain ⟨w0a, q_w0a, d0_w0a⟩ := subI dr0 d_p01 (by omega) (by omega)
  have d_w0a : FP.Core.DInt (v0.toInt + G_u02 * y2) w0a := dint_cast d0_w0a (by omega)
  obtain ⟨w0, q_w0, d0_w0⟩ := subI d_w0a d_p02 (by omega) (by omega)
  have d_w0 : FP.Core.DInt v0.toInt w0 := dint_cast d0_w0 (by omega)
  have b_p12 := prod_e (M := 1400000000000) (show -24 ≤ G_u12 ∧ G_u12 ≤ 24 by omega) (show -1400000000000 ≤ y2 ∧ y2 ≤ 1400000000000 by omega)
  obtain ⟨p12, q_p12, d_p12⟩ := mulI d_u12 dr2 (by omega) (by omega)
  obtain ⟨w1, q_w1, d0_w1⟩ := subI dr1 d_p12 (by omega) (by omega)
  have d_w1 : FP.Core.DInt y1 w1 := dint_cast d0_w1 (by omega)
  have b_pl10 := prod_e (M := 2147483648) (show -24 ≤ G_l10 ∧ G_l10 ≤ 24 by omega) (show -2147483648 ≤ v0.toInt ∧ v0.toInt ≤ 2147483648 by omega)
  obtain ⟨pl10, q_pl10, d_pl10⟩ := mulI d_l10 d_w0 (by omega) (by omega)
  obtain ⟨w1b, q_w1b, d0_w1b⟩ := subI d_w1 d_pl10 (by omega) (by omega)
  have d_w1b : FP.Core.DInt v1.toInt w1b := dint_cast d0_w1b (by omega)
  have b_pl20 := prod_e (M := 2147483648) (show -24 ≤ G_l20 ∧ G_l20 ≤ 24 by omega) (show -2147483648 ≤ v0.toInt ∧ v0.toInt ≤ 2147483648 by omega)
  obtain ⟨pl20, q_pl20, d_pl20⟩ := mulI d_l20 d_w0 (by omega) (by omega)
  obtain ⟨w2a, q_w2a, d0_w2a⟩ := subI dr2 d_pl20 (by omega) (by omega)
  have d_w2a : FP.Core.DInt (v2.toInt + G_l21 * y1) w2a := dint_cast d0_w2a (by omega)
  have b_pl21 := prod_e (M := 53687091200) (show -24 ≤ G_l21 ∧ G_l21 ≤ 24 by omega) (show -53687091200 ≤ y1 ∧ y1 ≤ 53687091200 by omega)
  obtain ⟨pl21, q_pl21, d_pl21⟩ := mulI d_l21 d_w1 (by omega) (by omega)
  obtain ⟨w2b, q_w2b, d0_w2b⟩ := subI d_w2a d_pl21 (by omega) (by omega)
  have d_w2b : FP.Core.DInt v2.toInt w2b := dint_cast d0_w2b (by omega)
  refine Go.dstore 409 #[.val (.long sh), .second, .val (.int cn), .val (.int v0), .val (.int v1), .val (.int v2), .val (.int jk), .val (.int x0), .val (.int x1), .val (.int x2), .val (.ref ts), .val (.ref co), .val (.ref cf), .val (.ref ch), .val (.ref a), .val (.ref va), .val (.ref im), .val (.double l10), .second, .val (.double l20), .second, .val (.double l21), .second, .val (.double u01), .second, .val (.double u02), .second, .val (.double u12), .second, .unset, .unset, .unset, .unset, .unset, .unset, .unset, .unset, .unset, .unset, .unset, .unset, .unset, .unset] at_407 rfl rfl ?_
  refine Go.aload 411 at_409 rfl rfl rfl ?_
  refine Go.iconst 412 (0 : Int32) at_411 rfl (by decide) ?_
  refine Go.daload 413 M (i := 0) (by decide) rfl at_412 rfl ?_
  refine Go.dstore 415 #[.val (.long sh), .second, .val (.int cn), .val (.int v0), .val (.int v1), .val (.int v2), .val (.int jk), .val (.int x0), .val (.int x1), .val (.int x2), .val (.ref ts), .val (.ref co), .val (.ref cf), .val (.ref ch), .val (.ref a), .val (.ref va), .val (.ref im), .val (.double l10), .second, .val (.double l20), .second, .val (.double l21), .second, .val (.double u01), .second, .val (.double u02), .second, .val (.double u12), .second, .val (.double r0), .second, .unset, .unset, .unset, .unset, .unset, .unset, .unset, .unset, .unset, .unset, .unset, .unset] at_413 rfl rfl ?_
  refine Go.aload 417 at_415 rfl rfl rfl ?_
  refine Go.iconst 418 (1 : Int32) at_417 rfl (by decide) ?_
  refine Go.daload 419 M (i := 1) (by decide) rfl at_418 rfl ?_
  refine Go.dstore 421 #[.val (.long sh), .second, .val (.int cn), .val (.int v0), .val (.int v1), .val (.int v2), .val (.int jk), .val (.int x0), .val (.int x1), .val (.int x2), .val (.ref ts), .val (.ref co), .val (.ref cf), .val (.ref ch), .val (.ref a), .val (.ref va), .val (.ref im), .val (.double l10), .second, .val (.double l20), .second, .val (.double l21), .second, .val (.double u01), .second, .val (.double u02), .second, .val (.double u12), .second, .val (.double r0), .second, .val (.double r1), .second, .unset, .unset, .unset, .unset, .unset, .unset, .unset, .unset, .unset, .unset] at_419 rfl rfl ?_
  refine Go.aload 423 at_421 rfl rfl rfl ?_
  refine Go.iconst 424 (2 : Int32) at_423 rfl (by decide) ?_
  refine Go.daload 425 M (i := 2) (by decide) rfl at_424 rfl ?_
  refine Go.dstore 427 #[.val (.long sh), .second, .val (.int cn), .val (.int v0), .val (.int v1), .val (.int v2), .val (.int jk), .val (.int x0), .val (.int x1), .val (.int x2), .val (.ref ts), .val (.ref co), .val (.ref cf), .val (.ref ch), .val (.ref a), .val (.ref va), .val (.ref im), .val (.double l10), .second, .val (.double l20), .second, .val (.double l21), .second, .val (.double u01), .second, .val (.double u02), .second, .val (.double u12), .second, .val (.double r0), .second, .val (.double r1), .second, .val (.double r2), .second, .unset, .unset, .unset, .unset, .unset, .unset, .unset, .unset] at_425 rfl rfl ?_
  refine Go.dload 429 at_427 rfl rfl ?_
  refine Go.dload 431 at_429 rfl rfl ?_
  refine Go.dload 433 at_431 rfl rfl ?_
  refine Go.dmul 434 p01 at_433 rfl q_p01.1 q_p01.2 ?_
  refine Go.dsub 435 w0a at_434 rfl q_w0a.1 q_w0a.2 ?_
  refine Go.dload 437 at_435 rfl rfl ?_
  refine Go.dload 439 at_437 rfl rfl ?_
  refine Go.dmul 440 p02 at_439 rfl q_p02.1 q_p02.2 ?_
  refine Go.dsub 441 w0 at_440 rfl q_w0.1 q_w0.2 ?_
  refine Go.dstore 443 #[.val (.long sh), .second, .val (.int cn), .val (.int v0), .val (.int v1), .val (.int v2), .val (.int jk), .val (.int x0), .val (.int x1), .val (.int x2), .val (.ref ts), .val (.ref co), .val (.ref cf), .val (.ref ch), .val (.ref a), .val (.ref va), .val (.ref im), .val (.double l10), .second, .val (.double l20), .second, .val (.double l21), .second, .val (.double u01), .second, .val (.double u02), .second, .val (.double u12), .second, .val (.double r0), .second, .val (.double r1), .second, .val (.double r2), .second, .val (.double w0), .second, .unset, .unset, .unset, .unset, .unset, .unset] at_441 rfl rfl ?_
  refine Go.dload 445 at_443 rfl rfl ?_
  refine Go.dload 447 at_445 rfl rfl ?_
  refine Go.dload 449 at_447 rfl rfl ?_
  refine Go.dmul 450 p12 at_449 rfl q_p12.1 q_p12.2 ?_
  refine Go.dsub 451 w1 at_450 rfl q_w1.1 q_w1.2 ?_
  refine Go.dstore 453 #[.val (.long sh), .second, .val (.int cn), .val (.int v0), .val (.int v1), .val (.int v2), .val (.int jk), .val (.int x0), .val (.int x1), .val (.int x2), .val (.ref ts), .val (.ref co), .val (.ref cf), .val (.ref ch), .val (.ref a), .val (.ref va), .val (.ref im), .val (.double l10), .second, .val (.double l20), .second, .val (.double l21), .second, .val (.double u01), .second, .val (.double u02), .second, .val (.double u12), .second, .val (.double r0), .second, .val (.double r1), .second, .val (.double r2), .second, .val (.double w0), .second, .val (.double w1), .second, .unset, .unset, .unset, .unset] at_451 rfl rfl ?_
  refine Go.dload 455 at_453 rfl rfl ?_
  refine Go.dstore 457 #[.val (.long sh), .second, .val (.int cn), .val (.int v0), .val (.int v1), .val (.int v2), .val (.int jk), .val (.int x0), .val (.int x1), .val (.int x2), .val (.ref ts), .val (.ref co), .val (.ref cf), .val (.ref ch), .val (.ref a), .val (.ref va), .val (.ref im), .val (.double l10), .second, .val (.double l20), .second, .val (.double l21), .second, .val (.double u01), .second, .val (.double u02), .second, .val (.double u12), .second, .val (.double r0), .second, .val (.double r1), .second, .val (.double r2), .second, .val (.double w0), .second, .val (.double w1), .second, .val (.double r2), .second, .unset, .unset] at_455 rfl rfl ?_
  refine Go.dload 459 at_457 rfl rfl ?_
  refine Go.iloadN 460 at_459 rfl rfl ?_
  refine Go.i2d 461 (FP.i2d v0) at_460 rfl rfl ?_
  refine Go.dcmp 462 (sg _ _) at_461 rfl (cmpI d_w0 (FP.Core.i2d_int v0) _) ?_
  refine Go.ifCF 465 at_462 rfl (sg_self rfl) ?_
  refine Go.dload 467 at_465 rfl rfl ?_
  refine Go.dload 469 at_467 rfl rfl ?_
  refine Go.dload 471 at_469 rfl rfl ?_
  refine Go.dmul 472 pl10 at_471 rfl q_pl10.1 q_pl10.2 ?_
  refine Go.dsub 473 w1b at_472 rfl q_w1b.1 q_w1b.2 ?_
  refine Go.iload 475 at_473 rfl rfl ?_
  refine Go.i2d 476 (FP.i2d v1) at_475 rfl rfl ?_
  refine Go.dcmp 477 (sg _ _) at_476 rfl (cmpI d_w1b (FP.Core.i2d_int v1) _) ?_
  refine Go.ifCF 480 at_477 rfl (sg_self rfl) ?_
  refine Go.dload 482 at_480 rfl rfl ?_
  refine Go.dload 484 at_482 rfl rfl ?_
  refine Go.dload 486 at_484 rfl rfl ?_
  refine Go.dmul 487 pl20 at_486 rfl q_pl20.1 q_pl20.2 ?_
  refine Go.dsub 488 w2a at_487 rfl q_w2a.1 q_w2a.2 ?_
  refine Go.dload 490 at_488 rfl rfl ?_
  refine Go.dload 492 at_490 rfl rfl ?_
  refine Go.dmul 493 pl21 at_492 rfl q_pl21.1 q_pl21.2 ?_
  refine Go.dsub 494 w2b at_493 rfl q_w2b.1 q_w2b.2 ?_
  refine Go.iload 496 at_494 rfl rfl ?_
  refine Go.i2d 497 (FP.i2d v2) at_496 rfl rfl ?_
  refine Go.dcmp 498 (sg _ _) at_497 rfl (cmpI d_w2b (FP.Core.i2d_int v2) _) ?_
  refine Go.ifCF 501 at_498 rfl (sg_self rfl) ?_
  refine Go.iconst 502 (1 : Int32) at_501 rfl (by decide) ?_
  refine Go.goto 506 at_502 (by decide) (by decide) ?_
  refine Go.istore 508 #[.val (.long sh), .second, .val (.int cn), .val (.int v0), .val (.int v1), .val (.int v2), .val (.int jk), .val (.int x0), .val (.int x1), .val (.int x2), .val (.ref ts), .val (.ref co), .val (.ref cf), .val (.ref ch), .val (.ref a), .val (.ref va), .val (.ref im), .val (.double l10), .second, .val (.double l20), .second, .val (.double l21), .second, .val (.double u01), .second, .val (.double u02), .second, .val (.double u12), .second, .val (.double r0), .second, .val (.double r1), .second, .val (.double r2), .second, .val (.double w0), .second, .val (.double w1), .second, .val (.double r2), .second, .val (.int (1 : Int32)), .unset] at_506 rfl rfl ?_
  refine Go.aload 510 at_508 rfl rfl rfl ?_
  refine Go.iconst 511 (0 : Int32) at_510 rfl (by decide) ?_
  refine Go.daload 512 Z_va (i := 0) (by decide) rfl at_511 rfl ?_
  refine Go.iloadN 513 at_512 rfl rfl ?_
  refine Go.i2d 514 (FP.i2d v0) at_513 rfl rfl ?_
  refine Go.dcmp 515 (sg _ _) at_514 rfl (cmpI (FP.Core.i2d_int v0) (FP.Core.i2d_int v0) _) ?_
  refine Go.ifCF 518 at_515 rfl (sg_self rfl) ?_
  refine Go.aload 520 at_518 rfl rfl rfl ?_
  refine Go.iconst 521 (1 : Int32) at_520 rfl (by decide) ?_
  refine Go.daload 522 Z_va (i := 1) (by decide) rfl at_521 rfl ?_
  refine Go.iload 524 at_522 rfl rfl ?_
  refine Go.i2d 525 (FP.i2d v1) at_524 rfl rfl ?_
  refine Go.dcmp 526 (sg _ _) at_525 rfl (cmpI (FP.Core.i2d_int v1) (FP.Core.i2d_int v1) _) ?_
  refine Go.ifCF 529 at_526 rfl (sg_self rfl) ?_
  refine Go.aload 531 at_529 rfl rfl rfl ?_
  refine Go.iconst 532 (2 : Int32) at_531 rfl (by decide) ?_
  refine Go.daload 533 Z_va (i := 2) (by decide) rfl at_532 rfl ?_
  refine Go.iload 535 at_533 rfl rfl ?_
  refine Go.i2d 536 (FP.i2d v2) at_535 rfl rfl ?_
  refine Go.dcmp 537 (sg _ _) at_536 rfl (cmpI (FP.Core.i2d_int v2) (FP.Core.i2d_int v2) _) ?_
  refine Go.ifCF 540 at_537 rfl (sg_self rfl) ?_
  refine Go.iconst 541 (1 : Int32) at_540 rfl (by decide) ?_
  refine Go.goto 545 at_541 (by decide) (by decide) ?_
  refine Go.istore 547 #[.val (.long sh), .second, .val (.int cn), .val (.int v0), .val (.int v1), .val (.int v2), .val (.int jk), .val (.int x0), .val (.int x1), .val (.int x2), .val (.ref ts), .val (.ref co), .val (.ref cf), .val (.ref ch), .val (.ref a), .val (.ref va), .val (.ref im), .val (.double l10), .second, .val (.double l20), .second, .val (.double l21), .second, .val (.double u01), .second, .val (.double u02), .second, .val (.double u12), .second, .val (.double r0), .second, .val (.double r1), .second, .val (.double r2), .second, .val (.double w0), .second, .val (.double w1), .second, .val (.double r2), .second, .val (.int (1 : Int32)), .val (.int (1 : Int32))] at_545 rfl rfl ?_
  refine Go.iload 549 at_547 rfl rfl ?_
  refine Go.ifCF 552 at_549 rfl (show (1 : Int) ≠ 0 from by decide) ?_
  refine Go.iload 554 at_552 rfl rfl ?_
  refine Go.ifCF 557 at_554 rfl (show (1 : Int) ≠ 0 from by decide) ?_
  refine Go.iconst 558 (1 : Int32) at_557 rfl (by decide) ?_
  refine Go.goto 562 at_558 (by decide) (by decide) ?_
  exact Go.zret at_562 rfl (Or.inr rfl) (leB rfl) (leB rfl) rfl
set_option maxRecDepth 65536 in
set_option maxHeartbeats 40000000 in
theorem comes_1 {Post : Tables → Env → Array Value → State → Outcome → State → Prop} (hpost : ∀ tb e args s v u, (limb_1_1.after args s (.returned v) u = true ∧ limb_1_2.after args s (.returned v) u = true ∧ True) → FrameEnd s (.returned v) u (Jvm.fieldLocs frame_1_writes args s ++ Jvm.arrayLocs frame_1_arrays args s ++ Jvm.staticLocs frame_1_statics s) 48 256 → Post tb e args s (.returned v) u) :
    ArmFor flags0 classFile x code maxLocals ret World_1 tables_1 room_1 Calls_1 rest_1 Pre_1 Post := by
  intro l hfl _ _ p e ha hc hk s m args below hf hA hF happ hP
  obtain ⟨hcalls, hrest, hpre⟩ := hP
  obtain ⟨-, -, -, hnamed, -, -, -, hat⟩ := (Spec.applies_iff hf).mp happ
  obtain ⟨hg, hn⟩ := and_e (Cond.before_iff.mp (show (Jvm.Cond.and given_1 narrow_1).before args s = true from hpre))
  obtain ⟨h1, g0⟩ := and_e hg
  obtain ⟨k0, g1⟩ := and_e g0
  obtain ⟨k1, g2⟩ := and_e g1
  obtain ⟨k2, g3⟩ := and_e g2
  obtain ⟨k3, g4⟩ := and_e g3
  obtain ⟨k4, g5⟩ := and_e g4
  obtain ⟨w0, w1, w2, w3, w4, w5, rfl⟩ : ∃ w0 w1 w2 w3 w4 w5 : Value, args = #[w0, w1, w2, w3, w4, w5] := by
    have hs : args.size = 6 := by simpa [Cond.value, given_1] using h1
    obtain ⟨L⟩ := args
    match L, hs with
    | [w0, w1, w2, w3, w4, w5], _ => exact ⟨w0, w1, w2, w3, w4, w5, rfl⟩
  have hw := fun d (hd : d ∈ tables_1) => atoms_spec (ws := Jvm.Cond.code x code maxLocals ret :: tables_1) hat d (List.mem_cons_of_mem _ hd)
  obtain ⟨i0, e0⟩ := isL_v k0
  obtain rfl : w0 = (.long i0) := Option.some.inj e0
  obtain ⟨i1, e1⟩ := is_v k1
  obtain rfl : w1 = (.int i1) := Option.some.inj e1
  obtain ⟨i2, e2⟩ := is_v k2
  obtain rfl : w2 = (.int i2) := Option.some.inj e2
  obtain ⟨i3, e3⟩ := is_v k3
  obtain rfl : w3 = (.int i3) := Option.some.inj e3
  obtain ⟨i4, e4⟩ := is_v k4
  obtain rfl : w4 = (.int i4) := Option.some.inj e4
  obtain ⟨i5, e5⟩ := is_v g5
  obtain rfl : w5 = (.int i5) := Option.some.inj e5
  obtain ⟨n, o, h1, h2, h3, _, L, rfl, ⟨rfl, -, N⟩, hq⟩ := (law_go l s _ hw i0 i1 i2 i3 i4 i5 (h := s.heap) (n0 := s.heap.size)).met (ws := tables_1) (Q := Q1) law_pn (Nat.le_refl s.heap.size) (ef_0_JIIIII i0 i1 i2 i3 i4 i5) p e ha hc hk s m _ below hf ((Spec.applies_iff_loose hf).mp happ).1 ⟨rfl, State.WarmedH.refl s, rfl⟩ trivial
  refine ⟨n, _, h1, h2, h3, hpost _ _ _ _ _ _ ⟨Cond.after_iff.mpr rfl, Cond.after_iff.mpr (eq_i res_at (Term.int_eval (1)) rfl), trivial⟩ ⟨hq.1, hq.2.1, (hq.2.2.sift fun y hy => Or.inr (N y hy)).mono (by decide) (by decide)⟩⟩
theorem main_1_1 : Claimed_1_1 := comes_1 fun _ _ _ _ _ _ h hF => ⟨h.1, Jvm.LamKit.wideOf hF⟩
theorem main_1_2 : Claimed_1_2 := comes_1 fun _ _ _ _ _ _ h hF => ⟨h.2.1, Jvm.LamKit.wideOf hF⟩
end Jvm.Pilot.@@N@@
namespace Jvm.Pilot.@@N@@
open Jvm Jvm.ClassFile Sem Op Lib Jvm.Free Jvm.Stand Jvm.Pilot.@@N@@.Jvm.D
/-! MADE BY PROGRAM (witnessworld.py) out of the Statement's table words and the real class files: 17 classes; the members and pool entries that the words name. The judged class is class 1, her method 1. -/
namespace start1
open Jvm.ClassFile
def u (s : String) : CpInfo := .utf8 (stringToUtf16 s)
/-- a pool by its gaps: so many unusable entries, then the entry; so many at the end -/
def gap : Nat → List CpInfo → List CpInfo
  | 0, r => r
  | n + 1, r => .unusable :: gap n r
def poolList (es : List (Nat × CpInfo)) (last : Nat) : List CpInfo := es.foldr (fun e r => gap e.1 (e.2 :: r)) (gap last [])
def pool (es : List (Nat × CpInfo)) (last : Nat) : Array CpInfo := ⟨poolList es last⟩
def fileOf (pool : Array CpInfo) (this : Nat) (attrs : Array Attribute := #[]) (ms : Array MethodInfo := #[]) (fl : Nat := 33) (sup : Nat := 0) (ifs : Array Nat := #[]) (fds : Array FieldInfo := #[]) : ClassFile where
  minorVersion := 0
  majorVersion := 65
  constantPool := pool
  accessFlags := fl
  thisClass := this
  superClass := sup
  interfaces := ifs
  fields := fds
  methods := ms
  attributes := attrs
def plain (name : String) (sup : Option ClassId) : Class where
  name := name
  kind := .ordinary
  loader := none
  accessFlags := 33
  super := sup
  interfaces := #[]
  cf := none
  fields := #[]
  methods := #[]
  instanceTypes := #[]
  staticTypes := #[]
  resolved := #[]
  callSites := []
  init := .initialized
  statics := none
  mirror := none

def pool0 : Array CpInfo := pool [(5, u "<init>"), (0, u "()V"), (1, .class_ 10), (1, u "java/lang/Object")] 113

def k0c0 : Code := { maxStack := 0, maxLocals := 1, code := object_method_1_code, exceptionTable := #[], attributes := #[] }
def k0m0 : Method := { name := "<init>", desc := "()V", sig := { parameters := [], returnType := none }, accessFlags := 1, code := some k0c0 }
/-- java/lang/Object -/
def k0 : Class := { plain "java/lang/Object" none with
  accessFlags := 33
  interfaces := #[]
  cf := some (fileOf pool0 8 #[] #[{ accessFlags := 1, nameIndex := 5, descriptorIndex := 6, attributes := #[] }] 33 0 #[] #[])
  fields := #[]
  methods := #[k0m0]
  instanceTypes := #[]
  staticTypes := #[]
  resolved := Array.replicate 124 none
  statics := none }

def pool1 : Array CpInfo := pool [(2, .class_ 4), (1, u "java/lang/Object"), (0, u "<init>"), (0, u "()V"), (0, .methodref 8 9), (0, .class_ 10), (0, .nameAndType 11 12), (0, u "com/example/orbifold/orbifold/solvers/BicgstabPreconditionPinLaw"), (0, u "col"), (0, u "(JI)I"), (0, .methodref 8 14), (0, .nameAndType 15 16), (0, u "coef"), (0, u "(JI)D"), (0, .class_ 18), (0, u "com/example/orbifold/orbifold/solvers/Bicgstab$Equations"), (0, .methodref 17 20), (0, .nameAndType 5 21), (0, u "(I[I[I[D[I)V"), (0, .methodref 17 23), (0, .nameAndType 24 25), (0, u "precondition"), (0, u "([D[D)V"), (0, .methodref 8 27), (0, .nameAndType 28 29), (0, u "entry"), (0, u "([I[D[III)D"), (0, .long 3), (1, .long 15), (3, u "law"), (0, u "(JIIIII)Z")] 11

def k1m0 : Method := { name := "<init>", desc := "()V", sig := { parameters := [], returnType := none }, accessFlags := 1, code := none }
def k1c1 : Code := { maxStack := 7, maxLocals := 43, code := code, exceptionTable := #[], attributes := #[] }
def k1m1 : Method := { name := "law", desc := "(JIIIII)Z", sig := { parameters := [.long, .int, .int, .int, .int, .int], returnType := some .boolean }, accessFlags := 9, code := some k1c1 }
def k1c2 : Code := { maxStack := 4, maxLocals := 3, code := method_3_code, exceptionTable := #[], attributes := #[] }
def k1m2 : Method := { name := "col", desc := "(JI)I", sig := { parameters := [.long, .int], returnType := some .int }, accessFlags := 10, code := some k1c2 }
def k1c3 : Code := { maxStack := 4, maxLocals := 3, code := method_4_code, exceptionTable := #[], attributes := #[] }
def k1m3 : Method := { name := "coef", desc := "(JI)D", sig := { parameters := [.long, .int], returnType := some .double }, accessFlags := 10, code := some k1c3 }
def k1c4 : Code := { maxStack := 5, maxLocals := 9, code := method_5_code, exceptionTable := #[], attributes := #[] }
def k1m4 : Method := { name := "entry", desc := "([I[D[III)D", sig := { parameters := [(.array .int), (.array .double), (.array .int), .int, .int], returnType := some .double }, accessFlags := 10, code := some k1c4 }
/-- com/example/orbifold/orbifold/solvers/BicgstabPreconditionPinLaw -/
def k1 : Class := { plain "com/example/orbifold/orbifold/solvers/BicgstabPreconditionPinLaw" (some 0) with
  accessFlags := 49
  interfaces := #[]
  cf := some (fileOf pool1 8 #[] #[{ accessFlags := 1, nameIndex := 5, descriptorIndex := 6, attributes := #[] }, { accessFlags := 9, nameIndex := 36, descriptorIndex := 37, attributes := #[] }, { accessFlags := 10, nameIndex := 11, descriptorIndex := 12, attributes := #[] }, { accessFlags := 10, nameIndex := 15, descriptorIndex := 16, attributes := #[] }, { accessFlags := 10, nameIndex := 28, descriptorIndex := 29, attributes := #[] }] 49 2 #[] #[])
  fields := #[]
  methods := #[k1m0, k1m1, k1m2, k1m3, k1m4]
  instanceTypes := #[]
  staticTypes := #[]
  resolved := Array.replicate 49 none
  statics := none }

def pool2 : Array CpInfo := pool [(1, .invokeDynamic 0 2), (0, .nameAndType 3 4), (0, u "applyAsInt"), (0, u "([I[I)Ljava/util/function/IntUnaryOperator;"), (0, .invokeDynamic 1 2), (0, .invokeDynamic 2 7), (0, .nameAndType 3 8), (0, u "([I)Ljava/util/function/IntUnaryOperator;"), (0, .invokeDynamic 3 10), (0, .nameAndType 11 12), (0, u "applyAsDouble"), (0, u "([D)Ljava/util/function/IntToDoubleFunction;"), (0, .methodref 14 15), (0, .class_ 16), (0, .nameAndType 17 18), (0, u "com/example/orbifold/orbifold/solvers/Bicgstab$Equations"), (0, u "<init>"), (0, u "(ILjava/util/function/IntUnaryOperator;Ljava/util/function/IntUnaryOperator;Ljava/util/function/IntUnaryOperator;Ljava/util/function/IntToDoubleFunction;)V"), (0, .methodref 20 21), (0, .class_ 22), (0, .nameAndType 17 23), (0, u "java/lang/Object"), (0, u "()V"), (0, .fieldref 14 25), (0, .nameAndType 26 27), (0, u "size"), (0, u "I"), (0, .fieldref 14 29), (0, .nameAndType 30 31), (0, u "beforeStart"), (0, u "[I"), (0, .fieldref 14 33), (0, .nameAndType 34 31), (0, u "afterStart"), (0, .interfaceMethodref 36 37), (0, .class_ 38), (0, .nameAndType 3 39), (0, u "java/util/function/IntUnaryOperator"), (0, u "(I)I"), (0, .fieldref 14 41), (0, .nameAndType 42 31), (0, u "beforeColumns"), (0, .fieldref 14 44), (0, .nameAndType 45 46), (0, u "beforeCoefficients"), (0, u "[D"), (0, .fieldref 14 48), (0, .nameAndType 49 31), (0, u "afterColumns"), (0, .fieldref 14 51), (0, .nameAndType 52 46), (0, u "afterCoefficients"), (0, .interfaceMethodref 54 55), (0, .class_ 56), (0, .nameAndType 11 57), (0, u "java/util/function/IntToDoubleFunction"), (0, u "(I)D"), (50, u "(I[I[I[D[I)V"), (7, u "([D[D)V"), (1, u "precondition"), (3, u "lambda$new$3"), (0, u "([DI)D"), (0, u "lambda$new$2"), (0, u "([II)I"), (0, u "lambda$new$1"), (0, u "([I[II)I"), (0, u "lambda$new$0"), (3, .class_ 133), (0, u "com/example/orbifold/orbifold/solvers/Bicgstab"), (1, .methodType 39), (0, .methodHandle 6 137), (0, .methodref 14 138), (0, .nameAndType 128 127), (0, .methodHandle 6 140), (0, .methodref 14 141), (0, .nameAndType 126 127), (0, .methodHandle 6 143), (0, .methodref 14 144), (0, .nameAndType 124 125), (0, .methodType 57), (0, .methodHandle 6 147), (0, .methodref 14 148), (0, .nameAndType 122 123), (16, .methodHandle 6 166), (0, .methodref 167 168), (0, .class_ 169), (0, .nameAndType 170 171), (0, u "java/lang/invoke/LambdaMetafactory"), (0, u "metafactory"), (0, u "(Ljava/lang/invoke/MethodHandles$Lookup;Ljava/lang/String;Ljava/lang/invoke/MethodType;Ljava/lang/invoke/MethodType;Ljava/lang/invoke/MethodHandle;Ljava/lang/invoke/MethodType;)Ljava/lang/invoke/CallSite;")] 13

def k2c0 : Code := { maxStack := 6, maxLocals := 6, code := prog_170_method_1_code, exceptionTable := #[], attributes := #[] }
def k2m0 : Method := { name := "<init>", desc := "(I[I[I[D[I)V", sig := { parameters := [.int, (.array .int), (.array .int), (.array .double), (.array .int)], returnType := none }, accessFlags := 0, code := some k2c0 }
def k2c1 : Code := { maxStack := 4, maxLocals := 10, code := prog_170_method_2_code, exceptionTable := #[], attributes := #[] }
def k2m1 : Method := { name := "<init>", desc := "(ILjava/util/function/IntUnaryOperator;Ljava/util/function/IntUnaryOperator;Ljava/util/function/IntUnaryOperator;Ljava/util/function/IntToDoubleFunction;)V", sig := { parameters := [.int, (.object "java/util/function/IntUnaryOperator"), (.object "java/util/function/IntUnaryOperator"), (.object "java/util/function/IntUnaryOperator"), (.object "java/util/function/IntToDoubleFunction")], returnType := none }, accessFlags := 2, code := some k2c1 }
def k2c2 : Code := { maxStack := 7, maxLocals := 7, code := prog_170_method_7_code, exceptionTable := #[], attributes := #[] }
def k2m2 : Method := { name := "precondition", desc := "([D[D)V", sig := { parameters := [(.array .double), (.array .double)], returnType := none }, accessFlags := 0, code := some k2c2 }
def k2c3 : Code := { maxStack := 2, maxLocals := 2, code := prog_170_method_10_code, exceptionTable := #[], attributes := #[] }
def k2m3 : Method := { name := "lambda$new$3", desc := "([DI)D", sig := { parameters := [(.array .double), .int], returnType := some .double }, accessFlags := 4106, code := some k2c3 }
def k2c4 : Code := { maxStack := 2, maxLocals := 2, code := prog_170_method_11_code, exceptionTable := #[], attributes := #[] }
def k2m4 : Method := { name := "lambda$new$2", desc := "([II)I", sig := { parameters := [(.array .int), .int], returnType := some .int }, accessFlags := 4106, code := some k2c4 }
def k2c5 : Code := { maxStack := 3, maxLocals := 3, code := prog_170_method_12_code, exceptionTable := #[], attributes := #[] }
def k2m5 : Method := { name := "lambda$new$1", desc := "([I[II)I", sig := { parameters := [(.array .int), (.array .int), .int], returnType := some .int }, accessFlags := 4106, code := some k2c5 }
def k2c6 : Code := { maxStack := 3, maxLocals := 3, code := prog_170_method_13_code, exceptionTable := #[], attributes := #[] }
def k2m6 : Method := { name := "lambda$new$0", desc := "([I[II)I", sig := { parameters := [(.array .int), (.array .int), .int], returnType := some .int }, accessFlags := 4106, code := some k2c6 }
/-- com/example/orbifold/orbifold/solvers/Bicgstab$Equations -/
def k2 : Class := { plain "com/example/orbifold/orbifold/solvers/Bicgstab$Equations" (some 0) with
  accessFlags := 48
  interfaces := #[]
  cf := some (fileOf pool2 14 #[.nestHost 132, .bootstrapMethods #[⟨165, #[135, 136, 135]⟩, ⟨165, #[135, 139, 135]⟩, ⟨165, #[135, 142, 135]⟩, ⟨165, #[145, 146, 145]⟩, ⟨0, #[]⟩, ⟨0, #[]⟩, ⟨0, #[]⟩, ⟨0, #[]⟩, ⟨0, #[]⟩]] #[{ accessFlags := 0, nameIndex := 17, descriptorIndex := 108, attributes := #[] }, { accessFlags := 2, nameIndex := 17, descriptorIndex := 18, attributes := #[] }, { accessFlags := 0, nameIndex := 118, descriptorIndex := 116, attributes := #[] }, { accessFlags := 4106, nameIndex := 122, descriptorIndex := 123, attributes := #[] }, { accessFlags := 4106, nameIndex := 124, descriptorIndex := 125, attributes := #[] }, { accessFlags := 4106, nameIndex := 126, descriptorIndex := 127, attributes := #[] }, { accessFlags := 4106, nameIndex := 128, descriptorIndex := 127, attributes := #[] }] 48 20 #[] #[{ accessFlags := 18, nameIndex := 26, descriptorIndex := 27, attributes := #[] }, { accessFlags := 18, nameIndex := 30, descriptorIndex := 31, attributes := #[] }, { accessFlags := 18, nameIndex := 34, descriptorIndex := 31, attributes := #[] }, { accessFlags := 18, nameIndex := 42, descriptorIndex := 31, attributes := #[] }, { accessFlags := 18, nameIndex := 45, descriptorIndex := 46, attributes := #[] }, { accessFlags := 18, nameIndex := 49, descriptorIndex := 31, attributes := #[] }, { accessFlags := 18, nameIndex := 52, descriptorIndex := 46, attributes := #[] }])
  fields := #[{ name := "size", type := .int, accessFlags := 18, slot := 0, constantValue := 0 }, { name := "beforeStart", type := (.array .int), accessFlags := 18, slot := 1, constantValue := 0 }, { name := "afterStart", type := (.array .int), accessFlags := 18, slot := 2, constantValue := 0 }, { name := "beforeColumns", type := (.array .int), accessFlags := 18, slot := 3, constantValue := 0 }, { name := "beforeCoefficients", type := (.array .double), accessFlags := 18, slot := 4, constantValue := 0 }, { name := "afterColumns", type := (.array .int), accessFlags := 18, slot := 5, constantValue := 0 }, { name := "afterCoefficients", type := (.array .double), accessFlags := 18, slot := 6, constantValue := 0 }]
  methods := #[k2m0, k2m1, k2m2, k2m3, k2m4, k2m5, k2m6]
  instanceTypes := #[.int, (.array .int), (.array .int), (.array .int), (.array .double), (.array .int), (.array .double)]
  staticTypes := #[]
  resolved := Array.replicate 185 none
  callSites := [(0, 5, .makes 13), (0, 13, .makes 14), (0, 19, .makes 15), (0, 26, .makes 16)]
  statics := none }

def pool3 : Array CpInfo := pool [(9, u "applyAsInt"), (6, .class_ 18), (1, u "java/util/function/IntUnaryOperator"), (0, u "(I)I"), (0, .class_ 21), (0, u "java/lang/Object")] 46

def k3m0 : Method := { name := "applyAsInt", desc := "(I)I", sig := { parameters := [.int], returnType := some .int }, accessFlags := 1025, code := none }
/-- java/util/function/IntUnaryOperator -/
def k3 : Class := { plain "java/util/function/IntUnaryOperator" (some 0) with
  accessFlags := 1537
  interfaces := #[]
  cf := some (fileOf pool3 16 #[] #[{ accessFlags := 1025, nameIndex := 9, descriptorIndex := 19, attributes := #[] }] 1537 20 #[] #[])
  fields := #[]
  methods := #[k3m0]
  instanceTypes := #[]
  staticTypes := #[]
  resolved := Array.replicate 68 none
  statics := none }

def pool4 : Array CpInfo := pool [(1, .class_ 2), (0, u "java/util/function/IntToDoubleFunction"), (0, .class_ 4), (0, u "java/lang/Object"), (0, u "applyAsDouble"), (0, u "(I)D")] 4

def k4m0 : Method := { name := "applyAsDouble", desc := "(I)D", sig := { parameters := [.int], returnType := some .double }, accessFlags := 1025, code := none }
/-- java/util/function/IntToDoubleFunction -/
def k4 : Class := { plain "java/util/function/IntToDoubleFunction" (some 0) with
  accessFlags := 1537
  interfaces := #[]
  cf := some (fileOf pool4 1 #[] #[{ accessFlags := 1025, nameIndex := 5, descriptorIndex := 6, attributes := #[] }] 1537 3 #[] #[])
  fields := #[]
  methods := #[k4m0]
  instanceTypes := #[]
  staticTypes := #[]
  resolved := Array.replicate 11 none
  statics := none }

def pool5 : Array CpInfo := pool [(1, u "java/lang/Cloneable"), (0, .class_ 1), (0, u "java/lang/Object"), (0, .class_ 3)] 3

/-- java/lang/Cloneable -/
def k5 : Class := { plain "java/lang/Cloneable" (some 0) with
  accessFlags := 1537
  interfaces := #[]
  cf := some (fileOf pool5 2 #[] #[] 1537 4 #[] #[])
  fields := #[]
  methods := #[]
  instanceTypes := #[]
  staticTypes := #[]
  resolved := Array.replicate 8 none
  statics := none }

def pool6 : Array CpInfo := pool [(1, u "java/io/Serializable"), (0, .class_ 1), (0, u "java/lang/Object"), (0, .class_ 3)] 3

/-- java/io/Serializable -/
def k6 : Class := { plain "java/io/Serializable" (some 0) with
  accessFlags := 1537
  interfaces := #[]
  cf := some (fileOf pool6 2 #[] #[] 1537 4 #[] #[])
  fields := #[]
  methods := #[]
  instanceTypes := #[]
  staticTypes := #[]
  resolved := Array.replicate 8 none
  statics := none }

/-- the primitive byte -/
def k7 : Class := { plain "byte" none with kind := .primitive 'B', accessFlags := 0x411 }
/-- [B -/
def k8 : Class := { plain "[B" (some 0) with kind := .array 7 .byte, interfaces := #[5, 6], accessFlags := 1041 }

/-- the primitive double -/
def k9 : Class := { plain "double" none with kind := .primitive 'D', accessFlags := 0x411 }
/-- [D -/
def k10 : Class := { plain "[D" (some 0) with kind := .array 9 .double, interfaces := #[5, 6], accessFlags := 1041 }

/-- the primitive int -/
def k11 : Class := { plain "int" none with kind := .primitive 'I', accessFlags := 0x411 }
/-- [I -/
def k12 : Class := { plain "[I" (some 0) with kind := .array 11 .int, interfaces := #[5, 6], accessFlags := 1041 }

def classes0 : Array Class := #[k0, k1, k2, k3, k4, k5, k6, k7, k8, k9, k10, k11, k12]
/-- the class that the rule has made for the site at 5 of com/example/orbifold/orbifold/solvers/Bicgstab$Equations.<init> -/
def k13 : Class := Jvm.LamKit.madeRec { classes := classes0 } "com/example/orbifold/orbifold/solvers/Bicgstab$Equations" (Jvm.Lambda.Shape.mk "java/util/function/IntUnaryOperator" "applyAsInt" (Jvm.ClassFile.MethodDescriptor.mk ([Jvm.ClassFile.FieldType.int] : List Jvm.ClassFile.FieldType) (Option.some Jvm.ClassFile.FieldType.int)) ([(Jvm.ClassFile.FieldType.array Jvm.ClassFile.FieldType.int), (Jvm.ClassFile.FieldType.array Jvm.ClassFile.FieldType.int)] : List Jvm.ClassFile.FieldType) (6 : Nat) "com/example/orbifold/orbifold/solvers/Bicgstab$Equations" "lambda$new$0" (Jvm.ClassFile.MethodDescriptor.mk ([(Jvm.ClassFile.FieldType.array Jvm.ClassFile.FieldType.int), (Jvm.ClassFile.FieldType.array Jvm.ClassFile.FieldType.int), Jvm.ClassFile.FieldType.int] : List Jvm.ClassFile.FieldType) (Option.some Jvm.ClassFile.FieldType.int)) false (Jvm.ClassFile.MethodDescriptor.mk ([Jvm.ClassFile.FieldType.int] : List Jvm.ClassFile.FieldType) (Option.some Jvm.ClassFile.FieldType.int))) 13

/-- the class that the rule has made for the site at 13 of com/example/orbifold/orbifold/solvers/Bicgstab$Equations.<init> -/
def k14 : Class := Jvm.LamKit.madeRec { classes := classes0 } "com/example/orbifold/orbifold/solvers/Bicgstab$Equations" (Jvm.Lambda.Shape.mk "java/util/function/IntUnaryOperator" "applyAsInt" (Jvm.ClassFile.MethodDescriptor.mk ([Jvm.ClassFile.FieldType.int] : List Jvm.ClassFile.FieldType) (Option.some Jvm.ClassFile.FieldType.int)) ([(Jvm.ClassFile.FieldType.array Jvm.ClassFile.FieldType.int), (Jvm.ClassFile.FieldType.array Jvm.ClassFile.FieldType.int)] : List Jvm.ClassFile.FieldType) (6 : Nat) "com/example/orbifold/orbifold/solvers/Bicgstab$Equations" "lambda$new$1" (Jvm.ClassFile.MethodDescriptor.mk ([(Jvm.ClassFile.FieldType.array Jvm.ClassFile.FieldType.int), (Jvm.ClassFile.FieldType.array Jvm.ClassFile.FieldType.int), Jvm.ClassFile.FieldType.int] : List Jvm.ClassFile.FieldType) (Option.some Jvm.ClassFile.FieldType.int)) false (Jvm.ClassFile.MethodDescriptor.mk ([Jvm.ClassFile.FieldType.int] : List Jvm.ClassFile.FieldType) (Option.some Jvm.ClassFile.FieldType.int))) 14

/-- the class that the rule has made for the site at 19 of com/example/orbifold/orbifold/solvers/Bicgstab$Equations.<init> -/
def k15 : Class := Jvm.LamKit.madeRec { classes := classes0 } "com/example/orbifold/orbifold/solvers/Bicgstab$Equations" (Jvm.Lambda.Shape.mk "java/util/function/IntUnaryOperator" "applyAsInt" (Jvm.ClassFile.MethodDescriptor.mk ([Jvm.ClassFile.FieldType.int] : List Jvm.ClassFile.FieldType) (Option.some Jvm.ClassFile.FieldType.int)) ([(Jvm.ClassFile.FieldType.array Jvm.ClassFile.FieldType.int)] : List Jvm.ClassFile.FieldType) (6 : Nat) "com/example/orbifold/orbifold/solvers/Bicgstab$Equations" "lambda$new$2" (Jvm.ClassFile.MethodDescriptor.mk ([(Jvm.ClassFile.FieldType.array Jvm.ClassFile.FieldType.int), Jvm.ClassFile.FieldType.int] : List Jvm.ClassFile.FieldType) (Option.some Jvm.ClassFile.FieldType.int)) false (Jvm.ClassFile.MethodDescriptor.mk ([Jvm.ClassFile.FieldType.int] : List Jvm.ClassFile.FieldType) (Option.some Jvm.ClassFile.FieldType.int))) 15

/-- the class that the rule has made for the site at 26 of com/example/orbifold/orbifold/solvers/Bicgstab$Equations.<init> -/
def k16 : Class := Jvm.LamKit.madeRec { classes := classes0 } "com/example/orbifold/orbifold/solvers/Bicgstab$Equations" (Jvm.Lambda.Shape.mk "java/util/function/IntToDoubleFunction" "applyAsDouble" (Jvm.ClassFile.MethodDescriptor.mk ([Jvm.ClassFile.FieldType.int] : List Jvm.ClassFile.FieldType) (Option.some Jvm.ClassFile.FieldType.double)) ([(Jvm.ClassFile.FieldType.array Jvm.ClassFile.FieldType.double)] : List Jvm.ClassFile.FieldType) (6 : Nat) "com/example/orbifold/orbifold/solvers/Bicgstab$Equations" "lambda$new$3" (Jvm.ClassFile.MethodDescriptor.mk ([(Jvm.ClassFile.FieldType.array Jvm.ClassFile.FieldType.double), Jvm.ClassFile.FieldType.int] : List Jvm.ClassFile.FieldType) (Option.some Jvm.ClassFile.FieldType.double)) false (Jvm.ClassFile.MethodDescriptor.mk ([Jvm.ClassFile.FieldType.int] : List Jvm.ClassFile.FieldType) (Option.some Jvm.ClassFile.FieldType.double))) 16

def heap : Heap := #[]
def classes : Array Class := #[k0, k1, k2, k3, k4, k5, k6, k7, k8, k9, k10, k11, k12, k13, k14, k15, k16]
def interned : List (Array UInt16 × Addr) := []
def slotsUsed : Nat := 0
def theMethod : MethodId := ⟨1, 1⟩
def args0 : Array Value := #[.long 1, .int 2, .int 3, .int 0, .int 0, .int 0]
def aboutOver (below : List Frame) : State where
  vm := { classes := classes, interned := interned.toArray }
  heap := heap
  slotsUsed := slotsUsed
  threads := #[{ frames := .invoking theMethod args0 :: below }]
def below0 : List Frame := [.native { method := ⟨0, 0⟩, args := #[] }]
def about1 : State := aboutOver below0
def p0 : Program := .bare "" "" ""
def e0 : Env := launch0.env 0 0 0
theorem w_frames : about1.frames = Frame.invoking theMethod args0 :: below0 := rfl
set_option maxRecDepth 65536 in
theorem w_args : argsFit about1.vm theMethod args0 = true := by decide +kernel
set_option maxRecDepth 65536 in
theorem w_heap : heapFits about1 = true := by decide +kernel
set_option maxRecDepth 65536 in
theorem w_runnable : about1.curStatus? = some .runnable := by decide +kernel
set_option maxRecDepth 65536 in
theorem w_alone : about1.alone = true := by decide +kernel
set_option maxRecDepth 65536 in
theorem w_named : about1.methodNamed? x = some theMethod := by decide +kernel
set_option maxRecDepth 65536 in
theorem w_hears : about1.hears theMethod below0 = true := by decide +kernel
set_option maxRecDepth 65536 in
theorem w_ripe : about1.ripe theMethod args0 below0 = true := by decide +kernel
theorem w_running : about1.status = .running := rfl
set_option maxRecDepth 65536 in
theorem w_room : about1.hasRoom e0.platform room_1 = true :=
  launch0.hasRoom_least _ room_1 (by decide +kernel) (by decide +kernel) (by decide +kernel) (by decide +kernel) (by decide +kernel) (by decide +kernel)
theorem allAtoms_all (ts : List Jvm.Cond) (a : Array Jvm.Value) (st : Jvm.State) : (allAtoms ts).before a st = ts.all (fun c => c.before a st) := by
  induction ts with
  | nil => rfl
  | cons c t ih =>
    show (Jvm.Cond.and c (allAtoms t)).before a st = _
    rw [Jvm.Cond.before_and, ih, List.all_cons]
def words1 : List Jvm.Cond := Jvm.Cond.code x code maxLocals ret :: tables_1
/-- a 'code' word, met by the world's own term for the bytes: nothing is compared byte by byte -/
theorem code_word {y : MethodName} {bytes : ByteArray} {mx : Nat} {rt : Option FieldType} {a : Array Value} {s : State} {m : MethodId} {meth : Method} {c : Code} (h1 : s.methodNamed? y = some m) (h2 : s.vm.method? m = some meth) (h3 : meth.code = some c) (h4 : c.code = bytes)
    (h5 : (c.maxLocals == mx && c.exceptionTable.isEmpty && decide (c.maxStack ≤ mostOperands) && decide (meth.sig.returnType = rt) && !meth.locks && decide (parseMethodDescriptor y.desc = some meth.sig)) = true) : (Jvm.Cond.code y bytes mx rt).before a s = true := by
  simp only [Bool.and_eq_true, beq_iff_eq, Bool.not_eq_true', decide_eq_true_eq] at h5
  obtain ⟨⟨⟨⟨⟨g1, g2⟩, g3⟩, g4⟩, g5⟩, g6⟩ := h5
  simp [Cond.before, Cond.holds, Cond.value, h1, h2, h3, h4, g1, g2, g3, g4, g5, g6]
def isCode : Jvm.Cond → Bool
  | .code _ _ _ _ => true
  | _ => false
theorem all_split {L : List Jvm.Cond} {P : Jvm.Cond → Bool} (h1 : L.all (fun c => isCode c || P c) = true) (h2 : ∀ c ∈ L.filter isCode, P c = true) : L.all P = true := by
  refine List.all_eq_true.mpr fun c hc => ?_
  have h := List.all_eq_true.mp h1 c hc
  rcases Bool.eq_false_or_eq_true (isCode c) with hi | hi
  · exact h2 c (List.mem_filter.mpr ⟨hc, hi⟩)
  · simpa [hi] using h
set_option maxRecDepth 65536 in
theorem w_c0 : (Jvm.Cond.code x code maxLocals ret).before args0 about1 = true := code_word (m := ⟨1, 1⟩) (meth := k1m1) (c := k1c1) (by decide +kernel) rfl rfl rfl (by decide +kernel)
set_option maxRecDepth 65536 in
theorem w_c1 : (Jvm.Cond.code ({ cls := "com/example/orbifold/orbifold/solvers/BicgstabPreconditionPinLaw", name := "col", desc := "(JI)I" } : Jvm.MethodName) method_3_code (3 : Nat) (Option.some Jvm.ClassFile.FieldType.int)).before args0 about1 = true := code_word (m := ⟨1, 2⟩) (meth := k1m2) (c := k1c2) (by decide +kernel) rfl rfl rfl (by decide +kernel)
set_option maxRecDepth 65536 in
theorem w_c2 : (Jvm.Cond.code ({ cls := "com/example/orbifold/orbifold/solvers/BicgstabPreconditionPinLaw", name := "coef", desc := "(JI)D" } : Jvm.MethodName) method_4_code (3 : Nat) (Option.some Jvm.ClassFile.FieldType.double)).before args0 about1 = true := code_word (m := ⟨1, 3⟩) (meth := k1m3) (c := k1c3) (by decide +kernel) rfl rfl rfl (by decide +kernel)
set_option maxRecDepth 65536 in
theorem w_c3 : (Jvm.Cond.code ({ cls := "com/example/orbifold/orbifold/solvers/Bicgstab$Equations", name := "<init>", desc := "(I[I[I[D[I)V" } : Jvm.MethodName) prog_170_method_1_code (6 : Nat) (Option.none : Option Jvm.ClassFile.FieldType)).before args0 about1 = true := code_word (m := ⟨2, 0⟩) (meth := k2m0) (c := k2c0) (by decide +kernel) rfl rfl rfl (by decide +kernel)
set_option maxRecDepth 65536 in
theorem w_c4 : (Jvm.Cond.code ({ cls := "com/example/orbifold/orbifold/solvers/Bicgstab$Equations", name := "<init>", desc := "(ILjava/util/function/IntUnaryOperator;Ljava/util/function/IntUnaryOperator;Ljava/util/function/IntUnaryOperator;Ljava/util/function/IntToDoubleFunction;)V" } : Jvm.MethodName) prog_170_method_2_code (10 : Nat) (Option.none : Option Jvm.ClassFile.FieldType)).before args0 about1 = true := code_word (m := ⟨2, 1⟩) (meth := k2m1) (c := k2c1) (by decide +kernel) rfl rfl rfl (by decide +kernel)
set_option maxRecDepth 65536 in
theorem w_c5 : (Jvm.Cond.code ({ cls := "java/lang/Object", name := "<init>", desc := "()V" } : Jvm.MethodName) object_method_1_code (1 : Nat) (Option.none : Option Jvm.ClassFile.FieldType)).before args0 about1 = true := code_word (m := ⟨0, 0⟩) (meth := k0m0) (c := k0c0) (by decide +kernel) rfl rfl rfl (by decide +kernel)
set_option maxRecDepth 65536 in
theorem w_c6 : (Jvm.Cond.code ({ cls := "com/example/orbifold/orbifold/solvers/Bicgstab$Equations", name := "lambda$new$0", desc := "([I[II)I" } : Jvm.MethodName) prog_170_method_13_code (3 : Nat) (Option.some Jvm.ClassFile.FieldType.int)).before args0 about1 = true := code_word (m := ⟨2, 6⟩) (meth := k2m6) (c := k2c6) (by decide +kernel) rfl rfl rfl (by decide +kernel)
set_option maxRecDepth 65536 in
theorem w_c7 : (Jvm.Cond.code ({ cls := "com/example/orbifold/orbifold/solvers/Bicgstab$Equations", name := "lambda$new$1", desc := "([I[II)I" } : Jvm.MethodName) prog_170_method_12_code (3 : Nat) (Option.some Jvm.ClassFile.FieldType.int)).before args0 about1 = true := code_word (m := ⟨2, 5⟩) (meth := k2m5) (c := k2c5) (by decide +kernel) rfl rfl rfl (by decide +kernel)
set_option maxRecDepth 65536 in
theorem w_c8 : (Jvm.Cond.code ({ cls := "com/example/orbifold/orbifold/solvers/Bicgstab$Equations", name := "lambda$new$2", desc := "([II)I" } : Jvm.MethodName) prog_170_method_11_code (2 : Nat) (Option.some Jvm.ClassFile.FieldType.int)).before args0 about1 = true := code_word (m := ⟨2, 4⟩) (meth := k2m4) (c := k2c4) (by decide +kernel) rfl rfl rfl (by decide +kernel)
set_option maxRecDepth 65536 in
theorem w_c9 : (Jvm.Cond.code ({ cls := "com/example/orbifold/orbifold/solvers/Bicgstab$Equations", name := "lambda$new$3", desc := "([DI)D" } : Jvm.MethodName) prog_170_method_10_code (2 : Nat) (Option.some Jvm.ClassFile.FieldType.double)).before args0 about1 = true := code_word (m := ⟨2, 3⟩) (meth := k2m3) (c := k2c3) (by decide +kernel) rfl rfl rfl (by decide +kernel)
set_option maxRecDepth 65536 in
theorem w_c10 : (Jvm.Cond.code ({ cls := "com/example/orbifold/orbifold/solvers/Bicgstab$Equations", name := "precondition", desc := "([D[D)V" } : Jvm.MethodName) prog_170_method_7_code (7 : Nat) (Option.none : Option Jvm.ClassFile.FieldType)).before args0 about1 = true := code_word (m := ⟨2, 2⟩) (meth := k2m2) (c := k2c2) (by decide +kernel) rfl rfl rfl (by decide +kernel)
set_option maxRecDepth 65536 in
theorem w_c11 : (Jvm.Cond.code ({ cls := "com/example/orbifold/orbifold/solvers/BicgstabPreconditionPinLaw", name := "entry", desc := "([I[D[III)D" } : Jvm.MethodName) method_5_code (9 : Nat) (Option.some Jvm.ClassFile.FieldType.double)).before args0 about1 = true := code_word (m := ⟨1, 4⟩) (meth := k1m4) (c := k1c4) (by decide +kernel) rfl rfl rfl (by decide +kernel)
def codes1 : List Jvm.Cond := [Jvm.Cond.code x code maxLocals ret, Jvm.Cond.code ({ cls := "com/example/orbifold/orbifold/solvers/BicgstabPreconditionPinLaw", name := "col", desc := "(JI)I" } : Jvm.MethodName) method_3_code (3 : Nat) (Option.some Jvm.ClassFile.FieldType.int), Jvm.Cond.code ({ cls := "com/example/orbifold/orbifold/solvers/BicgstabPreconditionPinLaw", name := "coef", desc := "(JI)D" } : Jvm.MethodName) method_4_code (3 : Nat) (Option.some Jvm.ClassFile.FieldType.double), Jvm.Cond.code ({ cls := "com/example/orbifold/orbifold/solvers/Bicgstab$Equations", name := "<init>", desc := "(I[I[I[D[I)V" } : Jvm.MethodName) prog_170_method_1_code (6 : Nat) (Option.none : Option Jvm.ClassFile.FieldType), Jvm.Cond.code ({ cls := "com/example/orbifold/orbifold/solvers/Bicgstab$Equations", name := "<init>", desc := "(ILjava/util/function/IntUnaryOperator;Ljava/util/function/IntUnaryOperator;Ljava/util/function/IntUnaryOperator;Ljava/util/function/IntToDoubleFunction;)V" } : Jvm.MethodName) prog_170_method_2_code (10 : Nat) (Option.none : Option Jvm.ClassFile.FieldType), Jvm.Cond.code ({ cls := "java/lang/Object", name := "<init>", desc := "()V" } : Jvm.MethodName) object_method_1_code (1 : Nat) (Option.none : Option Jvm.ClassFile.FieldType), Jvm.Cond.code ({ cls := "com/example/orbifold/orbifold/solvers/Bicgstab$Equations", name := "lambda$new$0", desc := "([I[II)I" } : Jvm.MethodName) prog_170_method_13_code (3 : Nat) (Option.some Jvm.ClassFile.FieldType.int), Jvm.Cond.code ({ cls := "com/example/orbifold/orbifold/solvers/Bicgstab$Equations", name := "lambda$new$1", desc := "([I[II)I" } : Jvm.MethodName) prog_170_method_12_code (3 : Nat) (Option.some Jvm.ClassFile.FieldType.int), Jvm.Cond.code ({ cls := "com/example/orbifold/orbifold/solvers/Bicgstab$Equations", name := "lambda$new$2", desc := "([II)I" } : Jvm.MethodName) prog_170_method_11_code (2 : Nat) (Option.some Jvm.ClassFile.FieldType.int), Jvm.Cond.code ({ cls := "com/example/orbifold/orbifold/solvers/Bicgstab$Equations", name := "lambda$new$3", desc := "([DI)D" } : Jvm.MethodName) prog_170_method_10_code (2 : Nat) (Option.some Jvm.ClassFile.FieldType.double), Jvm.Cond.code ({ cls := "com/example/orbifold/orbifold/solvers/Bicgstab$Equations", name := "precondition", desc := "([D[D)V" } : Jvm.MethodName) prog_170_method_7_code (7 : Nat) (Option.none : Option Jvm.ClassFile.FieldType), Jvm.Cond.code ({ cls := "com/example/orbifold/orbifold/solvers/BicgstabPreconditionPinLaw", name := "entry", desc := "([I[D[III)D" } : Jvm.MethodName) method_5_code (9 : Nat) (Option.some Jvm.ClassFile.FieldType.double)]
set_option maxRecDepth 65536 in
theorem codes_eq : words1.filter isCode = codes1 := rfl
theorem w_codes : ∀ c ∈ words1.filter isCode, c.before args0 about1 = true := by
  rw [codes_eq]
  intro c hc
  simp only [codes1, List.mem_cons, List.not_mem_nil, or_false] at hc
  rcases hc with rfl | rfl | rfl | rfl | rfl | rfl | rfl | rfl | rfl | rfl | rfl | rfl
  · exact w_c0
  · exact w_c1
  · exact w_c2
  · exact w_c3
  · exact w_c4
  · exact w_c5
  · exact w_c6
  · exact w_c7
  · exact w_c8
  · exact w_c9
  · exact w_c10
  · exact w_c11
set_option maxRecDepth 65536 in
theorem w_t1 : (words1.take 24).all (fun c => isCode c || c.before args0 about1) = true := by decide +kernel
set_option maxRecDepth 65536 in
theorem w_t2 : ((words1.drop 24).take 24).all (fun c => isCode c || c.before args0 about1) = true := by decide +kernel
set_option maxRecDepth 65536 in
theorem w_t3 : ((words1.drop 24).drop 24).all (fun c => isCode c || c.before args0 about1) = true := by decide +kernel
theorem w_tables : (allAtoms (Jvm.Cond.code x code maxLocals ret :: tables_1)).before args0 about1 = true := by
  rw [allAtoms_all]
  show words1.all (fun c => c.before args0 about1) = true
  refine all_split ?_ w_codes
  rw [← List.take_append_drop 24 words1, List.all_append, w_t1, ← List.take_append_drop 24 (words1.drop 24), List.all_append, w_t2, w_t3]
  rfl
set_option maxRecDepth 65536 in
theorem w_case : (Jvm.Cond.and given_1 narrow_1).before args0 about1 = true := by decide +kernel
theorem w_applies : (headSpec (Jvm.Cond.code x code maxLocals ret :: tables_1) room_1).applies x e0.platform about1 = true :=
  (Spec.applies_iff w_frames).mpr ⟨w_running, w_runnable, w_alone, w_named, w_hears, w_ripe, w_room, w_tables⟩
theorem atStart : AtStart classFile x code maxLocals ret World_1 tables_1 room_1 Calls_1 rest_1 Pre_1 launch0 p0 e0 about1 theMethod args0 below0 :=
  ⟨lists_1, trivial, launch0.admits_env _ _ _, launch0.least_env, fairChoices_fair.cas, fairChoices_fair.clock, w_frames, w_args, w_heap, w_applies, trivial, trivial, w_case⟩
end start1
theorem witness_1 : WitnessClaimed_1 := ⟨start1.p0, start1.e0, start1.about1, start1.theMethod, start1.args0, start1.below0, start1.atStart⟩
end Jvm.Pilot.@@N@@
