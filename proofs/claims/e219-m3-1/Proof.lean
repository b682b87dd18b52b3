import JvmDerived
import JvmDerived.Pilot.@@N@@Statement
import JvmDerived.Pilot.@@N@@Code
set_option linter.unusedVariables false
set_option linter.unusedSimpArgs false
namespace Jvm.GoK
open Sem ClassFile Op Lib Jvm.Stand Jvm.Free Jvm.LawKit Jvm.RoadKit
/-- a body: its method, its bytes, how many locals, what it returns -/
abbrev Bdy : Type := MethodName × ByteArray × Nat × Option FieldType
/-- what is known all over the walk of one body -/
def Cx (p : Program) (s : State) (m : MethodId) (meth : Method) (c : Code) (Z : State) (B : Bdy) : Prop :=
  p.tables.exec = Jvm.exec ∧ Z.Warmed39 s.vm ∧ s.vm.findClass B.1.cls = some m.cls ∧ c.code = B.2.1 ∧ c.maxLocals = B.2.2.1 ∧ meth.sig.returnType = B.2.2.2 ∧ meth.locks = false ∧ meth.name = B.1.name ∧ Z.WarmedH s.vm ∧ s.methodNamed? B.1 = some m
/-- from pc, with these locals and this operand stack, over the heap h, the body B returns, and Q holds of what it returns and of the heap then; only cells from n0 on are written -/
def Go (l : Launch) (Z : State) (R : Room) (B : Bdy) (n0 : Nat) (Q : Option Value → Heap → Prop) (h : Heap) (cl sl pc : Nat) (Ls : Array Slot) (st : List Value) : Prop :=
  ∀ (p : Program) (e : Env) (s : State) (m : MethodId) (args : Array Value) (below : List Frame) (meth : Method) (c : Code) (T : State) (locs : List Loc),
    Stand p l e R s m args below meth c T locs cl sl → Cx p s m meth c Z B → Fr n0 locs → T.heap = h → n0 ≤ h.size →
    ∃ s₂ o, Steps p.tables e below (T.setTop (mkF m pc Ls st)) s₂ ∧ s₂.status = .running ∧ Ended s₂ below o ∧
      ∃ v L, o = .returned v ∧ (Q v s₂.heap ∧ n0 ≤ s₂.heap.size ∧ Fr n0 L) ∧ FrameEnd s o s₂ L R.cells R.slots
section Rules
variable {l : Launch} {Z : State} {R : Room} {B : Bdy} {n0 : Nat} {Q : Option Value → Heap → Prop} {h : Heap} {cl sl pc : Nat} {Ls : Array Slot} {st : List Value} {a0 : Array Value}
theorem Go.lift {pc' : Nat} {Ls' : Array Slot} {st' : List Value}
    (f : ∀ {p : Program} {e : Env} {below : List Frame} {T target : State} {m : MethodId} {c : Code}, At T m c below → p.tables.exec = Jvm.exec → c.code = B.2.1 → Steps p.tables e below (T.setTop (mkF m pc' Ls' st')) target → Steps p.tables e below (T.setTop (mkF m pc Ls st)) target)
    (k : Go l Z R B n0 Q h cl sl pc' Ls' st') : Go l Z R B n0 Q h cl sl pc Ls st := by
  intro p e s m args below meth c T locs X cx fr eT hn
  obtain ⟨s₂, o, h1, r⟩ := k _ _ _ _ _ _ _ _ _ _ X cx fr eT hn
  exact ⟨s₂, o, f X.here cx.1 cx.2.2.2.1 h1, r⟩
theorem Go.conseq {Q' : Option Value → Heap → Prop} (k : Go l Z R B n0 Q' h cl sl pc Ls st) (q : ∀ v h', Q' v h' → Q v h') : Go l Z R B n0 Q h cl sl pc Ls st := by
  intro p e s m args below meth c T locs X cx fr eT hn
  obtain ⟨s₂, o, h1, h2, h3, v, L, h4, h5, h6⟩ := k _ _ _ _ _ _ _ _ _ _ X cx fr eT hn
  exact ⟨s₂, o, h1, h2, h3, v, L, h4, ⟨q _ _ h5.1, h5.2⟩, h6⟩
/-! ### plain steps; each rule names the next pc first -/
theorem Go.aloadN (pc' : Nat) {i : Fin 4} {v : Value} (hd : decode B.2.1 pc = .ok (.aload_n i, 1)) (hp : pc + 1 = pc') (hl : Ls[i.val]? = some (.val v)) (hv : v.isRef = true) (k : Go l Z R B n0 Q h cl sl pc' Ls (v :: st)) : Go l Z R B n0 Q h cl sl pc Ls st := by
  subst hp; exact Go.lift (fun at_ hx hc q => XS.aloadN at_ hx rfl (hb hc hd) hl hv q) k
theorem Go.aload (pc' : Nat) {i : Nat} {v : Value} (hd : decode B.2.1 pc = .ok (.aload i, 2)) (hp : pc + 2 = pc') (hl : Ls[i]? = some (.val v)) (hv : v.isRef = true) (k : Go l Z R B n0 Q h cl sl pc' Ls (v :: st)) : Go l Z R B n0 Q h cl sl pc Ls st := by
  subst hp; exact Go.lift (fun at_ hx hc q => XS.aload at_ hx rfl (hb hc hd) hl hv q) k
theorem Go.iloadN (pc' : Nat) {i : Fin 4} {v : Int32} (hd : decode B.2.1 pc = .ok (.iload_n i, 1)) (hp : pc + 1 = pc') (hl : Ls[i.val]? = some (.val (.int v))) (k : Go l Z R B n0 Q h cl sl pc' Ls (.int v :: st)) : Go l Z R B n0 Q h cl sl pc Ls st := by
  subst hp; exact Go.lift (fun at_ hx hc q => XS.iloadN at_ hx rfl (hb hc hd) hl q) k
theorem Go.iload (pc' : Nat) {i : Nat} {v : Int32} (hd : decode B.2.1 pc = .ok (.iload i, 2)) (hp : pc + 2 = pc') (hl : Ls[i]? = some (.val (.int v))) (k : Go l Z R B n0 Q h cl sl pc' Ls (.int v :: st)) : Go l Z R B n0 Q h cl sl pc Ls st := by
  subst hp; exact Go.lift (fun at_ hx hc q => XS.iload at_ hx rfl (hb hc hd) hl q) k
theorem Go.lloadN (pc' : Nat) {i : Fin 4} {v : Int64} (hd : decode B.2.1 pc = .ok (.lload_n i, 1)) (hp : pc + 1 = pc') (hl : Ls[i.val]? = some (.val (.long v))) (k : Go l Z R B n0 Q h cl sl pc' Ls (.long v :: st)) : Go l Z R B n0 Q h cl sl pc Ls st := by
  subst hp; exact Go.lift (fun at_ hx hc q => XT.lloadN at_ hx rfl (hb hc hd) hl q) k
theorem Go.lload (pc' : Nat) {i : Nat} {v : Int64} (hd : decode B.2.1 pc = .ok (.lload i, 2)) (hp : pc + 2 = pc') (hl : Ls[i]? = some (.val (.long v))) (k : Go l Z R B n0 Q h cl sl pc' Ls (.long v :: st)) : Go l Z R B n0 Q h cl sl pc Ls st := by
  subst hp; exact Go.lift (fun at_ hx hc q => XT.lload at_ hx rfl (hb hc hd) hl q) k
theorem Go.dloadN (pc' : Nat) {i : Fin 4} {v : UInt64} (hd : decode B.2.1 pc = .ok (.dload_n i, 1)) (hp : pc + 1 = pc') (hl : Ls[i.val]? = some (.val (.double v))) (k : Go l Z R B n0 Q h cl sl pc' Ls (.double v :: st)) : Go l Z R B n0 Q h cl sl pc Ls st := by
  subst hp; exact Go.lift (fun at_ hx hc q => XS.dloadN at_ hx rfl (hb hc hd) hl q) k
theorem Go.dload (pc' : Nat) {i : Nat} {v : UInt64} (hd : decode B.2.1 pc = .ok (.dload i, 2)) (hp : pc + 2 = pc') (hl : Ls[i]? = some (.val (.double v))) (k : Go l Z R B n0 Q h cl sl pc' Ls (.double v :: st)) : Go l Z R B n0 Q h cl sl pc Ls st := by
  subst hp; exact Go.lift (fun at_ hx hc q => XS.dload at_ hx rfl (hb hc hd) hl q) k
theorem Go.istoreN (pc' : Nat) (Ls' : Array Slot) {i : Fin 4} {x : Int32} (hd : decode B.2.1 pc = .ok (.istore_n i, 1)) (hp : pc + 1 = pc') (hl : storeLocals Ls i.val (.int x) = some Ls') (k : Go l Z R B n0 Q h cl sl pc' Ls' st) : Go l Z R B n0 Q h cl sl pc Ls (.int x :: st) := by
  subst hp; exact Go.lift (fun at_ hx hc q => XS.istoreN at_ hx rfl (hb hc hd) rfl hl q) k
theorem Go.istore (pc' : Nat) (Ls' : Array Slot) {i : Nat} {x : Int32} (hd : decode B.2.1 pc = .ok (.istore i, 2)) (hp : pc + 2 = pc') (hl : storeLocals Ls i (.int x) = some Ls') (k : Go l Z R B n0 Q h cl sl pc' Ls' st) : Go l Z R B n0 Q h cl sl pc Ls (.int x :: st) := by
  subst hp; exact Go.lift (fun at_ hx hc q => XS.istore at_ hx rfl (hb hc hd) rfl hl q) k
theorem Go.lstoreN (pc' : Nat) (Ls' : Array Slot) {i : Fin 4} {x : Int64} (hd : decode B.2.1 pc = .ok (.lstore_n i, 1)) (hp : pc + 1 = pc') (hl : storeLocals Ls i.val (.long x) = some Ls') (k : Go l Z R B n0 Q h cl sl pc' Ls' st) : Go l Z R B n0 Q h cl sl pc Ls (.long x :: st) := by
  subst hp; exact Go.lift (fun at_ hx hc q => XT.lstoreN at_ hx rfl (hb hc hd) rfl hl q) k
theorem Go.lstore (pc' : Nat) (Ls' : Array Slot) {i : Nat} {x : Int64} (hd : decode B.2.1 pc = .ok (.lstore i, 2)) (hp : pc + 2 = pc') (hl : storeLocals Ls i (.long x) = some Ls') (k : Go l Z R B n0 Q h cl sl pc' Ls' st) : Go l Z R B n0 Q h cl sl pc Ls (.long x :: st) := by
  subst hp; exact Go.lift (fun at_ hx hc q => XT.lstore at_ hx rfl (hb hc hd) rfl hl q) k
theorem Go.dstoreN (pc' : Nat) (Ls' : Array Slot) {i : Fin 4} {x : UInt64} (hd : decode B.2.1 pc = .ok (.dstore_n i, 1)) (hp : pc + 1 = pc') (hl : storeLocals Ls i.val (.double x) = some Ls') (k : Go l Z R B n0 Q h cl sl pc' Ls' st) : Go l Z R B n0 Q h cl sl pc Ls (.double x :: st) := by
  subst hp; exact Go.lift (fun at_ hx hc q => XS.dstoreN at_ hx rfl (hb hc hd) rfl hl q) k
theorem Go.dstore (pc' : Nat) (Ls' : Array Slot) {i : Nat} {x : UInt64} (hd : decode B.2.1 pc = .ok (.dstore i, 2)) (hp : pc + 2 = pc') (hl : storeLocals Ls i (.double x) = some Ls') (k : Go l Z R B n0 Q h cl sl pc' Ls' st) : Go l Z R B n0 Q h cl sl pc Ls (.double x :: st) := by
  subst hp; exact Go.lift (fun at_ hx hc q => XS.dstore at_ hx rfl (hb hc hd) rfl hl q) k
theorem Go.astoreN (pc' : Nat) (Ls' : Array Slot) {i : Fin 4} {x : Value} (hd : decode B.2.1 pc = .ok (.astore_n i, 1)) (hp : pc + 1 = pc') (hv : x.isRef = true) (hl : storeLocals Ls i.val x = some Ls') (k : Go l Z R B n0 Q h cl sl pc' Ls' st) : Go l Z R B n0 Q h cl sl pc Ls (x :: st) := by
  subst hp; exact Go.lift (fun at_ hx hc q => XS.astoreN at_ hx rfl (hb hc hd) rfl hv hl q) k
theorem Go.astore (pc' : Nat) (Ls' : Array Slot) {i : Nat} {x : Value} (hd : decode B.2.1 pc = .ok (.astore i, 2)) (hp : pc + 2 = pc') (hv : x.isRef = true) (hl : storeLocals Ls i x = some Ls') (k : Go l Z R B n0 Q h cl sl pc' Ls' st) : Go l Z R B n0 Q h cl sl pc Ls (x :: st) := by
  subst hp; exact Go.lift (fun at_ hx hc q => XS.astore at_ hx rfl (hb hc hd) rfl hv hl q) k
theorem Go.iinc (pc' : Nat) (Ls' : Array Slot) (v : Int32) {i : Nat} {cst : Int} {x : Int32} (hd : decode B.2.1 pc = .ok (.iinc i cst, 3)) (hp : pc + 3 = pc') (hl : Ls[i]? = some (.val (.int x))) (hv : x + Int32.ofInt cst = v) (hl' : storeLocals Ls i (.int v) = some Ls') (k : Go l Z R B n0 Q h cl sl pc' Ls' st) : Go l Z R B n0 Q h cl sl pc Ls st := by
  subst hp; subst hv; exact Go.lift (fun at_ hx hc q => XS.iinc at_ hx rfl (hb hc hd) hl hl' q) k
theorem Go.iconst (pc' : Nat) (v : Int32) {i : Int} (hd : decode B.2.1 pc = .ok (.iconst i, 1)) (hp : pc + 1 = pc') (hv : Int32.ofInt i = v) (k : Go l Z R B n0 Q h cl sl pc' Ls (.int v :: st)) : Go l Z R B n0 Q h cl sl pc Ls st := by
  subst hp; exact Go.lift (fun at_ hx hc q => XT.iconstV at_ hx rfl v (hb hc hd) hv q) k
theorem Go.bipush (pc' : Nat) (v : Int32) {i : Int} (hd : decode B.2.1 pc = .ok (.bipush i, 2)) (hp : pc + 2 = pc') (hv : (Int8.ofInt i).toInt32 = v) (k : Go l Z R B n0 Q h cl sl pc' Ls (.int v :: st)) : Go l Z R B n0 Q h cl sl pc Ls st := by
  subst hp; exact Go.lift (fun at_ hx hc q => XT.bipushV at_ hx rfl v (hb hc hd) hv q) k
theorem Go.sipush (pc' : Nat) (v : Int32) {i : Int} (hd : decode B.2.1 pc = .ok (.sipush i, 3)) (hp : pc + 3 = pc') (hv : (Int16.ofInt i).toInt32 = v) (k : Go l Z R B n0 Q h cl sl pc' Ls (.int v :: st)) : Go l Z R B n0 Q h cl sl pc Ls st := by
  subst hp; exact Go.lift (fun at_ hx hc q => XT.sipushV at_ hx rfl v (hb hc hd) hv q) k
theorem Go.lconst (pc' : Nat) (v : Int64) {i : Fin 2} (hd : decode B.2.1 pc = .ok (.lconst i, 1)) (hp : pc + 1 = pc') (hv : Int64.ofNat i = v) (k : Go l Z R B n0 Q h cl sl pc' Ls (.long v :: st)) : Go l Z R B n0 Q h cl sl pc Ls st := by
  subst hp; exact Go.lift (fun at_ hx hc q => XT.lconstV at_ hx rfl v (hb hc hd) hv q) k
theorem Go.dconst0 (pc' : Nat) (v : UInt64) (hd : decode B.2.1 pc = .ok (.dconst 0, 1)) (hp : pc + 1 = pc') (hv : FP.dconst0 = v) (k : Go l Z R B n0 Q h cl sl pc' Ls (.double v :: st)) : Go l Z R B n0 Q h cl sl pc Ls st := by
  subst hp; exact Go.lift (fun at_ hx hc q => XS.dconst0 at_ hx rfl (hb hc hd) hv q) k
theorem Go.dconst1 (pc' : Nat) (v : UInt64) (hd : decode B.2.1 pc = .ok (.dconst 1, 1)) (hp : pc + 1 = pc') (hv : FP.dconst1 = v) (k : Go l Z R B n0 Q h cl sl pc' Ls (.double v :: st)) : Go l Z R B n0 Q h cl sl pc Ls st := by
  subst hp; exact Go.lift (fun at_ hx hc q => XS.dconst1 at_ hx rfl (hb hc hd) hv q) k
theorem Go.aconstNull (pc' : Nat) (hd : decode B.2.1 pc = .ok (.aconst_null, 1)) (hp : pc + 1 = pc') (k : Go l Z R B n0 Q h cl sl pc' Ls (.null :: st)) : Go l Z R B n0 Q h cl sl pc Ls st := by
  subst hp; exact Go.lift (fun at_ hx hc q => XS.aconstNull at_ hx rfl (hb hc hd) q) k
/-! arithmetic; the value is named: v, by an equation -/
theorem Go.iadd (pc' : Nat) (v : Int32) {x y : Int32} (hd : decode B.2.1 pc = .ok (.iadd, 1)) (hp : pc + 1 = pc') (hv : x + y = v) (k : Go l Z R B n0 Q h cl sl pc' Ls (.int v :: st)) : Go l Z R B n0 Q h cl sl pc Ls (.int y :: .int x :: st) := by
  subst hp; subst hv; exact Go.lift (fun at_ hx hc q => XS.iadd at_ hx rfl (hb hc hd) rfl q) k
theorem Go.isub (pc' : Nat) (v : Int32) {x y : Int32} (hd : decode B.2.1 pc = .ok (.isub, 1)) (hp : pc + 1 = pc') (hv : x - y = v) (k : Go l Z R B n0 Q h cl sl pc' Ls (.int v :: st)) : Go l Z R B n0 Q h cl sl pc Ls (.int y :: .int x :: st) := by
  subst hp; subst hv; exact Go.lift (fun at_ hx hc q => XS.isub at_ hx rfl (hb hc hd) rfl q) k
theorem Go.imul (pc' : Nat) (v : Int32) {x y : Int32} (hd : decode B.2.1 pc = .ok (.imul, 1)) (hp : pc + 1 = pc') (hv : x * y = v) (k : Go l Z R B n0 Q h cl sl pc' Ls (.int v :: st)) : Go l Z R B n0 Q h cl sl pc Ls (.int y :: .int x :: st) := by
  subst hp; subst hv; exact Go.lift (fun at_ hx hc q => XS.imul at_ hx rfl (hb hc hd) rfl q) k
theorem Go.idiv (pc' : Nat) (v : Int32) {x y : Int32} (hd : decode B.2.1 pc = .ok (.idiv, 1)) (hp : pc + 1 = pc') (hy : y ≠ 0) (hv : x / y = v) (k : Go l Z R B n0 Q h cl sl pc' Ls (.int v :: st)) : Go l Z R B n0 Q h cl sl pc Ls (.int y :: .int x :: st) := by
  subst hp; subst hv; exact Go.lift (fun at_ hx hc q => XS.idiv at_ hx rfl (hb hc hd) rfl hy q) k
theorem Go.irem (pc' : Nat) (v : Int32) {x y : Int32} (hd : decode B.2.1 pc = .ok (.irem, 1)) (hp : pc + 1 = pc') (hy : y ≠ 0) (hv : x % y = v) (k : Go l Z R B n0 Q h cl sl pc' Ls (.int v :: st)) : Go l Z R B n0 Q h cl sl pc Ls (.int y :: .int x :: st) := by
  subst hp; subst hv
  have q0 : x - x / y * y = x % y := irem_eq_mod x y
  have k' : Go l Z R B n0 Q h cl sl (pc + 1) Ls (.int (x - x / y * y) :: st) := by rw [q0]; exact k
  intro p e s m args below meth c T locs X cx fr eT hn
  obtain ⟨s₂, o, h1, r⟩ := k' _ _ _ _ _ _ _ _ _ _ X cx fr eT hn
  exact ⟨s₂, o, XS.irem X.here cx.1 (g := mkF m pc Ls (.int y :: .int x :: st)) rfl (hb cx.2.2.2.1 hd) rfl hy h1, r⟩
theorem Go.iand (pc' : Nat) (v : Int32) {x y : Int32} (hd : decode B.2.1 pc = .ok (.iand, 1)) (hp : pc + 1 = pc') (hv : x &&& y = v) (k : Go l Z R B n0 Q h cl sl pc' Ls (.int v :: st)) : Go l Z R B n0 Q h cl sl pc Ls (.int y :: .int x :: st) := by
  subst hp; subst hv; exact Go.lift (fun at_ hx hc q => XS.iand at_ hx rfl (hb hc hd) rfl q) k
theorem Go.ixor (pc' : Nat) (v : Int32) {x y : Int32} (hd : decode B.2.1 pc = .ok (.ixor, 1)) (hp : pc + 1 = pc') (hv : x ^^^ y = v) (k : Go l Z R B n0 Q h cl sl pc' Ls (.int v :: st)) : Go l Z R B n0 Q h cl sl pc Ls (.int y :: .int x :: st) := by
  subst hp; subst hv; exact Go.lift (fun at_ hx hc q => XT.ixor at_ hx rfl (hb hc hd) rfl q) k
theorem Go.ishl (pc' : Nat) (v : Int32) {x y : Int32} (hd : decode B.2.1 pc = .ok (.ishl, 1)) (hp : pc + 1 = pc') (hv : x <<< (y &&& 31) = v) (k : Go l Z R B n0 Q h cl sl pc' Ls (.int v :: st)) : Go l Z R B n0 Q h cl sl pc Ls (.int y :: .int x :: st) := by
  subst hp; subst hv; exact Go.lift (fun at_ hx hc q => XT.ishl at_ hx rfl (hb hc hd) rfl q) k
theorem Go.iushr (pc' : Nat) (v : Int32) {x y : Int32} (hd : decode B.2.1 pc = .ok (.iushr, 1)) (hp : pc + 1 = pc') (hv : XT.ushr x y = v) (k : Go l Z R B n0 Q h cl sl pc' Ls (.int v :: st)) : Go l Z R B n0 Q h cl sl pc Ls (.int y :: .int x :: st) := by
  subst hp; subst hv; exact Go.lift (fun at_ hx hc q => XT.iushr at_ hx rfl (hb hc hd) rfl q) k
theorem Go.ineg (pc' : Nat) (v : Int32) {x : Int32} (hd : decode B.2.1 pc = .ok (.ineg, 1)) (hp : pc + 1 = pc') (hv : -x = v) (k : Go l Z R B n0 Q h cl sl pc' Ls (.int v :: st)) : Go l Z R B n0 Q h cl sl pc Ls (.int x :: st) := by
  subst hp; subst hv; exact Go.lift (fun at_ hx hc q => XS.ineg at_ hx rfl (hb hc hd) rfl q) k
theorem Go.ladd (pc' : Nat) (v : Int64) {x y : Int64} (hd : decode B.2.1 pc = .ok (.ladd, 1)) (hp : pc + 1 = pc') (hv : x + y = v) (k : Go l Z R B n0 Q h cl sl pc' Ls (.long v :: st)) : Go l Z R B n0 Q h cl sl pc Ls (.long y :: .long x :: st) := by
  subst hp; subst hv; exact Go.lift (fun at_ hx hc q => XT.ladd at_ hx rfl (hb hc hd) rfl q) k
theorem Go.lsub (pc' : Nat) (v : Int64) {x y : Int64} (hd : decode B.2.1 pc = .ok (.lsub, 1)) (hp : pc + 1 = pc') (hv : x - y = v) (k : Go l Z R B n0 Q h cl sl pc' Ls (.long v :: st)) : Go l Z R B n0 Q h cl sl pc Ls (.long y :: .long x :: st) := by
  subst hp; subst hv; exact Go.lift (fun at_ hx hc q => XT.lsub at_ hx rfl (hb hc hd) rfl q) k
theorem Go.lmul (pc' : Nat) (v : Int64) {x y : Int64} (hd : decode B.2.1 pc = .ok (.lmul, 1)) (hp : pc + 1 = pc') (hv : x * y = v) (k : Go l Z R B n0 Q h cl sl pc' Ls (.long v :: st)) : Go l Z R B n0 Q h cl sl pc Ls (.long y :: .long x :: st) := by
  subst hp; subst hv; exact Go.lift (fun at_ hx hc q => XT.lmul at_ hx rfl (hb hc hd) rfl q) k
theorem Go.land (pc' : Nat) (v : Int64) {x y : Int64} (hd : decode B.2.1 pc = .ok (.land, 1)) (hp : pc + 1 = pc') (hv : x &&& y = v) (k : Go l Z R B n0 Q h cl sl pc' Ls (.long v :: st)) : Go l Z R B n0 Q h cl sl pc Ls (.long y :: .long x :: st) := by
  subst hp; subst hv; exact Go.lift (fun at_ hx hc q => XT.land at_ hx rfl (hb hc hd) rfl q) k
theorem Go.lshl (pc' : Nat) (v : Int64) {x : Int64} {y : Int32} (hd : decode B.2.1 pc = .ok (.lshl, 1)) (hp : pc + 1 = pc') (hv : x <<< (y.toInt64 &&& 63) = v) (k : Go l Z R B n0 Q h cl sl pc' Ls (.long v :: st)) : Go l Z R B n0 Q h cl sl pc Ls (.int y :: .long x :: st) := by
  subst hp; subst hv; exact Go.lift (fun at_ hx hc q => XT.lshl at_ hx rfl (hb hc hd) rfl q) k
theorem Go.lshr (pc' : Nat) (v : Int64) {x : Int64} {y : Int32} (hd : decode B.2.1 pc = .ok (.lshr, 1)) (hp : pc + 1 = pc') (hv : x >>> (y.toInt64 &&& 63) = v) (k : Go l Z R B n0 Q h cl sl pc' Ls (.long v :: st)) : Go l Z R B n0 Q h cl sl pc Ls (.int y :: .long x :: st) := by
  subst hp; subst hv; exact Go.lift (fun at_ hx hc q => XT.lshr at_ hx rfl (hb hc hd) rfl q) k
theorem Go.lushr (pc' : Nat) (v : Int64) {x : Int64} {y : Int32} (hd : decode B.2.1 pc = .ok (.lushr, 1)) (hp : pc + 1 = pc') (hv : XT.ushrL x y = v) (k : Go l Z R B n0 Q h cl sl pc' Ls (.long v :: st)) : Go l Z R B n0 Q h cl sl pc Ls (.int y :: .long x :: st) := by
  subst hp; subst hv; exact Go.lift (fun at_ hx hc q => XT.lushr at_ hx rfl (hb hc hd) rfl q) k
theorem Go.i2l (pc' : Nat) (v : Int64) {x : Int32} (hd : decode B.2.1 pc = .ok (.i2l, 1)) (hp : pc + 1 = pc') (hv : x.toInt64 = v) (k : Go l Z R B n0 Q h cl sl pc' Ls (.long v :: st)) : Go l Z R B n0 Q h cl sl pc Ls (.int x :: st) := by
  subst hp; subst hv; exact Go.lift (fun at_ hx hc q => XT.i2l at_ hx rfl (hb hc hd) rfl q) k
theorem Go.l2i (pc' : Nat) (v : Int32) {x : Int64} (hd : decode B.2.1 pc = .ok (.l2i, 1)) (hp : pc + 1 = pc') (hv : x.toInt32 = v) (k : Go l Z R B n0 Q h cl sl pc' Ls (.int v :: st)) : Go l Z R B n0 Q h cl sl pc Ls (.long x :: st) := by
  subst hp; subst hv; exact Go.lift (fun at_ hx hc q => XT.l2i at_ hx rfl (hb hc hd) rfl q) k
theorem Go.i2s (pc' : Nat) (v : Int32) {x : Int32} (hd : decode B.2.1 pc = .ok (.i2s, 1)) (hp : pc + 1 = pc') (hv : x.toInt16.toInt32 = v) (k : Go l Z R B n0 Q h cl sl pc' Ls (.int v :: st)) : Go l Z R B n0 Q h cl sl pc Ls (.int x :: st) := by
  subst hp; subst hv; exact Go.lift (fun at_ hx hc q => XT.i2s at_ hx rfl (hb hc hd) rfl q) k
theorem Go.i2d (pc' : Nat) (v : UInt64) {x : Int32} (hd : decode B.2.1 pc = .ok (.i2d, 1)) (hp : pc + 1 = pc') (hv : FP.i2d x = v) (k : Go l Z R B n0 Q h cl sl pc' Ls (.double v :: st)) : Go l Z R B n0 Q h cl sl pc Ls (.int x :: st) := by
  subst hp; exact Go.lift (fun at_ hx hc q => XS.i2dS at_ hx rfl (hb hc hd) rfl hv q) k
theorem Go.l2d (pc' : Nat) (v : UInt64) {x : Int64} (hd : decode B.2.1 pc = .ok (.l2d, 1)) (hp : pc + 1 = pc') (hv : FP.l2d x = v) (k : Go l Z R B n0 Q h cl sl pc' Ls (.double v :: st)) : Go l Z R B n0 Q h cl sl pc Ls (.long x :: st) := by
  subst hp; exact Go.lift (fun at_ hx hc q => XS.l2dS at_ hx rfl (hb hc hd) rfl hv q) k
theorem Go.d2l (pc' : Nat) (v : Int64) {x : UInt64} (hd : decode B.2.1 pc = .ok (.d2l, 1)) (hp : pc + 1 = pc') (hv : FP.d2l x = v) (k : Go l Z R B n0 Q h cl sl pc' Ls (.long v :: st)) : Go l Z R B n0 Q h cl sl pc Ls (.double x :: st) := by
  subst hp; exact Go.lift (fun at_ hx hc q => XS.d2lS at_ hx rfl (hb hc hd) rfl hv q) k
theorem Go.dadd (pc' : Nat) (v : UInt64) {x y : UInt64} (hd : decode B.2.1 pc = .ok (.dadd, 1)) (hp : pc + 1 = pc') (hv : FP.dadd x y = v) (hn : Jvm.Free.Fl.NoNaN64 v) (k : Go l Z R B n0 Q h cl sl pc' Ls (.double v :: st)) : Go l Z R B n0 Q h cl sl pc Ls (.double y :: .double x :: st) := by
  subst hp; exact Go.lift (fun at_ hx hc q => XS.daddS at_ hx rfl (hb hc hd) rfl (hv ▸ hn) hv q) k
theorem Go.dsub (pc' : Nat) (v : UInt64) {x y : UInt64} (hd : decode B.2.1 pc = .ok (.dsub, 1)) (hp : pc + 1 = pc') (hv : FP.dsub x y = v) (hn : Jvm.Free.Fl.NoNaN64 v) (k : Go l Z R B n0 Q h cl sl pc' Ls (.double v :: st)) : Go l Z R B n0 Q h cl sl pc Ls (.double y :: .double x :: st) := by
  subst hp; exact Go.lift (fun at_ hx hc q => XS.dsubS at_ hx rfl (hb hc hd) rfl (hv ▸ hn) hv q) k
theorem Go.dmul (pc' : Nat) (v : UInt64) {x y : UInt64} (hd : decode B.2.1 pc = .ok (.dmul, 1)) (hp : pc + 1 = pc') (hv : FP.dmul x y = v) (hn : Jvm.Free.Fl.NoNaN64 v) (k : Go l Z R B n0 Q h cl sl pc' Ls (.double v :: st)) : Go l Z R B n0 Q h cl sl pc Ls (.double y :: .double x :: st) := by
  subst hp; exact Go.lift (fun at_ hx hc q => XS.dmulS at_ hx rfl (hb hc hd) rfl (hv ▸ hn) hv q) k
theorem Go.ddiv (pc' : Nat) (v : UInt64) {x y : UInt64} (hd : decode B.2.1 pc = .ok (.ddiv, 1)) (hp : pc + 1 = pc') (hv : FP.ddiv x y = v) (hn : Jvm.Free.Fl.NoNaN64 v) (k : Go l Z R B n0 Q h cl sl pc' Ls (.double v :: st)) : Go l Z R B n0 Q h cl sl pc Ls (.double y :: .double x :: st) := by
  subst hp; exact Go.lift (fun at_ hx hc q => XS.ddivS at_ hx rfl (hb hc hd) rfl (hv ▸ hn) hv q) k
theorem Go.dcmp (pc' : Nat) (v : Int32) {o : CmpOp} {x y : UInt64} (hd : decode B.2.1 pc = .ok (.dcmp o, 1)) (hp : pc + 1 = pc') (hv : cmpValue (FP.dcmp x y) o = v) (k : Go l Z R B n0 Q h cl sl pc' Ls (.int v :: st)) : Go l Z R B n0 Q h cl sl pc Ls (.double y :: .double x :: st) := by
  subst hp; exact Go.lift (fun at_ hx hc q => XS.dcmpS at_ hx rfl (hb hc hd) rfl hv q) k
theorem Go.lcmp (pc' : Nat) (v : Int32) {x y : Int64} (hd : decode B.2.1 pc = .ok (.lcmp, 1)) (hp : pc + 1 = pc') (hv : XT.cmpL x y = v) (k : Go l Z R B n0 Q h cl sl pc' Ls (.int v :: st)) : Go l Z R B n0 Q h cl sl pc Ls (.long y :: .long x :: st) := by
  subst hp; subst hv; exact Go.lift (fun at_ hx hc q => XT.lcmp at_ hx rfl (hb hc hd) rfl q) k
theorem Go.dup (pc' : Nat) {x : Value} (hd : decode B.2.1 pc = .ok (.dup, 1)) (hp : pc + 1 = pc') (hc1 : x.category = 1) (k : Go l Z R B n0 Q h cl sl pc' Ls (x :: x :: st)) : Go l Z R B n0 Q h cl sl pc Ls (x :: st) := by
  subst hp; exact Go.lift (fun at_ hx hc q => XS.dup at_ hx rfl (hb hc hd) rfl hc1 q) k
theorem Go.pop (pc' : Nat) {x : Value} (hd : decode B.2.1 pc = .ok (.pop, 1)) (hp : pc + 1 = pc') (hc1 : x.category = 1) (k : Go l Z R B n0 Q h cl sl pc' Ls st) : Go l Z R B n0 Q h cl sl pc Ls (x :: st) := by
  subst hp; exact Go.lift (fun at_ hx hc q => XT.pop at_ hx rfl (hb hc hd) rfl hc1 q) k
theorem Go.dupX1 (pc' : Nat) {x y : Value} (hd : decode B.2.1 pc = .ok (.dup_x1, 1)) (hp : pc + 1 = pc') (hc1 : x.category = 1) (hc2 : y.category = 1) (k : Go l Z R B n0 Q h cl sl pc' Ls (x :: y :: x :: st)) : Go l Z R B n0 Q h cl sl pc Ls (x :: y :: st) := by
  subst hp; exact Go.lift (fun at_ hx hc q => XT.dupX1 at_ hx rfl (hb hc hd) rfl hc1 hc2 q) k
theorem Go.dup2 (pc' : Nat) {x y : Value} (hd : decode B.2.1 pc = .ok (.dup2, 1)) (hp : pc + 1 = pc') (hc1 : x.category = 1) (hc2 : y.category = 1) (k : Go l Z R B n0 Q h cl sl pc' Ls (x :: y :: x :: y :: st)) : Go l Z R B n0 Q h cl sl pc Ls (x :: y :: st) := by
  subst hp; exact Go.lift (fun at_ hx hc q => XT.dup2 at_ hx rfl (hb hc hd) rfl hc1 hc2 q) k
/-! jumps: both roads -/
theorem Go.goto (pc' : Nat) {o : Int} (hd : decode B.2.1 pc = .ok (.goto o, 3)) (ho : 0 ≤ (pc : Int) + o) (hp : ((pc : Int) + o).toNat = pc') (k : Go l Z R B n0 Q h cl sl pc' Ls st) : Go l Z R B n0 Q h cl sl pc Ls st :=
  Go.lift (fun at_ hx hc q => XS.goto at_ hx rfl (pc0 := pc) (pc' := pc') rfl (hb hc hd) ho hp q) k
theorem Go.ifC (pc' pc'' : Nat) {cd : ClassFile.Cond} {x : Int32} {o : Int} (hd : decode B.2.1 pc = .ok (.ifCond cd o, 3)) (ho : 0 ≤ (pc : Int) + o) (hp : ((pc : Int) + o).toNat = pc') (hp2 : pc + 3 = pc'')
    (k1 : ifCond.holds cd x = true → Go l Z R B n0 Q h cl sl pc' Ls st) (k2 : ifCond.holds cd x = false → Go l Z R B n0 Q h cl sl pc'' Ls st) : Go l Z R B n0 Q h cl sl pc Ls (.int x :: st) := by
  subst hp2
  cases hh : ifCond.holds cd x with
  | true => exact Go.lift (fun at_ hx hc q => XS.ifYes at_ hx rfl (pc0 := pc) (pc' := pc') rfl (hb hc hd) rfl hh ho hp q) (k1 hh)
  | false => exact Go.lift (fun at_ hx hc q => XS.ifNo at_ hx rfl (hb hc hd) rfl hh q) (k2 hh)
theorem Go.icmp (pc' pc'' : Nat) {cd : ClassFile.Cond} {x y : Int32} {o : Int} (hd : decode B.2.1 pc = .ok (.if_icmp cd o, 3)) (ho : 0 ≤ (pc : Int) + o) (hp : ((pc : Int) + o).toNat = pc') (hp2 : pc + 3 = pc'')
    (k1 : if_icmp.holds cd x y = true → Go l Z R B n0 Q h cl sl pc' Ls st) (k2 : if_icmp.holds cd x y = false → Go l Z R B n0 Q h cl sl pc'' Ls st) : Go l Z R B n0 Q h cl sl pc Ls (.int y :: .int x :: st) := by
  subst hp2
  cases hh : if_icmp.holds cd x y with
  | true => exact Go.lift (fun at_ hx hc q => XS.icmpYes at_ hx rfl (pc0 := pc) (pc' := pc') rfl (hb hc hd) rfl hh ho hp q) (k1 hh)
  | false => exact Go.lift (fun at_ hx hc q => XS.icmpNo at_ hx rfl (hb hc hd) rfl hh q) (k2 hh)
theorem Go.acmp (pc' pc'' : Nat) {cd : ClassFile.ACond} {x y : Value} {o : Int} (hd : decode B.2.1 pc = .ok (.if_acmp cd o, 3)) (ho : 0 ≤ (pc : Int) + o) (hp : ((pc : Int) + o).toNat = pc') (hp2 : pc + 3 = pc'') (hx1 : x.isRef = true) (hy1 : y.isRef = true)
    (k1 : XT.acmp cd x y = true → Go l Z R B n0 Q h cl sl pc' Ls st) (k2 : XT.acmp cd x y = false → Go l Z R B n0 Q h cl sl pc'' Ls st) : Go l Z R B n0 Q h cl sl pc Ls (y :: x :: st) := by
  subst hp2
  cases hh : XT.acmp cd x y with
  | true => exact Go.lift (fun at_ hx hc q => XT.acmpYes at_ hx rfl (pc0 := pc) (pc' := pc') rfl (hb hc hd) rfl hx1 hy1 hh ho hp q) (k1 hh)
  | false => exact Go.lift (fun at_ hx hc q => XT.acmpNo at_ hx rfl (hb hc hd) rfl hx1 hy1 hh q) (k2 hh)
/-! branches, said of whole numbers -/
def cmpP (cd : ClassFile.Cond) (x y : Int) : Prop := match cd with
  | .eq => x = y | .ne => x ≠ y | .lt => x < y | .ge => y ≤ x | .gt => y < x | .le => x ≤ y
def cmpN (cd : ClassFile.Cond) (x y : Int) : Prop := match cd with
  | .eq => x ≠ y | .ne => x = y | .lt => y ≤ x | .ge => x < y | .gt => x ≤ y | .le => y < x
theorem holds_t (cd : ClassFile.Cond) (x y : Int32) : if_icmp.holds cd x y = true ↔ cmpP cd x.toInt y.toInt := by
  cases cd <;> simp [if_icmp.holds, cmpP, Int32.lt_iff_toInt_lt, Int32.le_iff_toInt_le, ← Int32.toInt_inj]
theorem holds_f (cd : ClassFile.Cond) (x y : Int32) : if_icmp.holds cd x y = false ↔ cmpN cd x.toInt y.toInt := by
  cases cd <;> simp [if_icmp.holds, cmpN, Int32.lt_iff_toInt_lt, Int32.le_iff_toInt_le, ← Int32.toInt_inj]
theorem holds0_t (cd : ClassFile.Cond) (x : Int32) : ifCond.holds cd x = true ↔ cmpP cd x.toInt 0 := by rw [if0, holds_t]; exact Iff.rfl
theorem holds0_f (cd : ClassFile.Cond) (x : Int32) : ifCond.holds cd x = false ↔ cmpN cd x.toInt 0 := by rw [if0, holds_f]; exact Iff.rfl
theorem Go.icmpB (pc' pc'' : Nat) {cd : ClassFile.Cond} {x y : Int32} {o : Int} (hd : decode B.2.1 pc = .ok (.if_icmp cd o, 3)) (ho : 0 ≤ (pc : Int) + o) (hp : ((pc : Int) + o).toNat = pc') (hp2 : pc + 3 = pc'')
    (k1 : cmpP cd x.toInt y.toInt → Go l Z R B n0 Q h cl sl pc' Ls st) (k2 : cmpN cd x.toInt y.toInt → Go l Z R B n0 Q h cl sl pc'' Ls st) : Go l Z R B n0 Q h cl sl pc Ls (.int y :: .int x :: st) :=
  Go.icmp pc' pc'' hd ho hp hp2 (fun q => k1 ((holds_t _ _ _).mp q)) (fun q => k2 ((holds_f _ _ _).mp q))
theorem Go.icmpT (pc' : Nat) {cd : ClassFile.Cond} {x y : Int32} {o : Int} (hd : decode B.2.1 pc = .ok (.if_icmp cd o, 3)) (ho : 0 ≤ (pc : Int) + o) (hp : ((pc : Int) + o).toNat = pc')
    (q : cmpP cd x.toInt y.toInt) (k1 : Go l Z R B n0 Q h cl sl pc' Ls st) : Go l Z R B n0 Q h cl sl pc Ls (.int y :: .int x :: st) :=
  Go.icmp pc' (pc + 3) hd ho hp rfl (fun _ => k1) (fun r => by rw [(holds_t _ _ _).mpr q] at r; cases r)
theorem Go.icmpF (pc'' : Nat) {cd : ClassFile.Cond} {x y : Int32} {o : Int} (hd : decode B.2.1 pc = .ok (.if_icmp cd o, 3)) (hp2 : pc + 3 = pc'')
    (q : cmpN cd x.toInt y.toInt) (k2 : Go l Z R B n0 Q h cl sl pc'' Ls st) : Go l Z R B n0 Q h cl sl pc Ls (.int y :: .int x :: st) := by
  subst hp2; exact Go.lift (fun at_ hx hc q0 => XS.icmpNo at_ hx rfl (hb hc hd) rfl ((holds_f _ _ _).mpr q) q0) k2
theorem Go.ifCB (pc' pc'' : Nat) {cd : ClassFile.Cond} {x : Int32} {o : Int} (hd : decode B.2.1 pc = .ok (.ifCond cd o, 3)) (ho : 0 ≤ (pc : Int) + o) (hp : ((pc : Int) + o).toNat = pc') (hp2 : pc + 3 = pc'')
    (k1 : cmpP cd x.toInt 0 → Go l Z R B n0 Q h cl sl pc' Ls st) (k2 : cmpN cd x.toInt 0 → Go l Z R B n0 Q h cl sl pc'' Ls st) : Go l Z R B n0 Q h cl sl pc Ls (.int x :: st) :=
  Go.ifC pc' pc'' hd ho hp hp2 (fun q => k1 ((holds0_t _ _).mp q)) (fun q => k2 ((holds0_f _ _).mp q))
theorem Go.ifCT (pc' : Nat) {cd : ClassFile.Cond} {x : Int32} {o : Int} (hd : decode B.2.1 pc = .ok (.ifCond cd o, 3)) (ho : 0 ≤ (pc : Int) + o) (hp : ((pc : Int) + o).toNat = pc')
    (q : cmpP cd x.toInt 0) (k1 : Go l Z R B n0 Q h cl sl pc' Ls st) : Go l Z R B n0 Q h cl sl pc Ls (.int x :: st) :=
  Go.ifC pc' (pc + 3) hd ho hp rfl (fun _ => k1) (fun r => by rw [(holds0_t _ _).mpr q] at r; cases r)
theorem Go.ifCF (pc'' : Nat) {cd : ClassFile.Cond} {x : Int32} {o : Int} (hd : decode B.2.1 pc = .ok (.ifCond cd o, 3)) (hp2 : pc + 3 = pc'')
    (q : cmpN cd x.toInt 0) (k2 : Go l Z R B n0 Q h cl sl pc'' Ls st) : Go l Z R B n0 Q h cl sl pc Ls (.int x :: st) := by
  subst hp2; exact Go.lift (fun at_ hx hc q0 => XS.ifNo at_ hx rfl (hb hc hd) rfl ((holds0_f _ _).mpr q) q0) k2
/-! ### constants of the pool -/
theorem Go.ldc2J (pc' : Nat) (v : Int64) {index : Nat} (w : (Cond.constantLong B.1.cls index v).before a0 Z = true) (hd : decode B.2.1 pc = .ok (.ldc2_w index, 3)) (hp : pc + 3 = pc') (k : Go l Z R B n0 Q h cl sl pc' Ls (.long v :: st)) : Go l Z R B n0 Q h cl sl pc Ls st := by
  subst hp
  intro p e s m args below meth c T locs X cx fr eT hn
  obtain ⟨s₂, o, h1, r⟩ := k _ _ _ _ _ _ _ _ _ _ X cx fr eT hn
  exact ⟨s₂, o, X.ldc2J cx.1 cx.2.2.1 (mv cx.2.1 w) rfl (hb cx.2.2.2.1 hd) h1, r⟩
theorem Go.ldc2D (pc' : Nat) (v : UInt64) {index : Nat} (w : (Cond.constantDouble B.1.cls index v).before a0 Z = true) (hd : decode B.2.1 pc = .ok (.ldc2_w index, 3)) (hp : pc + 3 = pc') (k : Go l Z R B n0 Q h cl sl pc' Ls (.double v :: st)) : Go l Z R B n0 Q h cl sl pc Ls st := by
  subst hp
  intro p e s m args below meth c T locs X cx fr eT hn
  obtain ⟨s₂, o, h1, r⟩ := k _ _ _ _ _ _ _ _ _ _ X cx fr eT hn
  exact ⟨s₂, o, X.ldc2DoubleC cx.1 cx.2.2.1 (mv cx.2.1 w) (g := mkF m pc Ls st) rfl (hb cx.2.2.2.1 hd) _ h1, r⟩
theorem Go.ldcI (pc' : Nat) (v : Int32) {index : Nat} (w : (Cond.constant B.1.cls index v).before a0 Z = true) (hd : decode B.2.1 pc = .ok (.ldc index, 2)) (hp : pc + 2 = pc') (k : Go l Z R B n0 Q h cl sl pc' Ls (.int v :: st)) : Go l Z R B n0 Q h cl sl pc Ls st := by
  subst hp
  intro p e s m args below meth c T locs X cx fr eT hn
  obtain ⟨s₂, o, h1, r⟩ := k _ _ _ _ _ _ _ _ _ _ X cx fr eT hn
  exact ⟨s₂, o, X.ldcI cx.1 cx.2.2.1 (mv cx.2.1 w) rfl (hb cx.2.2.2.1 hd) h1, r⟩
/-! ### fields -/
theorem Go.getF (pc' : Nat) {R0 O n d host : String} {index : Nat} {a : Nat} {v : Value} (w : (Cond.fieldLink B.1.cls index R0 n d).before a0 Z = true ∨ (Cond.fieldLinkNest B.1.cls index R0 n d host).before a0 Z = true) (via : Via Z R0 O n d) (F : Fld Z h a O n d v) (hd : decode B.2.1 pc = .ok (.getfield index, 3)) (hp : pc + 3 = pc')
    (k : Go l Z R B n0 Q h cl sl pc' Ls (v :: st)) : Go l Z R B n0 Q h cl sl pc Ls (.ref a :: st) := by
  subst hp
  intro p e s m args below meth c T locs X cx fr eT hn
  obtain ⟨T', X', e', stp⟩ := RoadKit.getF X cx.1 cx.2.1 cx.2.2.1 w via eT F (g := mkF m pc Ls (.ref a :: st)) rfl rfl (hb cx.2.2.2.1 hd)
  obtain ⟨s₂, o, h1, r⟩ := k _ _ _ _ _ _ _ _ _ _ X' cx fr e' hn
  exact ⟨s₂, o, stp _ h1, r⟩
/-- getfield of a field that the class itself declares, by its plain link word -/
theorem Go.getf (pc' : Nat) {O n d : String} {index : Nat} {a : Nat} {v : Value} (w : (Cond.fieldLink B.1.cls index O n d).before a0 Z = true) (F : Fld Z h a O n d v) (hd : decode B.2.1 pc = .ok (.getfield index, 3)) (hp : pc + 3 = pc')
    (k : Go l Z R B n0 Q h cl sl pc' Ls (v :: st)) : Go l Z R B n0 Q h cl sl pc Ls (.ref a :: st) := Go.getF pc' (host := "") (Or.inl w) Via.refl F hd hp k
theorem Go.putF (pc' : Nat) {O n d C : String} {index kk : Nat} {ty : FieldType} {a : Nat} {v old : Value} (w : (Cond.fieldLink B.1.cls index O n d).before a0 Z = true) (F : Fld Z h a O n d old) (E : Exa Z h a C)
    (L : (Cond.lays C O n d).before a0 Z = true ∨ ((Cond.laysFinal C O n d).before a0 Z = true ∧ B.1.cls = O ∧ B.1.name = "<init>")) (wi : (Cond.instantiable C kk).before a0 Z = true)
    (hty : parseFieldDescriptor d = some ty) (hn : narrow ty v = v) (hf : fits ty v = true) (ha : n0 ≤ a) (hd : decode B.2.1 pc = .ok (.putfield index, 3)) (hp : pc + 3 = pc')
    (k : ∀ h', Wr h h' a (Jvm.RoadKit.slotOf Z O n d) v → Go l Z R B n0 Q h' cl sl pc' Ls st) : Go l Z R B n0 Q h cl sl pc Ls (v :: .ref a :: st) := by
  subst hp
  intro p e s m args below meth c T locs X cx fr eT hn'
  obtain ⟨T', h', X', e', W, stp⟩ := RoadKit.putF X cx.1 cx.2.1 (host := "") cx.2.2.1 (Or.inl w) Via.refl eT F E (L.imp id fun q => ⟨q.1, q.2.1, cx.2.2.2.2.2.2.2.1.trans q.2.2⟩) wi hty hn hf (g := mkF m pc Ls (v :: .ref a :: st)) rfl rfl (hb cx.2.2.2.1 hd)
  obtain ⟨s₂, o, h1, r⟩ := k h' W _ _ _ _ _ _ _ _ _ _ X' cx (Fr.snoc X' fr ha) e' (by rw [W.size]; exact hn')
  exact ⟨s₂, o, stp _ h1, r⟩
/-! ### objects -/
theorem Go.new (pc' : Nat) {C : String} {index n : Nat} (w : (Cond.classLink B.1.cls index C).before a0 Z = true) (wi : (Cond.instantiable C n).before a0 Z = true) (wz : (Cond.initialized C).before a0 Z = true) (hd : decode B.2.1 pc = .ok (.new index, 3)) (hp : pc + 3 = pc') (hc : cl + 1 ≤ R.cells) (hl : sl + n ≤ R.slots)
    (k : ∀ h' a, Ext h h' → h.size ≤ a → a < h'.size → n0 ≤ a → Exa Z h' a C → (∀ {O nm d : String} {ty : FieldType}, Laid Z a0 C O nm d → parseFieldDescriptor d = some ty → Fld Z h' a O nm d (defaultValue ty)) → Go l Z R B n0 Q h' (cl + 1) (sl + n) pc' Ls (.ref a :: st)) : Go l Z R B n0 Q h cl sl pc Ls st := by
  subst hp
  intro p e s m args below meth c T locs X cx fr eT hn
  obtain ⟨T', h', X', e', E, A, D, -, stp⟩ := newO X cx.1 cx.2.1 cx.2.2.1 w wi wz eT (g := mkF m pc Ls st) rfl (hb cx.2.2.2.1 hd) hc hl
  obtain ⟨s₂, o, h1, r⟩ := k h' h.size E (Nat.le_refl _) A.lt hn A D _ _ _ _ _ _ _ _ _ _ X' cx fr e' (Nat.le_trans hn E.1)
  exact ⟨s₂, o, stp _ h1, r⟩
/-- Object.<init> -/
theorem Go.initO (pc' : Nat) {index : Nat} {a : Nat} (w1 : (Cond.methodLink B.1.cls index Lib.objectInit).before a0 Z = true) (w2 : (Cond.instanceMethod Lib.objectInit).before a0 Z = true) (w3 : (Cond.code Lib.objectInit ⟨#[0xb1]⟩ 1 none).before a0 Z = true)
    (hsz : Ls.size = B.2.2.1) (hd : decode B.2.1 pc = .ok (.invokespecial index, 3)) (hp : pc + 3 = pc') (hfr : 1 ≤ R.frames) (hlo : (st.map fun v => v.category).sum + 12 ≤ R.locals) (k : Go l Z R B n0 Q h cl sl pc' Ls st) : Go l Z R B n0 Q h cl sl pc Ls (.ref a :: st) := by
  subst hp
  intro p e s m args below meth c T locs X cx fr eT hn
  obtain ⟨T', X', e', stp⟩ := RoadKit.initO X cx.1 cx.2.1 cx.2.2.1 w1 w2 w3 eT (g := mkF m pc Ls (.ref a :: st)) rfl (hsz.trans cx.2.2.2.2.1.symm) rfl (hb cx.2.2.2.1 hd) hfr (W := (st.map fun v => v.category).sum) (by show 2 * 0 + _ ≤ _; omega) hlo
  obtain ⟨s₂, o, h1, r⟩ := k _ _ _ _ _ _ _ _ _ _ X' cx fr e' hn
  exact ⟨s₂, o, stp _ h1, r⟩
/-! ### arrays -/
/-- the array at a holds just these values -/
def ArV (Z : State) (h : Heap) (a : Nat) (ty : FieldType) (vs : List Value) : Prop := ∃ c : Cell, Arr Z h a c ty ∧ c.slots.toList = vs ∧ vs.length < 2147483648
abbrev ArD (Z : State) (h : Heap) (a : Nat) (ds : List UInt64) : Prop := ArV Z h a .double (ds.map Value.double)
abbrev ArI (Z : State) (h : Heap) (a : Nat) (ds : List Int32) : Prop := ArV Z h a .int (ds.map Value.int)
abbrev ArJ (Z : State) (h : Heap) (a : Nat) (ds : List Int64) : Prop := ArV Z h a .long (ds.map Value.long)
theorem ArV.lt {a : Nat} {ty : FieldType} {vs : List Value} (A : ArV Z h a ty vs) : a < h.size := by obtain ⟨c, A, -⟩ := A; exact A.lt
theorem ArV.len {a : Nat} {ty : FieldType} {vs : List Value} (A : ArV Z h a ty vs) : vs.length < 2147483648 := by obtain ⟨c, -, -, q⟩ := A; exact q
theorem ArV.ext {h' : Heap} {a : Nat} {ty : FieldType} {vs : List Value} (A : ArV Z h a ty vs) (E : Ext h h') : ArV Z h' a ty vs := by obtain ⟨c, A, q⟩ := A; exact ⟨c, A.ext E, q⟩
theorem ArV.other {h' : Heap} {a b : Nat} {sl : Nat} {v : Value} {ty : FieldType} {vs : List Value} (A : ArV Z h b ty vs) (W : Wr h h' a sl v) (q : b ≠ a) : ArV Z h' b ty vs := by obtain ⟨c, A, r⟩ := A; exact ⟨c, A.other W q, r⟩
theorem ArV.keep {h' : Heap} {a : Nat} {ws : List Nat} {ty : FieldType} {vs : List Value} (A : ArV Z h a ty vs) (K : Keep h h' ws) (q : a ∉ ws) : ArV Z h' a ty vs := by obtain ⟨c, A, r⟩ := A; exact ⟨c, ⟨K.2.1 a c A.1 q, A.2⟩, r⟩
theorem idx_ok {j : Int32} {i n : Nat} (hj : j.toInt = (i : Int)) (hi : i < n) : ¬ (j < 0 ∨ n ≤ j.toNatClampNeg) ∧ j.toNatClampNeg = i := by
  have h1 : j.toNatClampNeg = i := by simp only [Int32.toNatClampNeg]; omega
  refine ⟨fun q => ?_, h1⟩
  rcases q with q | q
  · simp only [Int32.lt_iff_toInt_lt, Int32.reduceToInt] at q; omega
  · omega
theorem ArV.get {a : Nat} {ty : FieldType} {vs : List Value} {j : Int32} {i : Nat} {v : Value} (A : ArV Z h a ty vs) (hj : j.toInt = (i : Int)) (hi : vs[i]? = some v) : ∃ c : Cell, Arr Z h a c ty ∧ ¬ (j < 0 ∨ c.slots.size ≤ j.toNatClampNeg) ∧ c.slots[j.toNatClampNeg]? = some v := by
  obtain ⟨c, A, e, -⟩ := A
  have hlt : i < c.slots.size := by
    have := (List.getElem?_eq_some_iff.mp hi).1
    rw [← e] at this; simpa using this
  obtain ⟨q1, q2⟩ := idx_ok hj hlt
  refine ⟨c, A, q1, ?_⟩
  rw [q2, ← hi, ← e, Array.getElem?_toList]
theorem ArV.upd {h' : Heap} {a : Nat} {ty : FieldType} {vs : List Value} {j : Int32} {i : Nat} {v : Value} (A : ArV Z h a ty vs) (hj : j.toInt = (i : Int)) (hi : i < vs.length) (W : Wr h h' a j.toNatClampNeg v) : ArV Z h' a ty (vs.set i v) := by
  obtain ⟨c, A, e, hlen⟩ := A
  have hlt : i < c.slots.size := by rw [← e] at hi; simpa using hi
  obtain ⟨q1, q2⟩ := idx_ok hj hlt
  refine ⟨_, A.same W, ?_, by simpa using hlen⟩
  rw [q2, ← e]
  simp [Cell.setSlot, Array.toList_setIfInBounds]
theorem Wr.keep1 {h' : Heap} {a : Nat} {sl : Nat} {v : Value} (W : Wr h h' a sl v) : Keep h h' [a] := Keep.of_wr W
theorem Go.daload (pc' : Nat) {a : Nat} {ds : List UInt64} {j : Int32} {i : Nat} {x : UInt64} (A : ArD Z h a ds) (hj : j.toInt = (i : Int)) (hi : ds[i]? = some x) (hd : decode B.2.1 pc = .ok (.daload, 1)) (hp : pc + 1 = pc')
    (k : Go l Z R B n0 Q h cl sl pc' Ls (.double x :: st)) : Go l Z R B n0 Q h cl sl pc Ls (.int j :: .ref a :: st) := by
  subst hp
  intro p e s m args below meth c T locs X cx fr eT hn
  obtain ⟨s₂, o, h1, r⟩ := k _ _ _ _ _ _ _ _ _ _ X cx fr eT hn
  obtain ⟨c0, A0, q1, q2⟩ := A.get hj (v := .double x) (by rw [List.getElem?_map, hi]; rfl)
  exact ⟨s₂, o, X.daload cx.1 (by rw [eT]; exact A0.1) (State.isArrayOf_alike cx.2.1.alike A0.2.1) A0.2.2 q1 q2 (g := mkF m pc Ls (.int j :: .ref a :: st)) rfl rfl (hb cx.2.2.2.1 hd) _ h1, r⟩
theorem Go.iaload (pc' : Nat) {a : Nat} {ds : List Int32} {j : Int32} {i : Nat} {x : Int32} (A : ArI Z h a ds) (hj : j.toInt = (i : Int)) (hi : ds[i]? = some x) (hd : decode B.2.1 pc = .ok (.iaload, 1)) (hp : pc + 1 = pc')
    (k : Go l Z R B n0 Q h cl sl pc' Ls (.int x :: st)) : Go l Z R B n0 Q h cl sl pc Ls (.int j :: .ref a :: st) := by
  subst hp
  intro p e s m args below meth c T locs X cx fr eT hn
  obtain ⟨s₂, o, h1, r⟩ := k _ _ _ _ _ _ _ _ _ _ X cx fr eT hn
  obtain ⟨c0, A0, q1, q2⟩ := A.get hj (v := .int x) (by rw [List.getElem?_map, hi]; rfl)
  exact ⟨s₂, o, X.iaload cx.1 (by rw [eT]; exact A0.1) (State.isArrayOf_alike cx.2.1.alike A0.2.1) A0.2.2 q1 q2 (g := mkF m pc Ls (.int j :: .ref a :: st)) rfl rfl (hb cx.2.2.2.1 hd) _ h1, r⟩
theorem Go.laload (pc' : Nat) {a : Nat} {ds : List Int64} {j : Int32} {i : Nat} {x : Int64} (A : ArJ Z h a ds) (hj : j.toInt = (i : Int)) (hi : ds[i]? = some x) (hd : decode B.2.1 pc = .ok (.laload, 1)) (hp : pc + 1 = pc')
    (k : Go l Z R B n0 Q h cl sl pc' Ls (.long x :: st)) : Go l Z R B n0 Q h cl sl pc Ls (.int j :: .ref a :: st) := by
  subst hp
  intro p e s m args below meth c T locs X cx fr eT hn
  obtain ⟨s₂, o, h1, r⟩ := k _ _ _ _ _ _ _ _ _ _ X cx fr eT hn
  obtain ⟨c0, A0, q1, q2⟩ := A.get hj (v := .long x) (by rw [List.getElem?_map, hi]; rfl)
  exact ⟨s₂, o, X.laload cx.1 (by rw [eT]; exact A0.1) (State.isArrayOf_alike cx.2.1.alike A0.2.1) A0.2.2 q1 q2 (g := mkF m pc Ls (.int j :: .ref a :: st)) rfl rfl (hb cx.2.2.2.1 hd) _ h1, r⟩
theorem Go.alen (pc' : Nat) (v : Int32) {a : Nat} {ty : FieldType} {vs : List Value} (A : ArV Z h a ty vs) (hv : v.toInt = (vs.length : Int)) (hd : decode B.2.1 pc = .ok (.arraylength, 1)) (hp : pc + 1 = pc')
    (k : Go l Z R B n0 Q h cl sl pc' Ls (.int v :: st)) : Go l Z R B n0 Q h cl sl pc Ls (.ref a :: st) := by
  subst hp
  intro p e s m args below meth c T locs X cx fr eT hn
  obtain ⟨s₂, o, h1, r⟩ := k _ _ _ _ _ _ _ _ _ _ X cx fr eT hn
  obtain ⟨c0, A0, q1, q2⟩ := A
  have hsz : c0.slots.size = vs.length := by rw [← q1]; simp
  have hv' : c0.slots.size.toInt32 = v := by
    apply Int32.toInt_inj.mp
    rw [len_toInt (by omega), hv, hsz]
  exact ⟨s₂, o, X.arraylength cx.1 (by rw [eT]; exact A0.1) (State.isArrayOf_alike cx.2.1.alike A0.2.1) (g := mkF m pc Ls (.ref a :: st)) rfl rfl (hb cx.2.2.2.1 hd) _ (by rw [hv']; exact h1), r⟩
theorem Go.dastore (pc' : Nat) {a : Nat} {ds : List UInt64} {j : Int32} {i : Nat} {x : UInt64} (A : ArD Z h a ds) (hj : j.toInt = (i : Int)) (hi : i < ds.length) (ha : n0 ≤ a) (hd : decode B.2.1 pc = .ok (.dastore, 1)) (hp : pc + 1 = pc')
    (k : ∀ h', Keep h h' [a] → ArD Z h' a (ds.set i x) → Go l Z R B n0 Q h' cl sl pc' Ls st) : Go l Z R B n0 Q h cl sl pc Ls (.double x :: .int j :: .ref a :: st) := by
  subst hp
  intro p e s m args below meth c T locs X cx fr eT hn
  obtain ⟨c0, A0, q0, q⟩ := id A
  have hlt : i < c0.slots.size := by have : i < (c0.slots.toList).length := by rw [q0]; simpa using hi
                                     simpa using this
  obtain ⟨T', h', X', e', W, stp⟩ := stD X cx.1 cx.2.1 eT A0 (idx_ok hj hlt).1 (g := mkF m pc Ls (.double x :: .int j :: .ref a :: st)) rfl rfl (hb cx.2.2.2.1 hd)
  have A' := A.upd hj (by simpa using hi) W
  rw [← List.map_set] at A'
  obtain ⟨s₂, o, h1, r⟩ := k h' (Keep.of_wr W) A' _ _ _ _ _ _ _ _ _ _ X' cx (Fr.snoc X' fr ha) e' (by rw [W.size]; exact hn)
  exact ⟨s₂, o, stp _ h1, r⟩
theorem Go.iastore (pc' : Nat) {a : Nat} {ds : List Int32} {j : Int32} {i : Nat} {x : Int32} (A : ArI Z h a ds) (hj : j.toInt = (i : Int)) (hi : i < ds.length) (ha : n0 ≤ a) (hd : decode B.2.1 pc = .ok (.iastore, 1)) (hp : pc + 1 = pc')
    (k : ∀ h', Keep h h' [a] → ArI Z h' a (ds.set i x) → Go l Z R B n0 Q h' cl sl pc' Ls st) : Go l Z R B n0 Q h cl sl pc Ls (.int x :: .int j :: .ref a :: st) := by
  subst hp
  intro p e s m args below meth c T locs X cx fr eT hn
  obtain ⟨c0, A0, q0, q⟩ := id A
  have hlt : i < c0.slots.size := by have : i < (c0.slots.toList).length := by rw [q0]; simpa using hi
                                     simpa using this
  obtain ⟨T', h', X', e', W, stp⟩ := stI X cx.1 cx.2.1 eT A0 (idx_ok hj hlt).1 (g := mkF m pc Ls (.int x :: .int j :: .ref a :: st)) rfl rfl (hb cx.2.2.2.1 hd)
  have A' := A.upd hj (by simpa using hi) W
  rw [← List.map_set] at A'
  obtain ⟨s₂, o, h1, r⟩ := k h' (Keep.of_wr W) A' _ _ _ _ _ _ _ _ _ _ X' cx (Fr.snoc X' fr ha) e' (by rw [W.size]; exact hn)
  exact ⟨s₂, o, stp _ h1, r⟩
theorem Go.lastore (pc' : Nat) {a : Nat} {ds : List Int64} {j : Int32} {i : Nat} {x : Int64} (A : ArJ Z h a ds) (hj : j.toInt = (i : Int)) (hi : i < ds.length) (ha : n0 ≤ a) (hd : decode B.2.1 pc = .ok (.lastore, 1)) (hp : pc + 1 = pc')
    (k : ∀ h', Keep h h' [a] → ArJ Z h' a (ds.set i x) → Go l Z R B n0 Q h' cl sl pc' Ls st) : Go l Z R B n0 Q h cl sl pc Ls (.long x :: .int j :: .ref a :: st) := by
  subst hp
  intro p e s m args below meth c T locs X cx fr eT hn
  obtain ⟨c0, A0, q0, q⟩ := id A
  have hlt : i < c0.slots.size := by have : i < (c0.slots.toList).length := by rw [q0]; simpa using hi
                                     simpa using this
  obtain ⟨T', h', X', e', W, stp⟩ := stJ X cx.1 cx.2.1 eT A0 (idx_ok hj hlt).1 (g := mkF m pc Ls (.long x :: .int j :: .ref a :: st)) rfl rfl (hb cx.2.2.2.1 hd)
  have A' := A.upd hj (by simpa using hi) W
  rw [← List.map_set] at A'
  obtain ⟨s₂, o, h1, r⟩ := k h' (Keep.of_wr W) A' _ _ _ _ _ _ _ _ _ _ X' cx (Fr.snoc X' fr ha) e' (by rw [W.size]; exact hn)
  exact ⟨s₂, o, stp _ h1, r⟩
theorem Go.newarr (pc' : Nat) (cap : Nat) {aty : ArrayType} {n : Int32} {i : Nat} (w : (Cond.arrayClass (newarray.typeOf aty)).before a0 Z = true) (hi : n.toInt = (i : Int)) (hcap : i ≤ cap) (hbig : cap * 8 ≤ 536870912) (hd : decode B.2.1 pc = .ok (.newarray aty, 2)) (hp : pc + 2 = pc') (hc : cl + 1 ≤ R.cells) (hl : sl + cap ≤ R.slots)
    (k : ∀ h' a, Ext h h' → h.size ≤ a → n0 ≤ a → ArV Z h' a (newarray.typeOf aty) (List.replicate i (defaultValue (newarray.typeOf aty))) → Go l Z R B n0 Q h' (cl + 1) (sl + cap) pc' Ls (.ref a :: st)) : Go l Z R B n0 Q h cl sl pc Ls (.int n :: st) := by
  subst hp
  intro p e s m args below meth c T locs X cx fr eT hn
  have hnn : ¬ n < 0 := by simp only [Int32.lt_iff_toInt_lt, Int32.reduceToInt]; omega
  have hcl : n.toNatClampNeg = i := by simp only [Int32.toNatClampNeg]; omega
  obtain ⟨T', h', cA, X', e', E, A, stp⟩ := newP X cx.1 cx.2.1 w eT (g := mkF m pc Ls (.int n :: st)) rfl (hb cx.2.2.2.1 hd) rfl hnn (cap := cap) (by omega) hbig hc hl
  have A' : ArV Z h' h.size (newarray.typeOf aty) (List.replicate i (defaultValue (newarray.typeOf aty))) := ⟨_, A, by simp [newA, hcl], by
    have := Int32.toInt_lt n; simp only [List.length_replicate]; omega⟩
  obtain ⟨s₂, o, h1, r⟩ := k h' h.size E (Nat.le_refl _) hn A' _ _ _ _ _ _ _ _ _ _ X' cx fr e' (Nat.le_trans hn E.1)
  exact ⟨s₂, o, stp _ h1, r⟩
theorem Go.newD (pc' : Nat) (cap : Nat) {n : Int32} {i : Nat} (w : (Cond.arrayClass .double).before a0 Z = true) (hi : n.toInt = (i : Int)) (hcap : i ≤ cap) (hbig : cap * 8 ≤ 536870912) (hd : decode B.2.1 pc = .ok (.newarray .double, 2)) (hp : pc + 2 = pc') (hc : cl + 1 ≤ R.cells) (hl : sl + cap ≤ R.slots)
    (k : ∀ h' a, Ext h h' → h.size ≤ a → n0 ≤ a → ArD Z h' a (List.replicate i 0) → Go l Z R B n0 Q h' (cl + 1) (sl + cap) pc' Ls (.ref a :: st)) : Go l Z R B n0 Q h cl sl pc Ls (.int n :: st) :=
  Go.newarr pc' cap (aty := .double) w hi hcap hbig hd hp hc hl fun h' a E q1 q2 A => k h' a E q1 q2 (by show ArV _ _ _ _ _; rw [List.map_replicate]; exact A)
theorem Go.newI (pc' : Nat) (cap : Nat) {n : Int32} {i : Nat} (w : (Cond.arrayClass .int).before a0 Z = true) (hi : n.toInt = (i : Int)) (hcap : i ≤ cap) (hbig : cap * 8 ≤ 536870912) (hd : decode B.2.1 pc = .ok (.newarray .int, 2)) (hp : pc + 2 = pc') (hc : cl + 1 ≤ R.cells) (hl : sl + cap ≤ R.slots)
    (k : ∀ h' a, Ext h h' → h.size ≤ a → n0 ≤ a → ArI Z h' a (List.replicate i 0) → Go l Z R B n0 Q h' (cl + 1) (sl + cap) pc' Ls (.ref a :: st)) : Go l Z R B n0 Q h cl sl pc Ls (.int n :: st) :=
  Go.newarr pc' cap (aty := .int) w hi hcap hbig hd hp hc hl fun h' a E q1 q2 A => k h' a E q1 q2 (by show ArV _ _ _ _ _; rw [List.map_replicate]; exact A)
theorem Go.newJ (pc' : Nat) (cap : Nat) {n : Int32} {i : Nat} (w : (Cond.arrayClass .long).before a0 Z = true) (hi : n.toInt = (i : Int)) (hcap : i ≤ cap) (hbig : cap * 8 ≤ 536870912) (hd : decode B.2.1 pc = .ok (.newarray .long, 2)) (hp : pc + 2 = pc') (hc : cl + 1 ≤ R.cells) (hl : sl + cap ≤ R.slots)
    (k : ∀ h' a, Ext h h' → h.size ≤ a → n0 ≤ a → ArJ Z h' a (List.replicate i 0) → Go l Z R B n0 Q h' (cl + 1) (sl + cap) pc' Ls (.ref a :: st)) : Go l Z R B n0 Q h cl sl pc Ls (.int n :: st) :=
  Go.newarr pc' cap (aty := .long) w hi hcap hbig hd hp hc hl fun h' a E q1 q2 A => k h' a E q1 q2 (by show ArV _ _ _ _ _; rw [List.map_replicate]; exact A)
/-! ### returns -/
theorem Go.out {w : Option Value} (hv : B.2.2.2 = none → w = none) (q : Q w h) (hc : cl ≤ R.cells) (hs : sl ≤ R.slots)
    (f : ∀ {p : Program} {e : Env} {s : State} {m : MethodId} {args : Array Value} {below : List Frame} {meth : Method} {c : Code} {T : State} {locs : List Loc} {fs : List Frame}, Stand p l e R s m args below meth c T locs cl sl → p.tables.exec = Jvm.exec → c.code = B.2.1 → meth.sig.returnType = B.2.2.2 →
      (∀ (f : JFrame) (acts : List Action), f.method = m → f.locked = none → f.entered = [] → (doReturn e (T.setTop f) acts w).1 = T.setFrames fs) → Steps p.tables e below (T.setTop (mkF m pc Ls st)) (T.setFrames fs)) : Go l Z R B n0 Q h cl sl pc Ls st := by
  intro p e s m args below meth c T locs X cx fr eT hn
  obtain ⟨fs, hr, hrun, hended, hW, hsame⟩ := X.leave (v := w) (fun q0 => hv (cx.2.2.2.2.2.1.symm.trans q0)) cx.2.2.2.2.2.2.1
  refine ⟨_, _, f X cx.1 cx.2.2.2.1 cx.2.2.2.2.2.1 hr, hrun, hended, w, locs, rfl, ?_, ⟨_, rfl⟩, hW, hsame.mono hc hs⟩
  have e2 : (T.setFrames fs).heap = h := eT
  rw [e2]
  exact ⟨q, hn, fr⟩
theorem Go.ret (hd : decode B.2.1 pc = .ok (.return_, 1)) (hr : B.2.2.2 = none) (hc : cl ≤ R.cells) (hs : sl ≤ R.slots) (q : Q none h) : Go l Z R B n0 Q h cl sl pc Ls [] :=
  Go.out (w := none) (fun _ => rfl) q hc hs fun X hx hcd hrt hl => X.returnOut hx (hrt.trans hr) (hb hcd hd) hl
theorem Go.iret {x : Int32} (hd : decode B.2.1 pc = .ok (.ireturn, 1)) (hr : B.2.2.2 = some .int) (hc : cl ≤ R.cells) (hs : sl ≤ R.slots) (q : Q (some (.int x)) h) : Go l Z R B n0 Q h cl sl pc Ls (.int x :: st) :=
  Go.out (w := some (.int x)) (fun q0 => by rw [hr] at q0; cases q0) q hc hs fun X hx hcd hrt hl => retOut X hx (hrt.trans hr) rfl (Or.inl ⟨rfl, Or.inl rfl, x, rfl⟩) (hb hcd hd) hl
theorem Go.zret {x : Int32} (hd : decode B.2.1 pc = .ok (.ireturn, 1)) (hr : B.2.2.2 = some .boolean) (hx01 : x = 0 ∨ x = 1) (hc : cl ≤ R.cells) (hs : sl ≤ R.slots) (q : Q (some (.int x)) h) : Go l Z R B n0 Q h cl sl pc Ls (.int x :: st) :=
  Go.out (w := some (.int x)) (fun q0 => by rw [hr] at q0; cases q0) q hc hs fun X hx hcd hrt hl => retOut X hx (hrt.trans hr) (by rcases hx01 with rfl | rfl <;> rfl) (Or.inl ⟨rfl, Or.inr (Or.inl rfl), x, rfl⟩) (hb hcd hd) hl
theorem Go.lret {x : Int64} (hd : decode B.2.1 pc = .ok (.lreturn, 1)) (hr : B.2.2.2 = some .long) (hc : cl ≤ R.cells) (hs : sl ≤ R.slots) (q : Q (some (.long x)) h) : Go l Z R B n0 Q h cl sl pc Ls (.long x :: st) :=
  Go.out (w := some (.long x)) (fun q0 => by rw [hr] at q0; cases q0) q hc hs fun X hx hcd hrt hl => retOut X hx (hrt.trans hr) rfl (Or.inr (Or.inl ⟨rfl, rfl, x, rfl⟩)) (hb hcd hd) hl
theorem Go.dret {x : UInt64} (hd : decode B.2.1 pc = .ok (.dreturn, 1)) (hr : B.2.2.2 = some .double) (hc : cl ≤ R.cells) (hs : sl ≤ R.slots) (q : Q (some (.double x)) h) : Go l Z R B n0 Q h cl sl pc Ls (.double x :: st) :=
  Go.out (w := some (.double x)) (fun q0 => by rw [hr] at q0; cases q0) q hc hs fun X hx hcd hrt hl => retOut X hx (hrt.trans hr) rfl (Or.inr (Or.inr (Or.inl ⟨rfl, rfl, x, rfl⟩))) (hb hcd hd) hl
theorem Go.aret {x : Value} {t : FieldType} (hd : decode B.2.1 pc = .ok (.areturn, 1)) (hr : B.2.2.2 = some t) (ht : t.isReference = true) (hv : x.isRef = true) (hc : cl ≤ R.cells) (hs : sl ≤ R.slots) (q : Q (some x) h) : Go l Z R B n0 Q h cl sl pc Ls (x :: st) :=
  Go.out (w := some x) (fun q0 => by rw [hr] at q0; cases q0) q hc hs fun X hx hcd hrt hl => retOut X hx (hrt.trans hr) (by cases t <;> first | rfl | cases ht) (Or.inr (Or.inr (Or.inr (Or.inr ⟨rfl, ht, hv⟩)))) (hb hcd hd) hl
/-! ### calls -/
/-- a callee's contract pays a call, under the narrow word on the tables -/
theorem backH {p : Program} {e : Env} {s : State} {args : Array Value} {below : List Frame} {y : MethodName} {bytes : ByteArray} {maxL : Nat} {ret : Option FieldType} {rm : Room} {len W : Nat} {as' : Array Value} {P : Option Value → Heap → List Loc → Prop}
    (hM : MetFree l y (head1 [Cond.code y bytes maxL ret] rm) (fun a U => a = as' ∧ Z.WarmedH U.vm ∧ U.heap = h) (fun _ _ _ _ _ => True) (fun _ U o U' => ∃ v L, o = .returned v ∧ P v U'.heap L ∧ FrameEnd U o U' L rm.cells rm.slots))
    (hZ : Z.WarmedH s.vm) (wc : (Cond.code y bytes maxL ret).before a0 Z = true) (wz : (Cond.initialized y.cls).before a0 Z = true) (hf : rm.frames + 1 ≤ R.frames) (hl : W + (maxL + 11) + rm.locals ≤ R.locals) :
    Back l R p e below s args y len W (fun A a => a = as' ∧ A.U.heap = h ∧ A.cells + rm.cells ≤ R.cells ∧ A.slots + rm.slots ≤ R.slots)
      (fun A _ v B => ∃ L, P v B.U.heap L ∧ B.locs = A.locs ++ L ∧ B.cells = A.cells + rm.cells ∧ B.slots = A.slots + rm.slots) := by
  refine Back.of_free (bytes := bytes) (maxL := maxL) (ret := ret) (E := fun _ _ o t L k n => k = rm.cells ∧ n = rm.slots ∧ ∃ v, o = .returned v ∧ P v t.heap L) hM hf hl ?_ ?_ ?_ ?_ ?_
  · intro m meth c A a Y hp
    have hU : Z.Warmed39 A.U.vm := (State.WarmedH.trans hZ Y.warmed).wide
    refine ⟨?_, mv hU wc, mv hU wz, hp.2.2.1, hp.2.2.2⟩
    show (Cond.and _ .tt).before a A.U = true
    rw [Cond.before_and, mv hU wc]; rfl
  · intro m meth c A a g mk Y hp
    exact ⟨hp.1, State.WarmedH.trans hZ Y.warmed, hp.2.1⟩
  · intros; trivial
  · rintro _ _ _ _ ⟨v, L, h1, h2, h3⟩
    exact ⟨L, _, _, h3, rfl, rfl, v, h1, h2⟩
  · rintro m meth c A a g mk v t L k n Y hp _ _ ⟨e1, e2, v', e3, e4⟩
    cases e3; subst e1 e2; exact ⟨L, e4, rfl, rfl, rfl⟩
/-- a body's walk from its entry is its contract -/
theorem Go.met {y : MethodName} {bytes : ByteArray} {maxL : Nat} {ret : Option FieldType} {rm : Room} {as' : Array Value} {Ls' : Array Slot} {ws : List Jvm.Cond} (pn : plainName y.cls = true) (hn : n0 ≤ h.size) (ef : ∀ m, entryFrame m as' maxL = mkF m 0 Ls' [])
    (k : Go l Z rm (y, bytes, maxL, ret) n0 Q h 0 0 0 Ls' []) :
    MetFree l y (head1 (Jvm.Cond.code y bytes maxL ret :: ws) rm) (fun a U => a = as' ∧ Z.WarmedH U.vm ∧ U.heap = h) (fun _ _ _ _ _ => True) (fun _ U o U' => ∃ v L, o = .returned v ∧ (Q v U'.heap ∧ n0 ≤ U'.heap.size ∧ Fr n0 L) ∧ FrameEnd U o U' L rm.cells rm.slots) := by
  refine MetFree.of_bodySF (plainFor_of_name pn) hisR ?_
  intro p e s m args below meth c s₁ Bd hml0 hP hK
  obtain ⟨rfl, hZ, hh⟩ := hP
  have e0 : s₁.heap = h := by rw [← hh, Bd.state]; rfl
  obtain ⟨s₂, o, h1, r⟩ := k _ _ _ _ _ _ _ _ _ _ (Stand.of_body Bd) ⟨Bd.exec, hZ.wide, findClass_of_methodNamed Bd.named, Bd.bytes, hml0, Bd.returns, Bd.notSynchronized, (name_of_methodNamed Bd.named Bd.method).1, hZ, Bd.named⟩ (Fr.nil n0) e0 hn
  exact ⟨s₂, o, castTop (ef m) h1, r⟩
theorem Go.callV (pc' : Nat) {index : Nat} {y : MethodName} {bytes : ByteArray} {maxL : Nat} {ret : Option FieldType} {rm : Room} {Q' : Option Value → Heap → Prop} {Ls' : Array Slot} {a : Nat} (argsL rest : List Value) {ps : List FieldType} {rt : Option FieldType}
    (w1 : (Cond.methodLink B.1.cls index y).before a0 Z = true) (w2 : (Cond.declares y).before a0 Z = true) (w3 : (Cond.selects y.cls y y).before a0 Z = true) (w4 : (Cond.instanceMethod y).before a0 Z = true) (w5 : (Cond.code y bytes maxL ret).before a0 Z = true) (w6 : (Cond.initialized y.cls).before a0 Z = true)
    (hy : y.cls ≠ "java/lang/invoke/MethodHandle" ∧ y.cls ≠ "java/lang/invoke/VarHandle") (pn : plainName y.cls = true) (pd : parseMethodDescriptor y.desc = some ⟨ps, rt⟩) (hlen : argsL.length = ps.length)
    (E : Exa Z h a y.cls) (ef : ∀ m, entryFrame m (.ref a :: argsL).toArray maxL = mkF m 0 Ls' [])
    (callee : Go l Z rm (y, bytes, maxL, ret) n0 Q' h 0 0 0 Ls' [])
    (hst : st = argsL.reverse ++ .ref a :: rest) (hsz : Ls.size = B.2.2.1) (hfr : rm.frames + 1 ≤ R.frames) (hlo : (rest.map fun v => v.category).sum + (maxL + 11) + rm.locals ≤ R.locals) (hc : cl + rm.cells ≤ R.cells) (hs : sl + rm.slots ≤ R.slots)
    (hd : decode B.2.1 pc = .ok (.invokevirtual index, 3)) (hp : pc + 3 = pc')
    (k : ∀ v h', Q' v h' → Go l Z R B n0 Q h' (cl + rm.cells) (sl + rm.slots) pc' Ls (v.toList ++ rest)) : Go l Z R B n0 Q h cl sl pc Ls st := by
  subst hp
  intro p e s m args below meth c T locs X cx fr eT hn
  obtain ⟨cq, kq, qa, qb, qc⟩ := isOf cx.2.1 eT E
  obtain ⟨v, _, ⟨T', L', k', n'⟩, -, X', ⟨Lc, hQ, l', y', z'⟩, stp⟩ := X.virtualBack cx.1 (y := y) (z := y) cx.2.2.1 (mvT cx.2.1 w1) (mvT cx.2.1 w2) (notFace_of_selects (args := #[]) (mvT cx.2.1 w3)) (mvT cx.2.1 w3) (mvT cx.2.1 w4) hy
    (backH (W := (rest.map fun v => v.category).sum) (P := fun v h' L => Q' v h' ∧ n0 ≤ h'.size ∧ Fr n0 L) (callee.met (ws := []) pn hn ef) cx.2.2.2.2.2.2.2.2.1 w5 w6 hfr hlo) qa qc (g := mkF m pc Ls st) rfl (hsz.trans cx.2.2.2.2.1.symm) (Steps.refl _) (argsL := argsL) (rest := rest) (lenOf pd hlen) hst (by show 2 * 0 + _ ≤ _; omega) (hb cx.2.2.2.1 hd) (fun _ _ => ⟨rfl, eT, hc, hs⟩)
  dsimp only [Pt.U, Pt.locs, Pt.cells, Pt.slots] at X' l' y' z' stp hQ
  subst l' y' z'
  obtain ⟨hQ1, hQ2, hQ3⟩ := hQ
  obtain ⟨s₂, o, h1, r⟩ := k v T'.heap hQ1 _ _ _ _ _ _ _ _ _ _ X' cx (Fr.app fr hQ3) rfl hQ2
  exact ⟨s₂, o, stp.trans h1, r⟩
theorem Go.callN (pc' : Nat) {index : Nat} {y : MethodName} {bytes : ByteArray} {maxL : Nat} {rm : Room} {Q' : Option Value → Heap → Prop} {Ls' : Array Slot} {a : Nat} (argsL rest : List Value) {ps : List FieldType} {rt : Option FieldType} (hy1 : y.name = "<init>")
    (w1 : (Cond.methodLink B.1.cls index y).before a0 Z = true) (w4 : (Cond.instanceMethod y).before a0 Z = true) (w5 : (Cond.code y bytes maxL none).before a0 Z = true) (w6 : (Cond.initialized y.cls).before a0 Z = true)
    (hy : y.cls ≠ "java/lang/invoke/MethodHandle" ∧ y.cls ≠ "java/lang/invoke/VarHandle") (pn : plainName y.cls = true) (pd : parseMethodDescriptor y.desc = some ⟨ps, rt⟩) (hlen : argsL.length = ps.length)
    (ef : ∀ m, entryFrame m (.ref a :: argsL).toArray maxL = mkF m 0 Ls' [])
    (callee : Go l Z rm (y, bytes, maxL, none) n0 Q' h 0 0 0 Ls' [])
    (hst : st = argsL.reverse ++ .ref a :: rest) (hsz : Ls.size = B.2.2.1) (hfr : rm.frames + 1 ≤ R.frames) (hlo : (rest.map fun v => v.category).sum + (maxL + 11) + rm.locals ≤ R.locals) (hc : cl + rm.cells ≤ R.cells) (hs : sl + rm.slots ≤ R.slots)
    (hd : decode B.2.1 pc = .ok (.invokespecial index, 3)) (hp : pc + 3 = pc')
    (k : ∀ v h', Q' v h' → Go l Z R B n0 Q h' (cl + rm.cells) (sl + rm.slots) pc' Ls (v.toList ++ rest)) : Go l Z R B n0 Q h cl sl pc Ls st := by
  subst hp
  intro p e s m args below meth c T locs X cx fr eT hn
  obtain ⟨v, _, ⟨T', L', k', n'⟩, -, X', ⟨Lc, hQ, l', y', z'⟩, stp⟩ := X.specialBack cx.1 (y := y) hy1 cx.2.2.1 (mvT cx.2.1 w1) (mvT cx.2.1 w4) (mvT cx.2.1 w5) hy
    (backH (W := (rest.map fun v => v.category).sum) (P := fun v h' L => Q' v h' ∧ n0 ≤ h'.size ∧ Fr n0 L) (callee.met (ws := []) pn hn ef) cx.2.2.2.2.2.2.2.2.1 w5 w6 hfr hlo) (g := mkF m pc Ls st) rfl (hsz.trans cx.2.2.2.2.1.symm) (Steps.refl _) (a := a) (argsL := argsL) (rest := rest) (lenOf pd hlen) hst (by show 2 * 0 + _ ≤ _; omega) (hb cx.2.2.2.1 hd) (fun _ _ => ⟨rfl, eT, hc, hs⟩)
  dsimp only [Pt.U, Pt.locs, Pt.cells, Pt.slots] at X' l' y' z' stp hQ
  subst l' y' z'
  obtain ⟨hQ1, hQ2, hQ3⟩ := hQ
  obtain ⟨s₂, o, h1, r⟩ := k v T'.heap hQ1 _ _ _ _ _ _ _ _ _ _ X' cx (Fr.app fr hQ3) rfl hQ2
  exact ⟨s₂, o, stp.trans h1, r⟩
theorem Go.callS (pc' : Nat) {index : Nat} {y : MethodName} {bytes : ByteArray} {maxL : Nat} {ret : Option FieldType} {rm : Room} {Q' : Option Value → Heap → Prop} {Ls' : Array Slot} (argsL rest : List Value) {ps : List FieldType} {rt : Option FieldType}
    (w1 : (Cond.methodLink B.1.cls index y).before a0 Z = true) (w2 : (Cond.static y).before a0 Z = true) (w5 : (Cond.code y bytes maxL ret).before a0 Z = true) (w6 : (Cond.initialized y.cls).before a0 Z = true)
    (hy : y.cls ≠ "java/lang/invoke/MethodHandle" ∧ y.cls ≠ "java/lang/invoke/VarHandle") (pn : plainName y.cls = true) (pd : parseMethodDescriptor y.desc = some ⟨ps, rt⟩) (hlen : argsL.length = ps.length)
    (ef : ∀ m, entryFrame m argsL.toArray maxL = mkF m 0 Ls' [])
    (callee : Go l Z rm (y, bytes, maxL, ret) n0 Q' h 0 0 0 Ls' [])
    (hst : st = argsL.reverse ++ rest) (hsz : Ls.size = B.2.2.1) (hfr : rm.frames + 1 ≤ R.frames) (hlo : (rest.map fun v => v.category).sum + (maxL + 11) + rm.locals ≤ R.locals) (hc : cl + rm.cells ≤ R.cells) (hs : sl + rm.slots ≤ R.slots)
    (hd : decode B.2.1 pc = .ok (.invokestatic index, 3)) (hp : pc + 3 = pc')
    (k : ∀ v h', Q' v h' → Go l Z R B n0 Q h' (cl + rm.cells) (sl + rm.slots) pc' Ls (v.toList ++ rest)) : Go l Z R B n0 Q h cl sl pc Ls st := by
  subst hp
  intro p e s m args below meth c T locs X cx fr eT hn
  obtain ⟨v, _, ⟨T', L', k', n'⟩, -, X', ⟨Lc, hQ, l', y', z'⟩, stp⟩ := Jvm.LawKit.callS X cx.1 (y := y) cx.2.2.1 (mvT cx.2.1 w1) (mvT cx.2.1 w2) (mvT cx.2.1 w6) (mvT cx.2.1 w5) hy
    (backH (W := (rest.map fun v => v.category).sum) (P := fun v h' L => Q' v h' ∧ n0 ≤ h'.size ∧ Fr n0 L) (callee.met (ws := []) pn hn ef) cx.2.2.2.2.2.2.2.2.1 w5 w6 hfr hlo) (g := mkF m pc Ls st) rfl (hsz.trans cx.2.2.2.2.1.symm) (argsL := argsL) (rest := rest) (lenOf pd hlen) hst (by show 2 * 0 + _ ≤ _; omega) (hb cx.2.2.2.1 hd) (fun _ _ => ⟨rfl, eT, hc, hs⟩)
  dsimp only [Pt.U, Pt.locs, Pt.cells, Pt.slots] at X' l' y' z' stp hQ
  subst l' y' z'
  obtain ⟨hQ1, hQ2, hQ3⟩ := hQ
  obtain ⟨s₂, o, h1, r⟩ := k v T'.heap hQ1 _ _ _ _ _ _ _ _ _ _ X' cx (Fr.app fr hQ3) rfl hQ2
  exact ⟨s₂, o, stp _ h1, r⟩
end Rules
end Jvm.GoK
namespace Jvm.GoK
open Jvm.Free
theorem toInt_add {x y : Int32} {a b : Int} {c : Int} (hx : x.toInt = a) (hy : y.toInt = b) (h1 : -2147483648 ≤ a + b) (h2 : a + b < 2147483648) (e : a + b = c) : (x + y).toInt = c := by
  rw [XT.add32 (show XT.fits32 _ from ⟨by rw [hx, hy]; omega, by rw [hx, hy]; omega⟩), hx, hy, e]
theorem toInt_add' {x y z : Int32} {a b : Int} {c : Int} (hx : x.toInt = a) (hy : y.toInt = b) (hz : x + y = z) (h1 : -2147483648 ≤ a + b) (h2 : a + b < 2147483648) (e : a + b = c) : z.toInt = c := hz ▸ toInt_add hx hy h1 h2 e
theorem toInt_sub {x y : Int32} {a b : Int} {c : Int} (hx : x.toInt = a) (hy : y.toInt = b) (h1 : -2147483648 ≤ a - b) (h2 : a - b < 2147483648) (e : a - b = c) : (x - y).toInt = c := by
  rw [XT.sub32 (show XT.fits32 _ from ⟨by rw [hx, hy]; omega, by rw [hx, hy]; omega⟩), hx, hy, e]
theorem toInt_mul {x y : Int32} {a b : Int} {c : Int} (hx : x.toInt = a) (hy : y.toInt = b) (h1 : -2147483648 ≤ a * b) (h2 : a * b < 2147483648) (e : a * b = c) : (x * y).toInt = c := by
  rw [XT.mul32 (show XT.fits32 _ from ⟨by rw [hx, hy]; omega, by rw [hx, hy]; omega⟩), hx, hy, e]
end Jvm.GoK
namespace Jvm.GoK
open Jvm.Free
theorem toInt_ladd {x y : Int64} {a b c : Int} (hx : x.toInt = a) (hy : y.toInt = b) (h1 : -9223372036854775808 ≤ a + b) (h2 : a + b < 9223372036854775808) (e : a + b = c) : (x + y).toInt = c := by
  rw [XT.add64 (show XT.fits64 _ from ⟨by rw [hx, hy]; omega, by rw [hx, hy]; omega⟩), hx, hy, e]
theorem toInt_lsub {x y : Int64} {a b c : Int} (hx : x.toInt = a) (hy : y.toInt = b) (h1 : -9223372036854775808 ≤ a - b) (h2 : a - b < 9223372036854775808) (e : a - b = c) : (x - y).toInt = c := by
  rw [XT.sub64 (show XT.fits64 _ from ⟨by rw [hx, hy]; omega, by rw [hx, hy]; omega⟩), hx, hy, e]
theorem toInt_lmul {x y : Int64} {a b c : Int} (hx : x.toInt = a) (hy : y.toInt = b) (h1 : -9223372036854775808 ≤ a * b) (h2 : a * b < 9223372036854775808) (e : a * b = c) : (x * y).toInt = c := by
  rw [XT.mul64 (show XT.fits64 _ from ⟨by rw [hx, hy]; omega, by rw [hx, hy]; omega⟩), hx, hy, e]
theorem b32 (x : Int32) : -2147483648 ≤ x.toInt ∧ x.toInt < 2147483648 := ⟨x.le_toInt, x.toInt_lt⟩
theorem and_nat (n : Int32) (k : Nat) (hk : k < 2147483648) : ∃ j : Nat, j ≤ k ∧ (n &&& Int32.ofNat k).toInt = (j : Int) := by
  have h : (n &&& Int32.ofNat k).toInt = ((n.toBitVec &&& BitVec.ofNat 32 k).toNat : Int) := by
    show (n.toBitVec &&& BitVec.ofNat 32 k).toInt = _
    rw [BitVec.toInt_eq_toNat_of_lt]
    have h2 : (n.toBitVec &&& BitVec.ofNat 32 k).toNat ≤ (BitVec.ofNat 32 k).toNat := by rw [BitVec.toNat_and]; exact Nat.and_le_right
    have h3 : (BitVec.ofNat 32 k).toNat = k := by rw [BitVec.toNat_ofNat]; omega
    omega
  refine ⟨_, ?_, h⟩
  have h3 : (BitVec.ofNat 32 k).toNat = k := by rw [BitVec.toNat_ofNat]; omega
  rw [BitVec.toNat_and]
  exact Nat.le_trans Nat.and_le_right (Nat.le_of_eq h3)
theorem and3 (n : Int32) : n &&& 3 = 0 ∨ n &&& 3 = 1 ∨ n &&& 3 = 2 ∨ n &&& 3 = 3 := by
  obtain ⟨j, h1, h2⟩ := and_nat n 3 (by decide)
  have h2 : (n &&& 3).toInt = (j : Int) := h2
  have : j = 0 ∨ j = 1 ∨ j = 2 ∨ j = 3 := by omega
  rcases this with rfl | rfl | rfl | rfl
  · exact Or.inl (Int32.toInt_inj.mp h2)
  · exact Or.inr (Or.inl (Int32.toInt_inj.mp h2))
  · exact Or.inr (Or.inr (Or.inl (Int32.toInt_inj.mp h2)))
  · exact Or.inr (Or.inr (Or.inr (Int32.toInt_inj.mp h2)))
theorem fill_step {α : Type} {rs : List α} {z g : α} {j k : Nat} (hg : rs[j]? = some g) (hk : rs.length = k) : (rs.take j ++ List.replicate (k - j) z).set j g = rs.take (j + 1) ++ List.replicate (k - (j + 1)) z := by
  have hj := (List.getElem?_eq_some_iff.mp hg).1
  have hlen : (rs.take j).length = j := by rw [List.length_take]; omega
  rw [List.set_append, hlen, if_neg (Nat.lt_irrefl j), Nat.sub_self, List.take_add_one, hg]
  obtain ⟨m, hm⟩ : ∃ m, k - j = m + 1 := ⟨k - j - 1, by omega⟩
  rw [hm, show k - (j + 1) = m by omega, List.replicate_succ, List.set_cons_zero, List.append_assoc]
  rfl
end Jvm.GoK
namespace Jvm.GoK
theorem fill_step2 {α : Type} {rs : List α} {z g : α} {j m : Nat} (hg : rs[j]? = some g) : (rs.take j ++ List.replicate (m + 1) z).set j g = rs.take (j + 1) ++ List.replicate m z := by
  have hj := (List.getElem?_eq_some_iff.mp hg).1
  have hlen : (rs.take j).length = j := by rw [List.length_take]; omega
  rw [List.set_append, hlen, if_neg (Nat.lt_irrefl j), Nat.sub_self, List.take_add_one, hg, List.replicate_succ, List.set_cons_zero, List.append_assoc]
  rfl
end Jvm.GoK
namespace Jvm.GoK
theorem leB {a b : Nat} (h : Nat.ble a b = true) : a ≤ b := Nat.le_of_ble_eq_true h
end Jvm.GoK
namespace Jvm.GoK
theorem lit1 : (1 : Int32).toInt = 1 := by decide
theorem lit2 : (2 : Int32).toInt = 2 := by decide
theorem lit3 : (3 : Int32).toInt = 3 := by decide
theorem olit1 : (Int32.ofInt 1).toInt = 1 := by decide
theorem olit2 : (Int32.ofInt 2).toInt = 2 := by decide
end Jvm.GoK
namespace Jvm.GoK
open Jvm.FP Jvm.Free.Fl Jvm.FP.Core
/-! ### doubles that are whole numbers: what each step makes of them -/
def DAdd (x y v : UInt64) : Prop := FP.dadd x y = v ∧ NoNaN64 v
def DSub (x y v : UInt64) : Prop := FP.dsub x y = v ∧ NoNaN64 v
def DMul (x y v : UInt64) : Prop := FP.dmul x y = v ∧ NoNaN64 v
def DDiv (x y v : UInt64) : Prop := FP.ddiv x y = v ∧ NoNaN64 v
theorem dint_nn {i : Int} {v : UInt64} (h : DInt i v) : NoNaN64 v := val64_no.mpr (DInt_ne_nan h)
theorem dint_cast {i j : Int} {v : UInt64} (h : DInt i v) (e : i = j) : DInt j v := e ▸ h
theorem dint_zero : DInt 0 0 := by
  unfold DInt
  rw [val64_zero]
  show signed false (0 * _) = 0 * _
  simp [signed]
theorem addI {i j : Int} {x y : UInt64} (hx : DInt i x) (hy : DInt j y) (b1 : -9007199254740992 ≤ i + j) (b2 : i + j ≤ 9007199254740992) : ∃ v, DAdd x y v ∧ DInt (i + j) v := by
  have q : DInt (i + j) (FP.dadd x y) := dadd_int hx hy (by omega)
  exact ⟨_, ⟨rfl, dint_nn q⟩, q⟩
theorem subI {i j : Int} {x y : UInt64} (hx : DInt i x) (hy : DInt j y) (b1 : -9007199254740992 ≤ i - j) (b2 : i - j ≤ 9007199254740992) : ∃ v, DSub x y v ∧ DInt (i - j) v := by
  have q : DInt (i - j) (FP.dsub x y) := dsub_int hx hy (by omega)
  exact ⟨_, ⟨rfl, dint_nn q⟩, q⟩
theorem mulI {i j : Int} {x y : UInt64} (hx : DInt i x) (hy : DInt j y) (b1 : -9007199254740992 ≤ i * j) (b2 : i * j ≤ 9007199254740992) : ∃ v, DMul x y v ∧ DInt (i * j) v := by
  have q : DInt (i * j) (FP.dmul x y) := dmul_int hx hy (by omega)
  exact ⟨_, ⟨rfl, dint_nn q⟩, q⟩
/-- what a comparison pushes -/
def sg (i j : Int) : Int32 := if i < j then -1 else if i = j then 0 else 1
theorem sg_cases (i j : Int) : ((sg i j).toInt = -1 ∧ i < j) ∨ ((sg i j).toInt = 0 ∧ i = j) ∨ ((sg i j).toInt = 1 ∧ j < i) := by
  unfold sg
  by_cases h1 : i < j
  · rw [if_pos h1]; exact Or.inl ⟨by decide, h1⟩
  · rw [if_neg h1]
    by_cases h2 : i = j
    · rw [if_pos h2]; exact Or.inr (Or.inl ⟨by decide, h2⟩)
    · rw [if_neg h2]; exact Or.inr (Or.inr ⟨by decide, by omega⟩)
theorem cmpV_sg (i j : Int) (o : ClassFile.CmpOp) : Op.cmpValue (some (compare i j)) o = sg i j := by
  unfold sg
  by_cases h1 : i < j
  · rw [if_pos h1, (compare_lt_iff i j).mpr h1]; cases o <;> rfl
  · rw [if_neg h1]
    by_cases h2 : i = j
    · rw [if_pos h2, (compare_eq_iff i j).mpr h2]; cases o <;> rfl
    · rw [if_neg h2, (compare_gt_iff i j).mpr (by omega)]; cases o <;> rfl
theorem cmpI {i j : Int} {x y : UInt64} (hx : DInt i x) (hy : DInt j y) (o : ClassFile.CmpOp) : Op.cmpValue (FP.dcmp x y) o = sg i j := by
  rw [show FP.dcmp x y = some (compare i j) from dcmp_int hx hy]; exact cmpV_sg i j o
end Jvm.GoK
namespace Jvm.GoK
theorem sg_self {i j : Int} (h : i = j) : (sg i j).toInt = 0 := by have := sg_cases i j; omega
end Jvm.GoK
namespace Jvm.Pilot.@@N@@
open Jvm Jvm.ClassFile Sem Op Lib Jvm.Free Jvm.Stand Jvm.LawKit Jvm.RoadKit Bundle Jvm.GoK Jvm.Pilot.@@N@@.Jvm.D
theorem d1_0 : decode prog_43_method_1_code 0 = .ok (.aload_n 0, 1) := by decide +kernel
theorem d1_1 : decode prog_43_method_1_code 1 = .ok (.invokespecial 1, 3) := by decide +kernel
theorem d1_4 : decode prog_43_method_1_code 4 = .ok (.aload_n 0, 1) := by decide +kernel
theorem d1_5 : decode prog_43_method_1_code 5 = .ok (.aload_n 1, 1) := by decide +kernel
theorem d1_6 : decode prog_43_method_1_code 6 = .ok (.putfield 7, 3) := by decide +kernel
theorem d1_9 : decode prog_43_method_1_code 9 = .ok (.aload_n 0, 1) := by decide +kernel
theorem d1_10 : decode prog_43_method_1_code 10 = .ok (.aload_n 2, 1) := by decide +kernel
theorem d1_11 : decode prog_43_method_1_code 11 = .ok (.putfield 13, 3) := by decide +kernel
theorem d1_14 : decode prog_43_method_1_code 14 = .ok (.return_, 1) := by decide +kernel
theorem d3_0 : decode prog_43_method_4_code 0 = .ok (.aload_n 0, 1) := by decide +kernel
theorem d3_1 : decode prog_43_method_4_code 1 = .ok (.getfield 13, 3) := by decide +kernel
theorem d3_4 : decode prog_43_method_4_code 4 = .ok (.arraylength, 1) := by decide +kernel
theorem d3_5 : decode prog_43_method_4_code 5 = .ok (.iconst 2, 1) := by decide +kernel
theorem d3_6 : decode prog_43_method_4_code 6 = .ok (.iadd, 1) := by decide +kernel
theorem d3_7 : decode prog_43_method_4_code 7 = .ok (.newarray .double, 2) := by decide +kernel
theorem d3_9 : decode prog_43_method_4_code 9 = .ok (.astore_n 2, 1) := by decide +kernel
theorem d3_10 : decode prog_43_method_4_code 10 = .ok (.iconst 0, 1) := by decide +kernel
theorem d3_11 : decode prog_43_method_4_code 11 = .ok (.istore_n 3, 1) := by decide +kernel
theorem d3_12 : decode prog_43_method_4_code 12 = .ok (.iload_n 3, 1) := by decide +kernel
theorem d3_13 : decode prog_43_method_4_code 13 = .ok (.aload_n 0, 1) := by decide +kernel
theorem d3_14 : decode prog_43_method_4_code 14 = .ok (.getfield 13, 3) := by decide +kernel
theorem d3_17 : decode prog_43_method_4_code 17 = .ok (.arraylength, 1) := by decide +kernel
theorem d3_18 : decode prog_43_method_4_code 18 = .ok (.if_icmp .ge 20, 3) := by decide +kernel
theorem d3_21 : decode prog_43_method_4_code 21 = .ok (.aload_n 2, 1) := by decide +kernel
theorem d3_22 : decode prog_43_method_4_code 22 = .ok (.iload_n 3, 1) := by decide +kernel
theorem d3_23 : decode prog_43_method_4_code 23 = .ok (.aload_n 1, 1) := by decide +kernel
theorem d3_24 : decode prog_43_method_4_code 24 = .ok (.aload_n 0, 1) := by decide +kernel
theorem d3_25 : decode prog_43_method_4_code 25 = .ok (.getfield 13, 3) := by decide +kernel
theorem d3_28 : decode prog_43_method_4_code 28 = .ok (.iload_n 3, 1) := by decide +kernel
theorem d3_29 : decode prog_43_method_4_code 29 = .ok (.iaload, 1) := by decide +kernel
theorem d3_30 : decode prog_43_method_4_code 30 = .ok (.daload, 1) := by decide +kernel
theorem d3_31 : decode prog_43_method_4_code 31 = .ok (.dastore, 1) := by decide +kernel
theorem d3_32 : decode prog_43_method_4_code 32 = .ok (.iinc 3 1, 3) := by decide +kernel
theorem d3_35 : decode prog_43_method_4_code 35 = .ok (.goto (-23), 3) := by decide +kernel
theorem d3_38 : decode prog_43_method_4_code 38 = .ok (.aload_n 2, 1) := by decide +kernel
theorem d3_39 : decode prog_43_method_4_code 39 = .ok (.aload_n 0, 1) := by decide +kernel
theorem d3_40 : decode prog_43_method_4_code 40 = .ok (.getfield 13, 3) := by decide +kernel
theorem d3_43 : decode prog_43_method_4_code 43 = .ok (.arraylength, 1) := by decide +kernel
theorem d3_44 : decode prog_43_method_4_code 44 = .ok (.dconst 1, 1) := by decide +kernel
theorem d3_45 : decode prog_43_method_4_code 45 = .ok (.dastore, 1) := by decide +kernel
theorem d3_46 : decode prog_43_method_4_code 46 = .ok (.aload_n 2, 1) := by decide +kernel
theorem d3_47 : decode prog_43_method_4_code 47 = .ok (.areturn, 1) := by decide +kernel
theorem d4_0 : decode method_3_code 0 = .ok (.iload 4, 2) := by decide +kernel
theorem d4_2 : decode method_3_code 2 = .ok (.ifCond .ne 6, 3) := by decide +kernel
theorem d4_5 : decode method_3_code 5 = .ok (.iload_n 0, 1) := by decide +kernel
theorem d4_6 : decode method_3_code 6 = .ok (.i2d, 1) := by decide +kernel
theorem d4_7 : decode method_3_code 7 = .ok (.dreturn, 1) := by decide +kernel
theorem d4_8 : decode method_3_code 8 = .ok (.iload 4, 2) := by decide +kernel
theorem d4_10 : decode method_3_code 10 = .ok (.iconst 1, 1) := by decide +kernel
theorem d4_11 : decode method_3_code 11 = .ok (.if_icmp .ne 6, 3) := by decide +kernel
theorem d4_14 : decode method_3_code 14 = .ok (.iload_n 1, 1) := by decide +kernel
theorem d4_15 : decode method_3_code 15 = .ok (.i2d, 1) := by decide +kernel
theorem d4_16 : decode method_3_code 16 = .ok (.dreturn, 1) := by decide +kernel
theorem d4_17 : decode method_3_code 17 = .ok (.iload 4, 2) := by decide +kernel
theorem d4_19 : decode method_3_code 19 = .ok (.iconst 2, 1) := by decide +kernel
theorem d4_20 : decode method_3_code 20 = .ok (.if_icmp .ne 6, 3) := by decide +kernel
theorem d4_23 : decode method_3_code 23 = .ok (.iload_n 2, 1) := by decide +kernel
theorem d4_24 : decode method_3_code 24 = .ok (.i2d, 1) := by decide +kernel
theorem d4_25 : decode method_3_code 25 = .ok (.dreturn, 1) := by decide +kernel
theorem d4_26 : decode method_3_code 26 = .ok (.iload_n 3, 1) := by decide +kernel
theorem d4_27 : decode method_3_code 27 = .ok (.i2d, 1) := by decide +kernel
theorem d4_28 : decode method_3_code 28 = .ok (.dreturn, 1) := by decide +kernel
theorem ef_1_ANA (x0 : Nat) (x2 : Nat) (m : MethodId) : entryFrame m #[(.ref x0), .null, (.ref x2)] 3 = mkF m 0 #[.val (.ref x0), .val .null, .val (.ref x2)] [] := by first | (simp [entryFrame, mkF, argsToLocals, Value.category, maxLocals]; done) | rfl
theorem pn_1 : plainName "com/example/mardec/mardec/explicit/ReducedModel" = true := by first | (simp [plainName, overriddenIn]; done) | decide +kernel
theorem pd_2 : parseMethodDescriptor "(Lcom/example/mardec/mardec/explicit/Transitions;[I)V" = some ⟨[(.object "com/example/mardec/mardec/explicit/Transitions"), (.array .int)], none⟩ := by decide +kernel
theorem ef_3_AA (x0 : Nat) (x1 : Nat) (m : MethodId) : entryFrame m #[(.ref x0), (.ref x1)] 4 = mkF m 0 #[.val (.ref x0), .val (.ref x1), .unset, .unset] [] := by first | (simp [entryFrame, mkF, argsToLocals, Value.category, maxLocals]; done) | rfl
theorem pd_4 : parseMethodDescriptor "([D)[D" = some ⟨[(.array .double)], some (.array .double)⟩ := by decide +kernel
theorem ef_4_IIIII (x0 : Int32) (x1 : Int32) (x2 : Int32) (x3 : Int32) (x4 : Int32) (m : MethodId) : entryFrame m #[(.int x0), (.int x1), (.int x2), (.int x3), (.int x4)] 5 = mkF m 0 #[.val (.int x0), .val (.int x1), .val (.int x2), .val (.int x3), .val (.int x4)] [] := by first | (simp [entryFrame, mkF, argsToLocals, Value.category, maxLocals]; done) | rfl
theorem pn_6 : plainName "com/example/mardec/mardec/explicit/ReducedModelRestrictPinLaw" = true := by first | (simp [plainName, overriddenIn]; done) | decide +kernel
theorem pd_7 : parseMethodDescriptor "(IIIII)D" = some ⟨[.int, .int, .int, .int, .int], some .double⟩ := by decide +kernel
theorem ef_0_IIIII (x0 : Int32) (x1 : Int32) (x2 : Int32) (x3 : Int32) (x4 : Int32) (m : MethodId) : entryFrame m #[(.int x0), (.int x1), (.int x2), (.int x3), (.int x4)] maxLocals = mkF m 0 #[.val (.int x0), .val (.int x1), .val (.int x2), .val (.int x3), .val (.int x4), .unset, .unset, .unset, .unset, .unset, .unset, .unset, .unset] [] := by first | (simp [entryFrame, mkF, argsToLocals, Value.category, maxLocals]; done) | rfl
theorem law_pn0 : plainName "com/example/mardec/mardec/explicit/ReducedModelRestrictPinLaw" = true := by first | (simp [plainName, overriddenIn]; done) | decide +kernel
theorem law_pn : plainName x.cls = true := law_pn0
def RM (Z : State) (h : Heap) (a sa va : Nat) (ss : List Int32) (vs : List UInt64) : Prop := Exa Z h a "com/example/mardec/mardec/explicit/ReducedModel" ∧ Fld Z h a "com/example/mardec/mardec/explicit/ReducedModel" "states" "[I" (.ref sa) ∧ ArI Z h sa ss ∧ ArD Z h va vs
def Q1 (v : Option Value) (_ : Heap) : Prop := v = some (.int 1)
theorem RM.ext {Z : State} {h h' : Heap} {a sa va : Nat} {ss : List Int32} {vs : List UInt64} (H : RM Z h a sa va ss vs) (E : Ext h h') : RM Z h' a sa va ss vs := ⟨H.1.ext E, H.2.1.ext E, H.2.2.1.ext E, H.2.2.2.ext E⟩
theorem RM.keep {Z : State} {h h' : Heap} {a sa va : Nat} {ss : List Int32} {vs : List UInt64} {ws : List Nat} (H : RM Z h a sa va ss vs) (K : Keep h h' ws) (q1 : a ∉ ws) (q2 : sa ∉ ws) (q3 : va ∉ ws) : RM Z h' a sa va ss vs := ⟨H.1.keep K, H.2.1.keep K q1, H.2.2.1.keep K q2, H.2.2.2.keep K q3⟩
set_option maxRecDepth 65536 in
set_option maxHeartbeats 40000000 in
theorem init_go (l : Launch) (Z : State) (a0 : Array Value) (hw : ∀ d ∈ tables_1, d.before a0 Z = true) {n0 : Nat} {h : Heap} {a sa : Nat} (E : Exa Z h a "com/example/mardec/mardec/explicit/ReducedModel") (F1 : Fld Z h a "com/example/mardec/mardec/explicit/ReducedModel" "transitions" "Lcom/example/mardec/mardec/explicit/Transitions;" .null) (F2 : Fld Z h a "com/example/mardec/mardec/explicit/ReducedModel" "states" "[I" .null) (na : n0 ≤ a) :
    Go l Z ({ frames := 1, cells := 0, slots := 0, locals := 16 } : Room) ((⟨"com/example/mardec/mardec/explicit/ReducedModel", "<init>", "(Lcom/example/mardec/mardec/explicit/Transitions;[I)V"⟩ : MethodName), prog_43_method_1_code, 3, none) n0 (fun v h' => v = none ∧ Keep h h' [a] ∧ Exa Z h' a "com/example/mardec/mardec/explicit/ReducedModel" ∧ Fld Z h' a "com/example/mardec/mardec/explicit/ReducedModel" "states" "[I" (.ref sa)) h 0 0 0 #[.val (.ref a), .val .null, .val (.ref sa)] [] := by
  refine Go.aloadN 1 d1_0 rfl rfl rfl ?_
  refine Go.initO 4 (hw _ (List.mem_of_getElem? (i := 8) rfl)) (hw _ (List.mem_of_getElem? (i := 9) rfl)) (hw _ (List.mem_of_getElem? (i := 10) rfl)) rfl d1_1 rfl (by decide) (leB rfl) ?_
  refine Go.aloadN 5 d1_4 rfl rfl rfl ?_
  refine Go.aloadN 6 d1_5 rfl rfl rfl ?_
  refine Go.putF 9 (hw _ (List.mem_of_getElem? (i := 11) rfl)) F1 E (Or.inr ⟨(hw _ (List.mem_of_getElem? (i := 12) rfl)), rfl, rfl⟩) (hw _ (List.mem_of_getElem? (i := 3) rfl)) (ty := (.object "com/example/mardec/mardec/explicit/Transitions")) (by decide) rfl rfl na d1_6 rfl ?_
  intro h1 W1
  refine Go.aloadN 10 d1_9 rfl rfl rfl ?_
  refine Go.aloadN 11 d1_10 rfl rfl rfl ?_
  have F2' := F2.other W1 (Or.inr (slot_ne (a0 := a0) (C := "com/example/mardec/mardec/explicit/ReducedModel") (Or.inr (hw _ (List.mem_of_getElem? (i := 14) rfl))) (Or.inr (hw _ (List.mem_of_getElem? (i := 12) rfl))) (by decide) (t := .array .int) (t' := .object "com/example/mardec/mardec/explicit/Transitions") (by decide) (by decide)))
  refine Go.putF 14 (hw _ (List.mem_of_getElem? (i := 13) rfl)) F2' (E.wr W1) (Or.inr ⟨(hw _ (List.mem_of_getElem? (i := 14) rfl)), rfl, rfl⟩) (hw _ (List.mem_of_getElem? (i := 3) rfl)) (ty := (.array .int)) (by decide) rfl rfl na d1_11 rfl ?_
  intro h2 W2
  exact Go.ret d1_14 rfl (by decide) (by decide) ⟨rfl, ((Keep.refl h [a]).wr W1 (Or.inl (List.mem_singleton.mpr rfl))).wr W2 (Or.inl (List.mem_singleton.mpr rfl)), (E.wr W1).wr W2, F2'.same W2⟩
set_option maxRecDepth 65536 in
set_option maxHeartbeats 40000000 in
theorem restrict_loop (l : Launch) (Z : State) (a0 : Array Value) (hw : ∀ d ∈ tables_1, d.before a0 Z = true) {n0 : Nat} {a sa va r : Nat} {ss : List Int32} {vs xs : List UInt64} {k : Nat} {kk : Int32} (hk : k ≤ 3) (hss : ss.length = k) (hxs : xs.length = k) (hx : ∀ j, j < k → ∃ s t x, ss[j]? = some s ∧ s.toInt = ((t : Nat) : Int) ∧ vs[t]? = some x ∧ xs[j]? = some x) (hkk : kk.toInt = (k : Int)) (h1' : r ≠ a) (h2 : r ≠ sa) (h3 : r ≠ va) (nr : n0 ≤ r) :
    ∀ (f j : Nat) (h : Heap) (i : Int32), j + f = k → j ≤ k → RM Z h a sa va ss vs → ArD Z h r (xs.take j ++ List.replicate (k + 2 - j) 0) → i.toInt = (j : Int) → Go l Z ({ frames := 0, cells := 1, slots := 5, locals := 0 } : Room) ((⟨"com/example/mardec/mardec/explicit/ReducedModel", "restrict", "([D)[D"⟩ : MethodName), prog_43_method_4_code, 4, some (.array .double)) n0 (fun v h' => ∃ r, v = some (.ref r) ∧ n0 ≤ r ∧ r ≠ va ∧ ArD Z h' r (xs ++ [4607182418800017408, 0]) ∧ ArD Z h' va vs) h 1 5 12 #[.val (.ref a), .val (.ref va), .val (.ref r), .val (.int i)] [] := by
  intro f
  induction f with
  | zero =>
    intro j h i hf hj H A hi
    obtain rfl : j = k := by omega
    refine Go.iloadN 13 d3_12 rfl rfl ?_
    refine Go.aloadN 14 d3_13 rfl rfl rfl ?_
    refine Go.getf 17 (hw _ (List.mem_of_getElem? (i := 13) rfl)) H.2.1 d3_14 rfl ?_
    refine Go.alen 18 kk H.2.2.1 (by rw [List.length_map, hss, hkk]) d3_17 rfl ?_
    refine Go.icmpT 38 d3_18 (by decide) (by decide) (show (kk).toInt ≤ (i).toInt from by omega) ?_
    refine Go.aloadN 39 d3_38 rfl rfl rfl ?_
    refine Go.aloadN 40 d3_39 rfl rfl rfl ?_
    refine Go.getf 43 (hw _ (List.mem_of_getElem? (i := 13) rfl)) H.2.1 d3_40 rfl ?_
    refine Go.alen 44 kk H.2.2.1 (by rw [List.length_map, hss, hkk]) d3_43 rfl ?_
    refine Go.dconst1 45 (4607182418800017408 : UInt64) d3_44 rfl rfl ?_
    rw [List.take_of_length_le (by omega), show j + 2 - j = 2 by omega] at A
    refine Go.dastore 46 A (i := j) hkk (by simp only [List.length_append, List.length_replicate]; omega) nr d3_45 rfl ?_
    intro h1 K1 A1
    refine Go.aloadN 47 d3_46 rfl rfl rfl ?_
    refine Go.aret d3_47 rfl rfl rfl (by decide) (by decide) ⟨r, rfl, nr, h3, ?_, H.2.2.2.keep K1 (ninS (Ne.symm h3) nin0)⟩
    have e : (xs ++ List.replicate 2 (0 : UInt64)).set j 4607182418800017408 = xs ++ [4607182418800017408, 0] := by rw [List.set_append, if_neg (by omega), show j - xs.length = 0 by omega]; rfl
    rw [e] at A1; exact A1
  | succ f ih =>
    intro j h i hf hj H A hi
    obtain ⟨i2, hi2⟩ : ∃ i2 : Int32, i + Int32.ofInt 1 = i2 := ⟨_, rfl⟩
    refine Go.iloadN 13 d3_12 rfl rfl ?_
    refine Go.aloadN 14 d3_13 rfl rfl rfl ?_
    refine Go.getf 17 (hw _ (List.mem_of_getElem? (i := 13) rfl)) H.2.1 d3_14 rfl ?_
    refine Go.alen 18 kk H.2.2.1 (by rw [List.length_map, hss, hkk]) d3_17 rfl ?_
    refine Go.icmpF 21 d3_18 rfl (show (i).toInt < (kk).toInt from by omega) ?_
    obtain ⟨sj, t, x, e1, e2, e3, e4⟩ := hx j (by omega)
    refine Go.aloadN 22 d3_21 rfl rfl rfl ?_
    refine Go.iloadN 23 d3_22 rfl rfl ?_
    refine Go.aloadN 24 d3_23 rfl rfl rfl ?_
    refine Go.aloadN 25 d3_24 rfl rfl rfl ?_
    refine Go.getf 28 (hw _ (List.mem_of_getElem? (i := 13) rfl)) H.2.1 d3_25 rfl ?_
    refine Go.iloadN 29 d3_28 rfl rfl ?_
    refine Go.iaload 30 H.2.2.1 hi e1 d3_29 rfl ?_
    refine Go.daload 31 H.2.2.2 e2 e3 d3_30 rfl ?_
    obtain ⟨m, hm⟩ : ∃ m, k + 2 - j = m + 1 := ⟨k + 1 - j, by omega⟩
    rw [hm] at A
    refine Go.dastore 32 A (i := j) hi (by simp only [List.length_append, List.length_take, List.length_replicate]; omega) nr d3_31 rfl ?_
    intro h1 K1 A1
    rw [fill_step2 e4, show m = k + 2 - (j + 1) by omega] at A1
    refine Go.iinc 35 #[.val (.ref a), .val (.ref va), .val (.ref r), .val (.int i2)] i2 d3_32 rfl rfl hi2 rfl ?_
    refine Go.goto 12 d3_35 (by decide) (by decide) ?_
    exact ih (j + 1) h1 i2 (by omega) (by omega) (H.keep K1 (ninS (Ne.symm h1') nin0) (ninS (Ne.symm h2) nin0) (ninS (Ne.symm h3) nin0)) A1 (toInt_add' hi olit1 hi2 (by omega) (by omega) (by omega))
set_option maxRecDepth 65536 in
set_option maxHeartbeats 40000000 in
theorem restrict_go (l : Launch) (Z : State) (a0 : Array Value) (hw : ∀ d ∈ tables_1, d.before a0 Z = true) {n0 : Nat} {h : Heap} {a sa va : Nat} {ss : List Int32} {vs xs : List UInt64} {k : Nat} {kk : Int32} (H : RM Z h a sa va ss vs) (hk : k ≤ 3) (hss : ss.length = k) (hxs : xs.length = k) (hx : ∀ j, j < k → ∃ s t x, ss[j]? = some s ∧ s.toInt = ((t : Nat) : Int) ∧ vs[t]? = some x ∧ xs[j]? = some x) (hkk : kk.toInt = (k : Int)) :
    Go l Z ({ frames := 0, cells := 1, slots := 5, locals := 0 } : Room) ((⟨"com/example/mardec/mardec/explicit/ReducedModel", "restrict", "([D)[D"⟩ : MethodName), prog_43_method_4_code, 4, some (.array .double)) n0 (fun v h' => ∃ r, v = some (.ref r) ∧ n0 ≤ r ∧ r ≠ va ∧ ArD Z h' r (xs ++ [4607182418800017408, 0]) ∧ ArD Z h' va vs) h 0 0 0 #[.val (.ref a), .val (.ref va), .unset, .unset] [] := by
  refine Go.aloadN 1 d3_0 rfl rfl rfl ?_
  refine Go.getf 4 (hw _ (List.mem_of_getElem? (i := 13) rfl)) H.2.1 d3_1 rfl ?_
  refine Go.alen 5 kk H.2.2.1 (by rw [List.length_map, hss, hkk]) d3_4 rfl ?_
  refine Go.iconst 6 (2 : Int32) d3_5 rfl (by decide) ?_
  refine Go.iadd 7 (kk + (2 : Int32)) d3_6 rfl rfl ?_
  refine Go.newD 9 5 (hw _ (List.mem_of_getElem? (i := 1) rfl)) (i := k + 2) (toInt_add hkk lit2 (by omega) (by omega) (by omega)) (by omega) (by decide) d3_7 rfl (by decide) (by decide) ?_
  intro h1 r E1 g1 nr A1
  refine Go.astoreN 10 #[.val (.ref a), .val (.ref va), .val (.ref r), .unset] d3_9 rfl rfl rfl ?_
  refine Go.iconst 11 (0 : Int32) d3_10 rfl (by decide) ?_
  refine Go.istoreN 12 #[.val (.ref a), .val (.ref va), .val (.ref r), .val (.int (0 : Int32))] d3_11 rfl rfl ?_
  exact restrict_loop l Z a0 hw hk hss hxs hx hkk (fun q => by have : a < h.size := H.1.lt; omega) (fun q => by have := H.2.2.1.lt; omega) (fun q => by have := H.2.2.2.lt; omega) nr k 0 h1 0 (by omega) (by omega) (H.ext E1) (by simpa using A1) (by decide)
set_option maxRecDepth 65536 in
set_option maxHeartbeats 40000000 in
theorem pick_0 (l : Launch) (Z : State) {n0 : Nat} {h : Heap} (a b c d i : Int32) (hi : i.toInt = 0) : Go l Z ({ frames := 0, cells := 0, slots := 0, locals := 0 } : Room) ((⟨"com/example/mardec/mardec/explicit/ReducedModelRestrictPinLaw", "pick", "(IIIII)D"⟩ : MethodName), method_3_code, 5, some .double) n0 (fun v h' => v = some (.double (FP.i2d a)) ∧ h' = h) h 0 0 0 #[.val (.int a), .val (.int b), .val (.int c), .val (.int d), .val (.int i)] [] := by
  refine Go.iload 2 d4_0 rfl rfl ?_
  refine Go.ifCF 5 d4_2 rfl (show (i).toInt = 0 from by omega) ?_
  refine Go.iloadN 6 d4_5 rfl rfl ?_
  refine Go.i2d 7 (FP.i2d a) d4_6 rfl rfl ?_
  exact Go.dret d4_7 rfl (by decide) (by decide) ⟨rfl, rfl⟩
set_option maxRecDepth 65536 in
set_option maxHeartbeats 40000000 in
theorem pick_1 (l : Launch) (Z : State) {n0 : Nat} {h : Heap} (a b c d i : Int32) (hi : i.toInt = 1) : Go l Z ({ frames := 0, cells := 0, slots := 0, locals := 0 } : Room) ((⟨"com/example/mardec/mardec/explicit/ReducedModelRestrictPinLaw", "pick", "(IIIII)D"⟩ : MethodName), method_3_code, 5, some .double) n0 (fun v h' => v = some (.double (FP.i2d b)) ∧ h' = h) h 0 0 0 #[.val (.int a), .val (.int b), .val (.int c), .val (.int d), .val (.int i)] [] := by
  refine Go.iload 2 d4_0 rfl rfl ?_
  refine Go.ifCT 8 d4_2 (by decide) (by decide) (show (i).toInt ≠ 0 from by omega) ?_
  refine Go.iload 10 d4_8 rfl rfl ?_
  refine Go.iconst 11 (1 : Int32) d4_10 rfl (by decide) ?_
  refine Go.icmpF 14 d4_11 rfl (show (i).toInt = (1 : Int) from by omega) ?_
  refine Go.iloadN 15 d4_14 rfl rfl ?_
  refine Go.i2d 16 (FP.i2d b) d4_15 rfl rfl ?_
  exact Go.dret d4_16 rfl (by decide) (by decide) ⟨rfl, rfl⟩
set_option maxRecDepth 65536 in
set_option maxHeartbeats 40000000 in
theorem pick_2 (l : Launch) (Z : State) {n0 : Nat} {h : Heap} (a b c d i : Int32) (hi : i.toInt = 2) : Go l Z ({ frames := 0, cells := 0, slots := 0, locals := 0 } : Room) ((⟨"com/example/mardec/mardec/explicit/ReducedModelRestrictPinLaw", "pick", "(IIIII)D"⟩ : MethodName), method_3_code, 5, some .double) n0 (fun v h' => v = some (.double (FP.i2d c)) ∧ h' = h) h 0 0 0 #[.val (.int a), .val (.int b), .val (.int c), .val (.int d), .val (.int i)] [] := by
  refine Go.iload 2 d4_0 rfl rfl ?_
  refine Go.ifCT 8 d4_2 (by decide) (by decide) (show (i).toInt ≠ 0 from by omega) ?_
  refine Go.iload 10 d4_8 rfl rfl ?_
  refine Go.iconst 11 (1 : Int32) d4_10 rfl (by decide) ?_
  refine Go.icmpT 17 d4_11 (by decide) (by decide) (show (i).toInt ≠ (1 : Int) from by omega) ?_
  refine Go.iload 19 d4_17 rfl rfl ?_
  refine Go.iconst 20 (2 : Int32) d4_19 rfl (by decide) ?_
  refine Go.icmpF 23 d4_20 rfl (show (i).toInt = (2 : Int) from by omega) ?_
  refine Go.iloadN 24 d4_23 rfl rfl ?_
  refine Go.i2d 25 (FP.i2d c) d4_24 rfl rfl ?_
  exact Go.dret d4_25 rfl (by decide) (by decide) ⟨rfl, rfl⟩
set_option maxRecDepth 65536 in
set_option maxHeartbeats 40000000 in
theorem pick_3 (l : Launch) (Z : State) {n0 : Nat} {h : Heap} (a b c d i : Int32) (hi : i.toInt = 3) : Go l Z ({ frames := 0, cells := 0, slots := 0, locals := 0 } : Room) ((⟨"com/example/mardec/mardec/explicit/ReducedModelRestrictPinLaw", "pick", "(IIIII)D"⟩ : MethodName), method_3_code, 5, some .double) n0 (fun v h' => v = some (.double (FP.i2d d)) ∧ h' = h) h 0 0 0 #[.val (.int a), .val (.int b), .val (.int c), .val (.int d), .val (.int i)] [] := by
  refine Go.iload 2 d4_0 rfl rfl ?_
  refine Go.ifCT 8 d4_2 (by decide) (by decide) (show (i).toInt ≠ 0 from by omega) ?_
  refine Go.iload 10 d4_8 rfl rfl ?_
  refine Go.iconst 11 (1 : Int32) d4_10 rfl (by decide) ?_
  refine Go.icmpT 17 d4_11 (by decide) (by decide) (show (i).toInt ≠ (1 : Int) from by omega) ?_
  refine Go.iload 19 d4_17 rfl rfl ?_
  refine Go.iconst 20 (2 : Int32) d4_19 rfl (by decide) ?_
  refine Go.icmpT 26 d4_20 (by decide) (by decide) (show (i).toInt ≠ (2 : Int) from by omega) ?_
  refine Go.iloadN 27 d4_26 rfl rfl ?_
  refine Go.i2d 28 (FP.i2d d) d4_27 rfl rfl ?_
  exact Go.dret d4_28 rfl (by decide) (by decide) ⟨rfl, rfl⟩
theorem pick_go (l : Launch) (Z : State) {n0 : Nat} {h : Heap} (a b c d i : Int32) {t : Nat} {x : UInt64} (hi : i.toInt = (t : Int)) (hx : [FP.i2d a, FP.i2d b, FP.i2d c, FP.i2d d][t]? = some x) : Go l Z ({ frames := 0, cells := 0, slots := 0, locals := 0 } : Room) ((⟨"com/example/mardec/mardec/explicit/ReducedModelRestrictPinLaw", "pick", "(IIIII)D"⟩ : MethodName), method_3_code, 5, some .double) n0 (fun v h' => v = some (.double x) ∧ h' = h) h 0 0 0 #[.val (.int a), .val (.int b), .val (.int c), .val (.int d), .val (.int i)] [] := by
  have ht := (List.getElem?_eq_some_iff.mp hx).1
  simp only [List.length_cons, List.length_nil] at ht
  have : t = 0 ∨ t = 1 ∨ t = 2 ∨ t = 3 := by omega
  rcases this with rfl | rfl | rfl | rfl
  · cases hx; exact pick_0 l Z a b c d i hi
  · cases hx; exact pick_1 l Z a b c d i hi
  · cases hx; exact pick_2 l Z a b c d i hi
  · cases hx; exact pick_3 l Z a b c d i hi
theorem nn4 {a b c d : Int32} {t : Nat} {x : UInt64} (hx : [FP.i2d a, FP.i2d b, FP.i2d c, FP.i2d d][t]? = some x) : Jvm.Free.Fl.NoNaN64 x := by
  have hm := List.mem_of_getElem? hx
  simp only [List.mem_cons, List.not_mem_nil, or_false] at hm
  rcases hm with rfl | rfl | rfl | rfl <;> exact dint_nn (FP.Core.i2d_int _)
theorem ex4 (a b c d : Int32) {t : Nat} (ht : t ≤ 3) : ∃ x, [FP.i2d a, FP.i2d b, FP.i2d c, FP.i2d d][t]? = some x := by
  have : t = 0 ∨ t = 1 ∨ t = 2 ∨ t = 3 := by omega
  rcases this with rfl | rfl | rfl | rfl <;> exact ⟨_, rfl⟩
set_option maxRecDepth 65536 in
set_option maxHeartbeats 40000000 in
theorem law_0 (l : Launch) (Z : State) (a0 : Array Value) (hw : ∀ d ∈ tables_1, d.before a0 Z = true) (sel a b c d : Int32) (hn : sel &&& 3 = 0) {h : Heap} {n0 : Nat} : Go l Z room_1 (x, code, maxLocals, ret) n0 Q1 h 0 0 0 #[.val (.int sel), .val (.int a), .val (.int b), .val (.int c), .val (.int d), .unset, .unset, .unset, .unset, .unset, .unset, .unset, .unset] [] := by
  obtain ⟨s0, hs0⟩ : ∃ z : Int32, XT.ushr sel 2 &&& 3 = z := ⟨_, rfl⟩
  obtain ⟨t0, ht0, it0⟩ := and_nat (XT.ushr sel 2) 3 (by decide)
  replace it0 : s0.toInt = (t0 : Int) := by rw [← hs0]; exact it0
  obtain ⟨x0, hx0⟩ := ex4 a b c d ht0
  obtain ⟨s1, hs1⟩ : ∃ z : Int32, XT.ushr sel 4 &&& 3 = z := ⟨_, rfl⟩
  obtain ⟨t1, ht1, it1⟩ := and_nat (XT.ushr sel 4) 3 (by decide)
  replace it1 : s1.toInt = (t1 : Int) := by rw [← hs1]; exact it1
  obtain ⟨x1, hx1⟩ := ex4 a b c d ht1
  obtain ⟨s2, hs2⟩ : ∃ z : Int32, XT.ushr sel 6 &&& 3 = z := ⟨_, rfl⟩
  obtain ⟨t2, ht2, it2⟩ := and_nat (XT.ushr sel 6) 3 (by decide)
  replace it2 : s2.toInt = (t2 : Int) := by rw [← hs2]; exact it2
  obtain ⟨x2, hx2⟩ := ex4 a b c d ht2
  refine Go.iloadN 1 at_0 rfl rfl ?_
  refine Go.iconst 2 (3 : Int32) at_1 rfl (by decide) ?_
  refine Go.iand 3 (0 : Int32) at_2 rfl hn ?_
  refine Go.istore 5 #[.val (.int sel), .val (.int a), .val (.int b), .val (.int c), .val (.int d), .val (.int (0 : Int32)), .unset, .unset, .unset, .unset, .unset, .unset, .unset] at_3 rfl rfl ?_
  refine Go.iloadN 6 at_5 rfl rfl ?_
  refine Go.iconst 7 (2 : Int32) at_6 rfl (by decide) ?_
  refine Go.iushr 8 (XT.ushr sel (2 : Int32)) at_7 rfl rfl ?_
  refine Go.iconst 9 (3 : Int32) at_8 rfl (by decide) ?_
  refine Go.iand 10 s0 at_9 rfl hs0 ?_
  refine Go.istore 12 #[.val (.int sel), .val (.int a), .val (.int b), .val (.int c), .val (.int d), .val (.int (0 : Int32)), .val (.int s0), .unset, .unset, .unset, .unset, .unset, .unset] at_10 rfl rfl ?_
  refine Go.iloadN 13 at_12 rfl rfl ?_
  refine Go.iconst 14 (4 : Int32) at_13 rfl (by decide) ?_
  refine Go.iushr 15 (XT.ushr sel (4 : Int32)) at_14 rfl rfl ?_
  refine Go.iconst 16 (3 : Int32) at_15 rfl (by decide) ?_
  refine Go.iand 17 s1 at_16 rfl hs1 ?_
  refine Go.istore 19 #[.val (.int sel), .val (.int a), .val (.int b), .val (.int c), .val (.int d), .val (.int (0 : Int32)), .val (.int s0), .val (.int s1), .unset, .unset, .unset, .unset, .unset] at_17 rfl rfl ?_
  refine Go.iloadN 20 at_19 rfl rfl ?_
  refine Go.bipush 22 (6 : Int32) at_20 rfl (by decide) ?_
  refine Go.iushr 23 (XT.ushr sel (6 : Int32)) at_22 rfl rfl ?_
  refine Go.iconst 24 (3 : Int32) at_23 rfl (by decide) ?_
  refine Go.iand 25 s2 at_24 rfl hs2 ?_
  refine Go.istore 27 #[.val (.int sel), .val (.int a), .val (.int b), .val (.int c), .val (.int d), .val (.int (0 : Int32)), .val (.int s0), .val (.int s1), .val (.int s2), .unset, .unset, .unset, .unset] at_25 rfl rfl ?_
  refine Go.iload 29 at_27 rfl rfl ?_
  refine Go.ifCF 32 at_29 rfl (show (0 : Int) = 0 from by decide) ?_
  refine Go.iconst 33 (0 : Int32) at_32 rfl (by decide) ?_
  refine Go.newI 35 0 (hw _ (List.mem_of_getElem? (i := 0) rfl)) (i := 0) (by decide) (by decide) (by decide) at_33 rfl (by decide) (by decide) ?_
  intro h1 sa E1 g1 ns A1
  have A1 : ArI Z h1 sa [] := A1
  refine Go.astore 37 #[.val (.int sel), .val (.int a), .val (.int b), .val (.int c), .val (.int d), .val (.int (0 : Int32)), .val (.int s0), .val (.int s1), .val (.int s2), .val (.ref sa), .unset, .unset, .unset] at_35 rfl rfl rfl ?_
  refine Go.goto 103 at_37 (by decide) (by decide) ?_
  refine Go.iconst 104 (4 : Int32) at_103 rfl (by decide) ?_
  refine Go.newD 106 4 (hw _ (List.mem_of_getElem? (i := 1) rfl)) (i := 4) (by decide) (by decide) (by decide) at_104 rfl (by decide) (by decide) ?_
  intro h2 va E2 g2 nv A2
  have A2 : ArD Z h2 va [0, 0, 0, 0] := A2
  have hsv : sa ≠ va := Nat.ne_of_lt (Nat.lt_of_lt_of_le A1.lt g2)
  replace A1 := A1.ext E2
  refine Go.dup 107 at_106 rfl rfl ?_
  refine Go.iconst 108 (0 : Int32) at_107 rfl (by decide) ?_
  refine Go.iloadN 109 at_108 rfl rfl ?_
  refine Go.i2d 110 (FP.i2d a) at_109 rfl rfl ?_
  refine Go.dastore 111 A2 (i := 0) (by decide) (by simp) nv at_110 rfl ?_
  intro h2_0 K2_0 A2_0
  have A2 : ArD Z h2_0 va [FP.i2d a, 0, 0, 0] := A2_0
  replace A1 := A1.keep K2_0 (ninS hsv nin0)
  refine Go.dup 112 at_111 rfl rfl ?_
  refine Go.iconst 113 (1 : Int32) at_112 rfl (by decide) ?_
  refine Go.iloadN 114 at_113 rfl rfl ?_
  refine Go.i2d 115 (FP.i2d b) at_114 rfl rfl ?_
  refine Go.dastore 116 A2 (i := 1) (by decide) (by simp) nv at_115 rfl ?_
  intro h2_1 K2_1 A2_1
  have A2 : ArD Z h2_1 va [FP.i2d a, FP.i2d b, 0, 0] := A2_1
  replace A1 := A1.keep K2_1 (ninS hsv nin0)
  refine Go.dup 117 at_116 rfl rfl ?_
  refine Go.iconst 118 (2 : Int32) at_117 rfl (by decide) ?_
  refine Go.iloadN 119 at_118 rfl rfl ?_
  refine Go.i2d 120 (FP.i2d c) at_119 rfl rfl ?_
  refine Go.dastore 121 A2 (i := 2) (by decide) (by simp) nv at_120 rfl ?_
  intro h2_2 K2_2 A2_2
  have A2 : ArD Z h2_2 va [FP.i2d a, FP.i2d b, FP.i2d c, 0] := A2_2
  replace A1 := A1.keep K2_2 (ninS hsv nin0)
  refine Go.dup 122 at_121 rfl rfl ?_
  refine Go.iconst 123 (3 : Int32) at_122 rfl (by decide) ?_
  refine Go.iload 125 at_123 rfl rfl ?_
  refine Go.i2d 126 (FP.i2d d) at_125 rfl rfl ?_
  refine Go.dastore 127 A2 (i := 3) (by decide) (by simp) nv at_126 rfl ?_
  intro h2_3 K2_3 A2_3
  have A2 : ArD Z h2_3 va [FP.i2d a, FP.i2d b, FP.i2d c, FP.i2d d] := A2_3
  replace A1 := A1.keep K2_3 (ninS hsv nin0)
  refine Go.astore 129 #[.val (.int sel), .val (.int a), .val (.int b), .val (.int c), .val (.int d), .val (.int (0 : Int32)), .val (.int s0), .val (.int s1), .val (.int s2), .val (.ref sa), .val (.ref va), .unset, .unset] at_127 rfl rfl rfl ?_
  refine Go.new 132 (hw _ (List.mem_of_getElem? (i := 2) rfl)) (hw _ (List.mem_of_getElem? (i := 3) rfl)) (hw _ (List.mem_of_getElem? (i := 4) rfl)) at_129 rfl (by decide) (by decide) ?_
  intro h3 o E3 g3 g3' no X3 D3
  have F3 : Fld Z h3 o "com/example/mardec/mardec/explicit/ReducedModel" "transitions" "Lcom/example/mardec/mardec/explicit/Transitions;" .null := D3 (Or.inr (hw _ (List.mem_of_getElem? (i := 12) rfl))) (ty := .object "com/example/mardec/mardec/explicit/Transitions") (by decide)
  have G3 : Fld Z h3 o "com/example/mardec/mardec/explicit/ReducedModel" "states" "[I" .null := D3 (Or.inr (hw _ (List.mem_of_getElem? (i := 14) rfl))) (ty := .array .int) (by decide)
  have hso : sa ≠ o := Nat.ne_of_lt (Nat.lt_of_lt_of_le A1.lt g3)
  have hvo : va ≠ o := Nat.ne_of_lt (Nat.lt_of_lt_of_le A2.lt g3)
  replace A1 := A1.ext E3
  replace A2 := A2.ext E3
  refine Go.dup 133 at_132 rfl rfl ?_
  refine Go.aconstNull 134 at_133 rfl ?_
  refine Go.aload 136 at_134 rfl rfl rfl ?_
  refine Go.callN 139 [.null, (.ref sa)] [(.ref o)] rfl (hw _ (List.mem_of_getElem? (i := 5) rfl)) (hw _ (List.mem_of_getElem? (i := 6) rfl)) (hw _ (List.mem_of_getElem? (i := 7) rfl)) (hw _ (List.mem_of_getElem? (i := 4) rfl)) (by decide) pn_1 pd_2 rfl (ef_1_ANA o sa) (init_go l Z a0 hw X3 F3 G3 no) rfl rfl (by decide) (leB rfl) (by decide) (by decide) at_136 rfl ?_
  rintro v h4 ⟨rfl, K4, X4, F4⟩
  have H : RM Z h4 o sa va [] [FP.i2d a, FP.i2d b, FP.i2d c, FP.i2d d] := ⟨X4, F4, A1.keep K4 (ninS hso nin0), A2.keep K4 (ninS hvo nin0)⟩
  refine Go.astore 141 #[.val (.int sel), .val (.int a), .val (.int b), .val (.int c), .val (.int d), .val (.int (0 : Int32)), .val (.int s0), .val (.int s1), .val (.int s2), .val (.ref sa), .val (.ref va), .val (.ref o), .unset] at_139 rfl rfl rfl ?_
  refine Go.aload 143 at_141 rfl rfl rfl ?_
  refine Go.aload 145 at_143 rfl rfl rfl ?_
  refine Go.callV 148 [(.ref va)] [] (hw _ (List.mem_of_getElem? (i := 15) rfl)) (hw _ (List.mem_of_getElem? (i := 16) rfl)) (hw _ (List.mem_of_getElem? (i := 18) rfl)) (hw _ (List.mem_of_getElem? (i := 17) rfl)) (hw _ (List.mem_of_getElem? (i := 19) rfl)) (hw _ (List.mem_of_getElem? (i := 4) rfl)) (by decide) pn_1 pd_4 rfl H.1 (ef_3_AA o va) (restrict_go l Z a0 hw H (k := 0) (kk := 0) (xs := []) (by decide) rfl rfl (fun j hj => absurd hj (by omega)) (by decide)) rfl rfl (by decide) (leB rfl) (by decide) (by decide) at_145 rfl ?_
  rintro _ h5 ⟨r, rfl, nr, hrv, A5, V5⟩
  have A5 : ArD Z h5 r [4607182418800017408, 0] := A5
  refine Go.astore 150 #[.val (.int sel), .val (.int a), .val (.int b), .val (.int c), .val (.int d), .val (.int (0 : Int32)), .val (.int s0), .val (.int s1), .val (.int s2), .val (.ref sa), .val (.ref va), .val (.ref o), .val (.ref r)] at_148 rfl rfl rfl ?_
  refine Go.aload 152 at_150 rfl rfl rfl ?_
  refine Go.aload 154 at_152 rfl rfl rfl ?_
  refine Go.acmp 159 157 at_154 (by decide) (by decide) rfl rfl rfl (fun _ => ?_) (fun q => absurd q (by simp [XT.acmp, hrv]))
  refine Go.aload 161 at_159 rfl rfl rfl ?_
  refine Go.alen 162 (2 : Int32) A5 rfl at_161 rfl ?_
  refine Go.iload 164 at_162 rfl rfl ?_
  refine Go.iconst 165 (2 : Int32) at_164 rfl (by decide) ?_
  refine Go.iadd 166 (2 : Int32) at_165 rfl (by decide) ?_
  refine Go.icmpT 171 at_166 (by decide) (by decide) (show (2 : Int) = (2 : Int) from by decide) ?_
  refine Go.iload 173 at_171 rfl rfl ?_
  refine Go.iconst 174 (1 : Int32) at_173 rfl (by decide) ?_
  refine Go.icmpT 197 at_174 (by decide) (by decide) (show (0 : Int) < (1 : Int) from by decide) ?_
  refine Go.iload 199 at_197 rfl rfl ?_
  refine Go.iconst 200 (2 : Int32) at_199 rfl (by decide) ?_
  refine Go.icmpT 223 at_200 (by decide) (by decide) (show (0 : Int) < (2 : Int) from by decide) ?_
  refine Go.iload 225 at_223 rfl rfl ?_
  refine Go.iconst 226 (3 : Int32) at_225 rfl (by decide) ?_
  refine Go.icmpT 249 at_226 (by decide) (by decide) (show (0 : Int) < (3 : Int) from by decide) ?_
  refine Go.aload 251 at_249 rfl rfl rfl ?_
  refine Go.iload 253 at_251 rfl rfl ?_
  refine Go.daload 254 A5 (i := 0) (by decide) rfl at_253 rfl ?_
  refine Go.dconst1 255 (4607182418800017408 : UInt64) at_254 rfl rfl ?_
  refine Go.dcmp 256 (0 : Int32) at_255 rfl (dcmpV_self (dint_nn FP.Core.dint_one) _) ?_
  refine Go.ifCT 261 at_256 (by decide) (by decide) (show (0 : Int) = 0 from by decide) ?_
  refine Go.aload 263 at_261 rfl rfl rfl ?_
  refine Go.iload 265 at_263 rfl rfl ?_
  refine Go.iconst 266 (1 : Int32) at_265 rfl (by decide) ?_
  refine Go.iadd 267 (1 : Int32) at_266 rfl (by decide) ?_
  refine Go.daload 268 A5 (i := 1) (by decide) rfl at_267 rfl ?_
  refine Go.dconst0 269 (0 : UInt64) at_268 rfl rfl ?_
  refine Go.dcmp 270 (0 : Int32) at_269 rfl (dcmpV_self (dint_nn dint_zero) _) ?_
  refine Go.ifCT 275 at_270 (by decide) (by decide) (show (0 : Int) = 0 from by decide) ?_
  refine Go.aload 277 at_275 rfl rfl rfl ?_
  refine Go.iconst 278 (0 : Int32) at_277 rfl (by decide) ?_
  refine Go.daload 279 V5 (i := 0) (by decide) rfl at_278 rfl ?_
  refine Go.iloadN 280 at_279 rfl rfl ?_
  refine Go.i2d 281 (FP.i2d a) at_280 rfl rfl ?_
  refine Go.dcmp 282 (0 : Int32) at_281 rfl (dcmpV_self (dint_nn (FP.Core.i2d_int _)) _) ?_
  refine Go.ifCF 285 at_282 rfl (show (0 : Int) = 0 from by decide) ?_
  refine Go.aload 287 at_285 rfl rfl rfl ?_
  refine Go.iconst 288 (1 : Int32) at_287 rfl (by decide) ?_
  refine Go.daload 289 V5 (i := 1) (by decide) rfl at_288 rfl ?_
  refine Go.iloadN 290 at_289 rfl rfl ?_
  refine Go.i2d 291 (FP.i2d b) at_290 rfl rfl ?_
  refine Go.dcmp 292 (0 : Int32) at_291 rfl (dcmpV_self (dint_nn (FP.Core.i2d_int _)) _) ?_
  refine Go.ifCF 295 at_292 rfl (show (0 : Int) = 0 from by decide) ?_
  refine Go.aload 297 at_295 rfl rfl rfl ?_
  refine Go.iconst 298 (2 : Int32) at_297 rfl (by decide) ?_
  refine Go.daload 299 V5 (i := 2) (by decide) rfl at_298 rfl ?_
  refine Go.iloadN 300 at_299 rfl rfl ?_
  refine Go.i2d 301 (FP.i2d c) at_300 rfl rfl ?_
  refine Go.dcmp 302 (0 : Int32) at_301 rfl (dcmpV_self (dint_nn (FP.Core.i2d_int _)) _) ?_
  refine Go.ifCF 305 at_302 rfl (show (0 : Int) = 0 from by decide) ?_
  refine Go.aload 307 at_305 rfl rfl rfl ?_
  refine Go.iconst 308 (3 : Int32) at_307 rfl (by decide) ?_
  refine Go.daload 309 V5 (i := 3) (by decide) rfl at_308 rfl ?_
  refine Go.iload 311 at_309 rfl rfl ?_
  refine Go.i2d 312 (FP.i2d d) at_311 rfl rfl ?_
  refine Go.dcmp 313 (0 : Int32) at_312 rfl (dcmpV_self (dint_nn (FP.Core.i2d_int _)) _) ?_
  refine Go.ifCT 318 at_313 (by decide) (by decide) (show (0 : Int) = 0 from by decide) ?_
  refine Go.iconst 319 (1 : Int32) at_318 rfl (by decide) ?_
  exact Go.zret at_319 rfl (Or.inr rfl) (by decide) (by decide) rfl
set_option maxRecDepth 65536 in
set_option maxHeartbeats 40000000 in
theorem law_1 (l : Launch) (Z : State) (a0 : Array Value) (hw : ∀ d ∈ tables_1, d.before a0 Z = true) (sel a b c d : Int32) (hn : sel &&& 3 = 1) {h : Heap} {n0 : Nat} : Go l Z room_1 (x, code, maxLocals, ret) n0 Q1 h 0 0 0 #[.val (.int sel), .val (.int a), .val (.int b), .val (.int c), .val (.int d), .unset, .unset, .unset, .unset, .unset, .unset, .unset, .unset] [] := by
  obtain ⟨s0, hs0⟩ : ∃ z : Int32, XT.ushr sel 2 &&& 3 = z := ⟨_, rfl⟩
  obtain ⟨t0, ht0, it0⟩ := and_nat (XT.ushr sel 2) 3 (by decide)
  replace it0 : s0.toInt = (t0 : Int) := by rw [← hs0]; exact it0
  obtain ⟨x0, hx0⟩ := ex4 a b c d ht0
  obtain ⟨s1, hs1⟩ : ∃ z : Int32, XT.ushr sel 4 &&& 3 = z := ⟨_, rfl⟩
  obtain ⟨t1, ht1, it1⟩ := and_nat (XT.ushr sel 4) 3 (by decide)
  replace it1 : s1.toInt = (t1 : Int) := by rw [← hs1]; exact it1
  obtain ⟨x1, hx1⟩ := ex4 a b c d ht1
  obtain ⟨s2, hs2⟩ : ∃ z : Int32, XT.ushr sel 6 &&& 3 = z := ⟨_, rfl⟩
  obtain ⟨t2, ht2, it2⟩ := and_nat (XT.ushr sel 6) 3 (by decide)
  replace it2 : s2.toInt = (t2 : Int) := by rw [← hs2]; exact it2
  obtain ⟨x2, hx2⟩ := ex4 a b c d ht2
  refine Go.iloadN 1 at_0 rfl rfl ?_
  refine Go.iconst 2 (3 : Int32) at_1 rfl (by decide) ?_
  refine Go.iand 3 (1 : Int32) at_2 rfl hn ?_
  refine Go.istore 5 #[.val (.int sel), .val (.int a), .val (.int b), .val (.int c), .val (.int d), .val (.int (1 : Int32)), .unset, .unset, .unset, .unset, .unset, .unset, .unset] at_3 rfl rfl ?_
  refine Go.iloadN 6 at_5 rfl rfl ?_
  refine Go.iconst 7 (2 : Int32) at_6 rfl (by decide) ?_
  refine Go.iushr 8 (XT.ushr sel (2 : Int32)) at_7 rfl rfl ?_
  refine Go.iconst 9 (3 : Int32) at_8 rfl (by decide) ?_
  refine Go.iand 10 s0 at_9 rfl hs0 ?_
  refine Go.istore 12 #[.val (.int sel), .val (.int a), .val (.int b), .val (.int c), .val (.int d), .val (.int (1 : Int32)), .val (.int s0), .unset, .unset, .unset, .unset, .unset, .unset] at_10 rfl rfl ?_
  refine Go.iloadN 13 at_12 rfl rfl ?_
  refine Go.iconst 14 (4 : Int32) at_13 rfl (by decide) ?_
  refine Go.iushr 15 (XT.ushr sel (4 : Int32)) at_14 rfl rfl ?_
  refine Go.iconst 16 (3 : Int32) at_15 rfl (by decide) ?_
  refine Go.iand 17 s1 at_16 rfl hs1 ?_
  refine Go.istore 19 #[.val (.int sel), .val (.int a), .val (.int b), .val (.int c), .val (.int d), .val (.int (1 : Int32)), .val (.int s0), .val (.int s1), .unset, .unset, .unset, .unset, .unset] at_17 rfl rfl ?_
  refine Go.iloadN 20 at_19 rfl rfl ?_
  refine Go.bipush 22 (6 : Int32) at_20 rfl (by decide) ?_
  refine Go.iushr 23 (XT.ushr sel (6 : Int32)) at_22 rfl rfl ?_
  refine Go.iconst 24 (3 : Int32) at_23 rfl (by decide) ?_
  refine Go.iand 25 s2 at_24 rfl hs2 ?_
  refine Go.istore 27 #[.val (.int sel), .val (.int a), .val (.int b), .val (.int c), .val (.int d), .val (.int (1 : Int32)), .val (.int s0), .val (.int s1), .val (.int s2), .unset, .unset, .unset, .unset] at_25 rfl rfl ?_
  refine Go.iload 29 at_27 rfl rfl ?_
  refine Go.ifCT 40 at_29 (by decide) (by decide) (show (1 : Int) ≠ 0 from by decide) ?_
  refine Go.iload 42 at_40 rfl rfl ?_
  refine Go.iconst 43 (1 : Int32) at_42 rfl (by decide) ?_
  refine Go.icmpF 46 at_43 rfl (show (1 : Int) = (1 : Int) from by decide) ?_
  refine Go.iconst 47 (1 : Int32) at_46 rfl (by decide) ?_
  refine Go.newI 49 1 (hw _ (List.mem_of_getElem? (i := 0) rfl)) (i := 1) (by decide) (by decide) (by decide) at_47 rfl (by decide) (by decide) ?_
  intro h1 sa E1 g1 ns A1
  have A1 : ArI Z h1 sa [0] := A1
  refine Go.dup 50 at_49 rfl rfl ?_
  refine Go.iconst 51 (0 : Int32) at_50 rfl (by decide) ?_
  refine Go.iload 53 at_51 rfl rfl ?_
  refine Go.iastore 54 A1 (i := 0) (by decide) (by simp) ns at_53 rfl ?_
  intro h1_0 K1_0 A1_0
  have A1 : ArI Z h1_0 sa [s0] := A1_0
  refine Go.astore 56 #[.val (.int sel), .val (.int a), .val (.int b), .val (.int c), .val (.int d), .val (.int (1 : Int32)), .val (.int s0), .val (.int s1), .val (.int s2), .val (.ref sa), .unset, .unset, .unset] at_54 rfl rfl rfl ?_
  refine Go.goto 103 at_56 (by decide) (by decide) ?_
  refine Go.iconst 104 (4 : Int32) at_103 rfl (by decide) ?_
  refine Go.newD 106 4 (hw _ (List.mem_of_getElem? (i := 1) rfl)) (i := 4) (by decide) (by decide) (by decide) at_104 rfl (by decide) (by decide) ?_
  intro h2 va E2 g2 nv A2
  have A2 : ArD Z h2 va [0, 0, 0, 0] := A2
  have hsv : sa ≠ va := Nat.ne_of_lt (Nat.lt_of_lt_of_le A1.lt g2)
  replace A1 := A1.ext E2
  refine Go.dup 107 at_106 rfl rfl ?_
  refine Go.iconst 108 (0 : Int32) at_107 rfl (by decide) ?_
  refine Go.iloadN 109 at_108 rfl rfl ?_
  refine Go.i2d 110 (FP.i2d a) at_109 rfl rfl ?_
  refine Go.dastore 111 A2 (i := 0) (by decide) (by simp) nv at_110 rfl ?_
  intro h2_0 K2_0 A2_0
  have A2 : ArD Z h2_0 va [FP.i2d a, 0, 0, 0] := A2_0
  replace A1 := A1.keep K2_0 (ninS hsv nin0)
  refine Go.dup 112 at_111 rfl rfl ?_
  refine Go.iconst 113 (1 : Int32) at_112 rfl (by decide) ?_
  refine Go.iloadN 114 at_113 rfl rfl ?_
  refine Go.i2d 115 (FP.i2d b) at_114 rfl rfl ?_
  refine Go.dastore 116 A2 (i := 1) (by decide) (by simp) nv at_115 rfl ?_
  intro h2_1 K2_1 A2_1
  have A2 : ArD Z h2_1 va [FP.i2d a, FP.i2d b, 0, 0] := A2_1
  replace A1 := A1.keep K2_1 (ninS hsv nin0)
  refine Go.dup 117 at_116 rfl rfl ?_
  refine Go.iconst 118 (2 : Int32) at_117 rfl (by decide) ?_
  refine Go.iloadN 119 at_118 rfl rfl ?_
  refine Go.i2d 120 (FP.i2d c) at_119 rfl rfl ?_
  refine Go.dastore 121 A2 (i := 2) (by decide) (by simp) nv at_120 rfl ?_
  intro h2_2 K2_2 A2_2
  have A2 : ArD Z h2_2 va [FP.i2d a, FP.i2d b, FP.i2d c, 0] := A2_2
  replace A1 := A1.keep K2_2 (ninS hsv nin0)
  refine Go.dup 122 at_121 rfl rfl ?_
  refine Go.iconst 123 (3 : Int32) at_122 rfl (by decide) ?_
  refine Go.iload 125 at_123 rfl rfl ?_
  refine Go.i2d 126 (FP.i2d d) at_125 rfl rfl ?_
  refine Go.dastore 127 A2 (i := 3) (by decide) (by simp) nv at_126 rfl ?_
  intro h2_3 K2_3 A2_3
  have A2 : ArD Z h2_3 va [FP.i2d a, FP.i2d b, FP.i2d c, FP.i2d d] := A2_3
  replace A1 := A1.keep K2_3 (ninS hsv nin0)
  refine Go.astore 129 #[.val (.int sel), .val (.int a), .val (.int b), .val (.int c), .val (.int d), .val (.int (1 : Int32)), .val (.int s0), .val (.int s1), .val (.int s2), .val (.ref sa), .val (.ref va), .unset, .unset] at_127 rfl rfl rfl ?_
  refine Go.new 132 (hw _ (List.mem_of_getElem? (i := 2) rfl)) (hw _ (List.mem_of_getElem? (i := 3) rfl)) (hw _ (List.mem_of_getElem? (i := 4) rfl)) at_129 rfl (by decide) (by decide) ?_
  intro h3 o E3 g3 g3' no X3 D3
  have F3 : Fld Z h3 o "com/example/mardec/mardec/explicit/ReducedModel" "transitions" "Lcom/example/mardec/mardec/explicit/Transitions;" .null := D3 (Or.inr (hw _ (List.mem_of_getElem? (i := 12) rfl))) (ty := .object "com/example/mardec/mardec/explicit/Transitions") (by decide)
  have G3 : Fld Z h3 o "com/example/mardec/mardec/explicit/ReducedModel" "states" "[I" .null := D3 (Or.inr (hw _ (List.mem_of_getElem? (i := 14) rfl))) (ty := .array .int) (by decide)
  have hso : sa ≠ o := Nat.ne_of_lt (Nat.lt_of_lt_of_le A1.lt g3)
  have hvo : va ≠ o := Nat.ne_of_lt (Nat.lt_of_lt_of_le A2.lt g3)
  replace A1 := A1.ext E3
  replace A2 := A2.ext E3
  refine Go.dup 133 at_132 rfl rfl ?_
  refine Go.aconstNull 134 at_133 rfl ?_
  refine Go.aload 136 at_134 rfl rfl rfl ?_
  refine Go.callN 139 [.null, (.ref sa)] [(.ref o)] rfl (hw _ (List.mem_of_getElem? (i := 5) rfl)) (hw _ (List.mem_of_getElem? (i := 6) rfl)) (hw _ (List.mem_of_getElem? (i := 7) rfl)) (hw _ (List.mem_of_getElem? (i := 4) rfl)) (by decide) pn_1 pd_2 rfl (ef_1_ANA o sa) (init_go l Z a0 hw X3 F3 G3 no) rfl rfl (by decide) (leB rfl) (by decide) (by decide) at_136 rfl ?_
  rintro v h4 ⟨rfl, K4, X4, F4⟩
  have H : RM Z h4 o sa va [s0] [FP.i2d a, FP.i2d b, FP.i2d c, FP.i2d d] := ⟨X4, F4, A1.keep K4 (ninS hso nin0), A2.keep K4 (ninS hvo nin0)⟩
  refine Go.astore 141 #[.val (.int sel), .val (.int a), .val (.int b), .val (.int c), .val (.int d), .val (.int (1 : Int32)), .val (.int s0), .val (.int s1), .val (.int s2), .val (.ref sa), .val (.ref va), .val (.ref o), .unset] at_139 rfl rfl rfl ?_
  refine Go.aload 143 at_141 rfl rfl rfl ?_
  refine Go.aload 145 at_143 rfl rfl rfl ?_
  have hr : ∀ j, j < 1 → ∃ s t x, ([s0] : List Int32)[j]? = some s ∧ s.toInt = ((t : Nat) : Int) ∧ ([FP.i2d a, FP.i2d b, FP.i2d c, FP.i2d d] : List UInt64)[t]? = some x ∧ ([x0] : List UInt64)[j]? = some x := by
    intro j hj
    obtain rfl : j = 0 := by omega
    · exact ⟨s0, t0, x0, rfl, it0, hx0, rfl⟩
  refine Go.callV 148 [(.ref va)] [] (hw _ (List.mem_of_getElem? (i := 15) rfl)) (hw _ (List.mem_of_getElem? (i := 16) rfl)) (hw _ (List.mem_of_getElem? (i := 18) rfl)) (hw _ (List.mem_of_getElem? (i := 17) rfl)) (hw _ (List.mem_of_getElem? (i := 19) rfl)) (hw _ (List.mem_of_getElem? (i := 4) rfl)) (by decide) pn_1 pd_4 rfl H.1 (ef_3_AA o va) (restrict_go l Z a0 hw H (k := 1) (kk := 1) (xs := [x0]) (by decide) rfl rfl hr (by decide)) rfl rfl (by decide) (leB rfl) (by decide) (by decide) at_145 rfl ?_
  rintro _ h5 ⟨r, rfl, nr, hrv, A5, V5⟩
  have A5 : ArD Z h5 r [x0, 4607182418800017408, 0] := A5
  refine Go.astore 150 #[.val (.int sel), .val (.int a), .val (.int b), .val (.int c), .val (.int d), .val (.int (1 : Int32)), .val (.int s0), .val (.int s1), .val (.int s2), .val (.ref sa), .val (.ref va), .val (.ref o), .val (.ref r)] at_148 rfl rfl rfl ?_
  refine Go.aload 152 at_150 rfl rfl rfl ?_
  refine Go.aload 154 at_152 rfl rfl rfl ?_
  refine Go.acmp 159 157 at_154 (by decide) (by decide) rfl rfl rfl (fun _ => ?_) (fun q => absurd q (by simp [XT.acmp, hrv]))
  refine Go.aload 161 at_159 rfl rfl rfl ?_
  refine Go.alen 162 (3 : Int32) A5 rfl at_161 rfl ?_
  refine Go.iload 164 at_162 rfl rfl ?_
  refine Go.iconst 165 (2 : Int32) at_164 rfl (by decide) ?_
  refine Go.iadd 166 (3 : Int32) at_165 rfl (by decide) ?_
  refine Go.icmpT 171 at_166 (by decide) (by decide) (show (3 : Int) = (3 : Int) from by decide) ?_
  refine Go.iload 173 at_171 rfl rfl ?_
  refine Go.iconst 174 (1 : Int32) at_173 rfl (by decide) ?_
  refine Go.icmpF 177 at_174 rfl (show (1 : Int) ≤ (1 : Int) from by decide) ?_
  refine Go.aload 179 at_177 rfl rfl rfl ?_
  refine Go.iconst 180 (0 : Int32) at_179 rfl (by decide) ?_
  refine Go.daload 181 A5 (i := 0) (by decide) rfl at_180 rfl ?_
  refine Go.iloadN 182 at_181 rfl rfl ?_
  refine Go.iloadN 183 at_182 rfl rfl ?_
  refine Go.iloadN 184 at_183 rfl rfl ?_
  refine Go.iload 186 at_184 rfl rfl ?_
  refine Go.iload 188 at_186 rfl rfl ?_
  refine Go.callS 191 [(.int a), (.int b), (.int c), (.int d), (.int s0)] [(.double x0)] (hw _ (List.mem_of_getElem? (i := 20) rfl)) (hw _ (List.mem_of_getElem? (i := 21) rfl)) (hw _ (List.mem_of_getElem? (i := 23) rfl)) (hw _ (List.mem_of_getElem? (i := 22) rfl)) (by decide) pn_6 pd_7 rfl (ef_4_IIIII a b c d s0) (pick_go l Z a b c d s0 it0 hx0) rfl rfl (by decide) (leB rfl) (by decide) (by decide) at_188 rfl ?_
  rintro _ _ ⟨rfl, rfl⟩
  refine Go.dcmp 192 (0 : Int32) at_191 rfl (dcmpV_self (nn4 hx0) _) ?_
  refine Go.ifCT 197 at_192 (by decide) (by decide) (show (0 : Int) = 0 from by decide) ?_
  refine Go.iload 199 at_197 rfl rfl ?_
  refine Go.iconst 200 (2 : Int32) at_199 rfl (by decide) ?_
  refine Go.icmpT 223 at_200 (by decide) (by decide) (show (1 : Int) < (2 : Int) from by decide) ?_
  refine Go.iload 225 at_223 rfl rfl ?_
  refine Go.iconst 226 (3 : Int32) at_225 rfl (by decide) ?_
  refine Go.icmpT 249 at_226 (by decide) (by decide) (show (1 : Int) < (3 : Int) from by decide) ?_
  refine Go.aload 251 at_249 rfl rfl rfl ?_
  refine Go.iload 253 at_251 rfl rfl ?_
  refine Go.daload 254 A5 (i := 1) (by decide) rfl at_253 rfl ?_
  refine Go.dconst1 255 (4607182418800017408 : UInt64) at_254 rfl rfl ?_
  refine Go.dcmp 256 (0 : Int32) at_255 rfl (dcmpV_self (dint_nn FP.Core.dint_one) _) ?_
  refine Go.ifCT 261 at_256 (by decide) (by decide) (show (0 : Int) = 0 from by decide) ?_
  refine Go.aload 263 at_261 rfl rfl rfl ?_
  refine Go.iload 265 at_263 rfl rfl ?_
  refine Go.iconst 266 (1 : Int32) at_265 rfl (by decide) ?_
  refine Go.iadd 267 (2 : Int32) at_266 rfl (by decide) ?_
  refine Go.daload 268 A5 (i := 2) (by decide) rfl at_267 rfl ?_
  refine Go.dconst0 269 (0 : UInt64) at_268 rfl rfl ?_
  refine Go.dcmp 270 (0 : Int32) at_269 rfl (dcmpV_self (dint_nn dint_zero) _) ?_
  refine Go.ifCT 275 at_270 (by decide) (by decide) (show (0 : Int) = 0 from by decide) ?_
  refine Go.aload 277 at_275 rfl rfl rfl ?_
  refine Go.iconst 278 (0 : Int32) at_277 rfl (by decide) ?_
  refine Go.daload 279 V5 (i := 0) (by decide) rfl at_278 rfl ?_
  refine Go.iloadN 280 at_279 rfl rfl ?_
  refine Go.i2d 281 (FP.i2d a) at_280 rfl rfl ?_
  refine Go.dcmp 282 (0 : Int32) at_281 rfl (dcmpV_self (dint_nn (FP.Core.i2d_int _)) _) ?_
  refine Go.ifCF 285 at_282 rfl (show (0 : Int) = 0 from by decide) ?_
  refine Go.aload 287 at_285 rfl rfl rfl ?_
  refine Go.iconst 288 (1 : Int32) at_287 rfl (by decide) ?_
  refine Go.daload 289 V5 (i := 1) (by decide) rfl at_288 rfl ?_
  refine Go.iloadN 290 at_289 rfl rfl ?_
  refine Go.i2d 291 (FP.i2d b) at_290 rfl rfl ?_
  refine Go.dcmp 292 (0 : Int32) at_291 rfl (dcmpV_self (dint_nn (FP.Core.i2d_int _)) _) ?_
  refine Go.ifCF 295 at_292 rfl (show (0 : Int) = 0 from by decide) ?_
  refine Go.aload 297 at_295 rfl rfl rfl ?_
  refine Go.iconst 298 (2 : Int32) at_297 rfl (by decide) ?_
  refine Go.daload 299 V5 (i := 2) (by decide) rfl at_298 rfl ?_
  refine Go.iloadN 300 at_299 rfl rfl ?_
  refine Go.i2d 301 (FP.i2d c) at_300 rfl rfl ?_
  refine Go.dcmp 302 (0 : Int32) at_301 rfl (dcmpV_self (dint_nn (FP.Core.i2d_int _)) _) ?_
  refine Go.ifCF 305 at_302 rfl (show (0 : Int) = 0 from by decide) ?_
  refine Go.aload 307 at_305 rfl rfl rfl ?_
  refine Go.iconst 308 (3 : Int32) at_307 rfl (by decide) ?_
  refine Go.daload 309 V5 (i := 3) (by decide) rfl at_308 rfl ?_
  refine Go.iload 311 at_309 rfl rfl ?_
  refine Go.i2d 312 (FP.i2d d) at_311 rfl rfl ?_
  refine Go.dcmp 313 (0 : Int32) at_312 rfl (dcmpV_self (dint_nn (FP.Core.i2d_int _)) _) ?_
  refine Go.ifCT 318 at_313 (by decide) (by decide) (show (0 : Int) = 0 from by decide) ?_
  refine Go.iconst 319 (1 : Int32) at_318 rfl (by decide) ?_
  exact Go.zret at_319 rfl (Or.inr rfl) (by decide) (by decide) rfl
set_option maxRecDepth 65536 in
set_option maxHeartbeats 40000000 in
theorem law_2 (l : Launch) (Z : State) (a0 : Array Value) (hw : ∀ d ∈ tables_1, d.before a0 Z = true) (sel a b c d : Int32) (hn : sel &&& 3 = 2) {h : Heap} {n0 : Nat} : Go l Z room_1 (x, code, maxLocals, ret) n0 Q1 h 0 0 0 #[.val (.int sel), .val (.int a), .val (.int b), .val (.int c), .val (.int d), .unset, .unset, .unset, .unset, .unset, .unset, .unset, .unset] [] := by
  obtain ⟨s0, hs0⟩ : ∃ z : Int32, XT.ushr sel 2 &&& 3 = z := ⟨_, rfl⟩
  obtain ⟨t0, ht0, it0⟩ := and_nat (XT.ushr sel 2) 3 (by decide)
  replace it0 : s0.toInt = (t0 : Int) := by rw [← hs0]; exact it0
  obtain ⟨x0, hx0⟩ := ex4 a b c d ht0
  obtain ⟨s1, hs1⟩ : ∃ z : Int32, XT.ushr sel 4 &&& 3 = z := ⟨_, rfl⟩
  obtain ⟨t1, ht1, it1⟩ := and_nat (XT.ushr sel 4) 3 (by decide)
  replace it1 : s1.toInt = (t1 : Int) := by rw [← hs1]; exact it1
  obtain ⟨x1, hx1⟩ := ex4 a b c d ht1
  obtain ⟨s2, hs2⟩ : ∃ z : Int32, XT.ushr sel 6 &&& 3 = z := ⟨_, rfl⟩
  obtain ⟨t2, ht2, it2⟩ := and_nat (XT.ushr sel 6) 3 (by decide)
  replace it2 : s2.toInt = (t2 : Int) := by rw [← hs2]; exact it2
  obtain ⟨x2, hx2⟩ := ex4 a b c d ht2
  refine Go.iloadN 1 at_0 rfl rfl ?_
  refine Go.iconst 2 (3 : Int32) at_1 rfl (by decide) ?_
  refine Go.iand 3 (2 : Int32) at_2 rfl hn ?_
  refine Go.istore 5 #[.val (.int sel), .val (.int a), .val (.int b), .val (.int c), .val (.int d), .val (.int (2 : Int32)), .unset, .unset, .unset, .unset, .unset, .unset, .unset] at_3 rfl rfl ?_
  refine Go.iloadN 6 at_5 rfl rfl ?_
  refine Go.iconst 7 (2 : Int32) at_6 rfl (by decide) ?_
  refine Go.iushr 8 (XT.ushr sel (2 : Int32)) at_7 rfl rfl ?_
  refine Go.iconst 9 (3 : Int32) at_8 rfl (by decide) ?_
  refine Go.iand 10 s0 at_9 rfl hs0 ?_
  refine Go.istore 12 #[.val (.int sel), .val (.int a), .val (.int b), .val (.int c), .val (.int d), .val (.int (2 : Int32)), .val (.int s0), .unset, .unset, .unset, .unset, .unset, .unset] at_10 rfl rfl ?_
  refine Go.iloadN 13 at_12 rfl rfl ?_
  refine Go.iconst 14 (4 : Int32) at_13 rfl (by decide) ?_
  refine Go.iushr 15 (XT.ushr sel (4 : Int32)) at_14 rfl rfl ?_
  refine Go.iconst 16 (3 : Int32) at_15 rfl (by decide) ?_
  refine Go.iand 17 s1 at_16 rfl hs1 ?_
  refine Go.istore 19 #[.val (.int sel), .val (.int a), .val (.int b), .val (.int c), .val (.int d), .val (.int (2 : Int32)), .val (.int s0), .val (.int s1), .unset, .unset, .unset, .unset, .unset] at_17 rfl rfl ?_
  refine Go.iloadN 20 at_19 rfl rfl ?_
  refine Go.bipush 22 (6 : Int32) at_20 rfl (by decide) ?_
  refine Go.iushr 23 (XT.ushr sel (6 : Int32)) at_22 rfl rfl ?_
  refine Go.iconst 24 (3 : Int32) at_23 rfl (by decide) ?_
  refine Go.iand 25 s2 at_24 rfl hs2 ?_
  refine Go.istore 27 #[.val (.int sel), .val (.int a), .val (.int b), .val (.int c), .val (.int d), .val (.int (2 : Int32)), .val (.int s0), .val (.int s1), .val (.int s2), .unset, .unset, .unset, .unset] at_25 rfl rfl ?_
  refine Go.iload 29 at_27 rfl rfl ?_
  refine Go.ifCT 40 at_29 (by decide) (by decide) (show (2 : Int) ≠ 0 from by decide) ?_
  refine Go.iload 42 at_40 rfl rfl ?_
  refine Go.iconst 43 (1 : Int32) at_42 rfl (by decide) ?_
  refine Go.icmpT 59 at_43 (by decide) (by decide) (show (2 : Int) ≠ (1 : Int) from by decide) ?_
  refine Go.iload 61 at_59 rfl rfl ?_
  refine Go.iconst 62 (2 : Int32) at_61 rfl (by decide) ?_
  refine Go.icmpF 65 at_62 rfl (show (2 : Int) = (2 : Int) from by decide) ?_
  refine Go.iconst 66 (2 : Int32) at_65 rfl (by decide) ?_
  refine Go.newI 68 2 (hw _ (List.mem_of_getElem? (i := 0) rfl)) (i := 2) (by decide) (by decide) (by decide) at_66 rfl (by decide) (by decide) ?_
  intro h1 sa E1 g1 ns A1
  have A1 : ArI Z h1 sa [0, 0] := A1
  refine Go.dup 69 at_68 rfl rfl ?_
  refine Go.iconst 70 (0 : Int32) at_69 rfl (by decide) ?_
  refine Go.iload 72 at_70 rfl rfl ?_
  refine Go.iastore 73 A1 (i := 0) (by decide) (by simp) ns at_72 rfl ?_
  intro h1_0 K1_0 A1_0
  have A1 : ArI Z h1_0 sa [s0, 0] := A1_0
  refine Go.dup 74 at_73 rfl rfl ?_
  refine Go.iconst 75 (1 : Int32) at_74 rfl (by decide) ?_
  refine Go.iload 77 at_75 rfl rfl ?_
  refine Go.iastore 78 A1 (i := 1) (by decide) (by simp) ns at_77 rfl ?_
  intro h1_1 K1_1 A1_1
  have A1 : ArI Z h1_1 sa [s0, s1] := A1_1
  refine Go.astore 80 #[.val (.int sel), .val (.int a), .val (.int b), .val (.int c), .val (.int d), .val (.int (2 : Int32)), .val (.int s0), .val (.int s1), .val (.int s2), .val (.ref sa), .unset, .unset, .unset] at_78 rfl rfl rfl ?_
  refine Go.goto 103 at_80 (by decide) (by decide) ?_
  refine Go.iconst 104 (4 : Int32) at_103 rfl (by decide) ?_
  refine Go.newD 106 4 (hw _ (List.mem_of_getElem? (i := 1) rfl)) (i := 4) (by decide) (by decide) (by decide) at_104 rfl (by decide) (by decide) ?_
  intro h2 va E2 g2 nv A2
  have A2 : ArD Z h2 va [0, 0, 0, 0] := A2
  have hsv : sa ≠ va := Nat.ne_of_lt (Nat.lt_of_lt_of_le A1.lt g2)
  replace A1 := A1.ext E2
  refine Go.dup 107 at_106 rfl rfl ?_
  refine Go.iconst 108 (0 : Int32) at_107 rfl (by decide) ?_
  refine Go.iloadN 109 at_108 rfl rfl ?_
  refine Go.i2d 110 (FP.i2d a) at_109 rfl rfl ?_
  refine Go.dastore 111 A2 (i := 0) (by decide) (by simp) nv at_110 rfl ?_
  intro h2_0 K2_0 A2_0
  have A2 : ArD Z h2_0 va [FP.i2d a, 0, 0, 0] := A2_0
  replace A1 := A1.keep K2_0 (ninS hsv nin0)
  refine Go.dup 112 at_111 rfl rfl ?_
  refine Go.iconst 113 (1 : Int32) at_112 rfl (by decide) ?_
  refine Go.iloadN 114 at_113 rfl rfl ?_
  refine Go.i2d 115 (FP.i2d b) at_114 rfl rfl ?_
  refine Go.dastore 116 A2 (i := 1) (by decide) (by simp) nv at_115 rfl ?_
  intro h2_1 K2_1 A2_1
  have A2 : ArD Z h2_1 va [FP.i2d a, FP.i2d b, 0, 0] := A2_1
  replace A1 := A1.keep K2_1 (ninS hsv nin0)
  refine Go.dup 117 at_116 rfl rfl ?_
  refine Go.iconst 118 (2 : Int32) at_117 rfl (by decide) ?_
  refine Go.iloadN 119 at_118 rfl rfl ?_
  refine Go.i2d 120 (FP.i2d c) at_119 rfl rfl ?_
  refine Go.dastore 121 A2 (i := 2) (by decide) (by simp) nv at_120 rfl ?_
  intro h2_2 K2_2 A2_2
  have A2 : ArD Z h2_2 va [FP.i2d a, FP.i2d b, FP.i2d c, 0] := A2_2
  replace A1 := A1.keep K2_2 (ninS hsv nin0)
  refine Go.dup 122 at_121 rfl rfl ?_
  refine Go.iconst 123 (3 : Int32) at_122 rfl (by decide) ?_
  refine Go.iload 125 at_123 rfl rfl ?_
  refine Go.i2d 126 (FP.i2d d) at_125 rfl rfl ?_
  refine Go.dastore 127 A2 (i := 3) (by decide) (by simp) nv at_126 rfl ?_
  intro h2_3 K2_3 A2_3
  have A2 : ArD Z h2_3 va [FP.i2d a, FP.i2d b, FP.i2d c, FP.i2d d] := A2_3
  replace A1 := A1.keep K2_3 (ninS hsv nin0)
  refine Go.astore 129 #[.val (.int sel), .val (.int a), .val (.int b), .val (.int c), .val (.int d), .val (.int (2 : Int32)), .val (.int s0), .val (.int s1), .val (.int s2), .val (.ref sa), .val (.ref va), .unset, .unset] at_127 rfl rfl rfl ?_
  refine Go.new 132 (hw _ (List.mem_of_getElem? (i := 2) rfl)) (hw _ (List.mem_of_getElem? (i := 3) rfl)) (hw _ (List.mem_of_getElem? (i := 4) rfl)) at_129 rfl (by decide) (by decide) ?_
  intro h3 o E3 g3 g3' no X3 D3
  have F3 : Fld Z h3 o "com/example/mardec/mardec/explicit/ReducedModel" "transitions" "Lcom/example/mardec/mardec/explicit/Transitions;" .null := D3 (Or.inr (hw _ (List.mem_of_getElem? (i := 12) rfl))) (ty := .object "com/example/mardec/mardec/explicit/Transitions") (by decide)
  have G3 : Fld Z h3 o "com/example/mardec/mardec/explicit/ReducedModel" "states" "[I" .null := D3 (Or.inr (hw _ (List.mem_of_getElem? (i := 14) rfl))) (ty := .array .int) (by decide)
  have hso : sa ≠ o := Nat.ne_of_lt (Nat.lt_of_lt_of_le A1.lt g3)
  have hvo : va ≠ o := Nat.ne_of_lt (Nat.lt_of_lt_of_le A2.lt g3)
  replace A1 := A1.ext E3
  replace A2 := A2.ext E3
  refine Go.dup 133 at_132 rfl rfl ?_
  refine Go.aconstNull 134 at_133 rfl ?_
  refine Go.aload 136 at_134 rfl rfl rfl ?_
  refine Go.callN 139 [.null, (.ref sa)] [(.ref o)] rfl (hw _ (List.mem_of_getElem? (i := 5) rfl)) (hw _ (List.mem_of_getElem? (i := 6) rfl)) (hw _ (List.mem_of_getElem? (i := 7) rfl)) (hw _ (List.mem_of_getElem? (i := 4) rfl)) (by decide) pn_1 pd_2 rfl (ef_1_ANA o sa) (init_go l Z a0 hw X3 F3 G3 no) rfl rfl (by decide) (leB rfl) (by decide) (by decide) at_136 rfl ?_
  rintro v h4 ⟨rfl, K4, X4, F4⟩
  have H : RM Z h4 o sa va [s0, s1] [FP.i2d a, FP.i2d b, FP.i2d c, FP.i2d d] := ⟨X4, F4, A1.keep K4 (ninS hso nin0), A2.keep K4 (ninS hvo nin0)⟩
  refine Go.astore 141 #[.val (.int sel), .val (.int a), .val (.int b), .val (.int c), .val (.int d), .val (.int (2 : Int32)), .val (.int s0), .val (.int s1), .val (.int s2), .val (.ref sa), .val (.ref va), .val (.ref o), .unset] at_139 rfl rfl rfl ?_
  refine Go.aload 143 at_141 rfl rfl rfl ?_
  refine Go.aload 145 at_143 rfl rfl rfl ?_
  have hr : ∀ j, j < 2 → ∃ s t x, ([s0, s1] : List Int32)[j]? = some s ∧ s.toInt = ((t : Nat) : Int) ∧ ([FP.i2d a, FP.i2d b, FP.i2d c, FP.i2d d] : List UInt64)[t]? = some x ∧ ([x0, x1] : List UInt64)[j]? = some x := by
    intro j hj
    obtain rfl | rfl : j = 0 ∨ j = 1 := by omega
    · exact ⟨s0, t0, x0, rfl, it0, hx0, rfl⟩
    · exact ⟨s1, t1, x1, rfl, it1, hx1, rfl⟩
  refine Go.callV 148 [(.ref va)] [] (hw _ (List.mem_of_getElem? (i := 15) rfl)) (hw _ (List.mem_of_getElem? (i := 16) rfl)) (hw _ (List.mem_of_getElem? (i := 18) rfl)) (hw _ (List.mem_of_getElem? (i := 17) rfl)) (hw _ (List.mem_of_getElem? (i := 19) rfl)) (hw _ (List.mem_of_getElem? (i := 4) rfl)) (by decide) pn_1 pd_4 rfl H.1 (ef_3_AA o va) (restrict_go l Z a0 hw H (k := 2) (kk := 2) (xs := [x0, x1]) (by decide) rfl rfl hr (by decide)) rfl rfl (by decide) (leB rfl) (by decide) (by decide) at_145 rfl ?_
  rintro _ h5 ⟨r, rfl, nr, hrv, A5, V5⟩
  have A5 : ArD Z h5 r [x0, x1, 4607182418800017408, 0] := A5
  refine Go.astore 150 #[.val (.int sel), .val (.int a), .val (.int b), .val (.int c), .val (.int d), .val (.int (2 : Int32)), .val (.int s0), .val (.int s1), .val (.int s2), .val (.ref sa), .val (.ref va), .val (.ref o), .val (.ref r)] at_148 rfl rfl rfl ?_
  refine Go.aload 152 at_150 rfl rfl rfl ?_
  refine Go.aload 154 at_152 rfl rfl rfl ?_
  refine Go.acmp 159 157 at_154 (by decide) (by decide) rfl rfl rfl (fun _ => ?_) (fun q => absurd q (by simp [XT.acmp, hrv]))
  refine Go.aload 161 at_159 rfl rfl rfl ?_
  refine Go.alen 162 (4 : Int32) A5 rfl at_161 rfl ?_
  refine Go.iload 164 at_162 rfl rfl ?_
  refine Go.iconst 165 (2 : Int32) at_164 rfl (by decide) ?_
  refine Go.iadd 166 (4 : Int32) at_165 rfl (by decide) ?_
  refine Go.icmpT 171 at_166 (by decide) (by decide) (show (4 : Int) = (4 : Int) from by decide) ?_
  refine Go.iload 173 at_171 rfl rfl ?_
  refine Go.iconst 174 (1 : Int32) at_173 rfl (by decide) ?_
  refine Go.icmpF 177 at_174 rfl (show (1 : Int) ≤ (2 : Int) from by decide) ?_
  refine Go.aload 179 at_177 rfl rfl rfl ?_
  refine Go.iconst 180 (0 : Int32) at_179 rfl (by decide) ?_
  refine Go.daload 181 A5 (i := 0) (by decide) rfl at_180 rfl ?_
  refine Go.iloadN 182 at_181 rfl rfl ?_
  refine Go.iloadN 183 at_182 rfl rfl ?_
  refine Go.iloadN 184 at_183 rfl rfl ?_
  refine Go.iload 186 at_184 rfl rfl ?_
  refine Go.iload 188 at_186 rfl rfl ?_
  refine Go.callS 191 [(.int a), (.int b), (.int c), (.int d), (.int s0)] [(.double x0)] (hw _ (List.mem_of_getElem? (i := 20) rfl)) (hw _ (List.mem_of_getElem? (i := 21) rfl)) (hw _ (List.mem_of_getElem? (i := 23) rfl)) (hw _ (List.mem_of_getElem? (i := 22) rfl)) (by decide) pn_6 pd_7 rfl (ef_4_IIIII a b c d s0) (pick_go l Z a b c d s0 it0 hx0) rfl rfl (by decide) (leB rfl) (by decide) (by decide) at_188 rfl ?_
  rintro _ _ ⟨rfl, rfl⟩
  refine Go.dcmp 192 (0 : Int32) at_191 rfl (dcmpV_self (nn4 hx0) _) ?_
  refine Go.ifCT 197 at_192 (by decide) (by decide) (show (0 : Int) = 0 from by decide) ?_
  refine Go.iload 199 at_197 rfl rfl ?_
  refine Go.iconst 200 (2 : Int32) at_199 rfl (by decide) ?_
  refine Go.icmpF 203 at_200 rfl (show (2 : Int) ≤ (2 : Int) from by decide) ?_
  refine Go.aload 205 at_203 rfl rfl rfl ?_
  refine Go.iconst 206 (1 : Int32) at_205 rfl (by decide) ?_
  refine Go.daload 207 A5 (i := 1) (by decide) rfl at_206 rfl ?_
  refine Go.iloadN 208 at_207 rfl rfl ?_
  refine Go.iloadN 209 at_208 rfl rfl ?_
  refine Go.iloadN 210 at_209 rfl rfl ?_
  refine Go.iload 212 at_210 rfl rfl ?_
  refine Go.iload 214 at_212 rfl rfl ?_
  refine Go.callS 217 [(.int a), (.int b), (.int c), (.int d), (.int s1)] [(.double x1)] (hw _ (List.mem_of_getElem? (i := 20) rfl)) (hw _ (List.mem_of_getElem? (i := 21) rfl)) (hw _ (List.mem_of_getElem? (i := 23) rfl)) (hw _ (List.mem_of_getElem? (i := 22) rfl)) (by decide) pn_6 pd_7 rfl (ef_4_IIIII a b c d s1) (pick_go l Z a b c d s1 it1 hx1) rfl rfl (by decide) (leB rfl) (by decide) (by decide) at_214 rfl ?_
  rintro _ _ ⟨rfl, rfl⟩
  refine Go.dcmp 218 (0 : Int32) at_217 rfl (dcmpV_self (nn4 hx1) _) ?_
  refine Go.ifCT 223 at_218 (by decide) (by decide) (show (0 : Int) = 0 from by decide) ?_
  refine Go.iload 225 at_223 rfl rfl ?_
  refine Go.iconst 226 (3 : Int32) at_225 rfl (by decide) ?_
  refine Go.icmpT 249 at_226 (by decide) (by decide) (show (2 : Int) < (3 : Int) from by decide) ?_
  refine Go.aload 251 at_249 rfl rfl rfl ?_
  refine Go.iload 253 at_251 rfl rfl ?_
  refine Go.daload 254 A5 (i := 2) (by decide) rfl at_253 rfl ?_
  refine Go.dconst1 255 (4607182418800017408 : UInt64) at_254 rfl rfl ?_
  refine Go.dcmp 256 (0 : Int32) at_255 rfl (dcmpV_self (dint_nn FP.Core.dint_one) _) ?_
  refine Go.ifCT 261 at_256 (by decide) (by decide) (show (0 : Int) = 0 from by decide) ?_
  refine Go.aload 263 at_261 rfl rfl rfl ?_
  refine Go.iload 265 at_263 rfl rfl ?_
  refine Go.iconst 266 (1 : Int32) at_265 rfl (by decide) ?_
  refine Go.iadd 267 (3 : Int32) at_266 rfl (by decide) ?_
  refine Go.daload 268 A5 (i := 3) (by decide) rfl at_267 rfl ?_
  refine Go.dconst0 269 (0 : UInt64) at_268 rfl rfl ?_
  refine Go.dcmp 270 (0 : Int32) at_269 rfl (dcmpV_self (dint_nn dint_zero) _) ?_
  refine Go.ifCT 275 at_270 (by decide) (by decide) (show (0 : Int) = 0 from by decide) ?_
  refine Go.aload 277 at_275 rfl rfl rfl ?_
  refine Go.iconst 278 (0 : Int32) at_277 rfl (by decide) ?_
  refine Go.daload 279 V5 (i := 0) (by decide) rfl at_278 rfl ?_
  refine Go.iloadN 280 at_279 rfl rfl ?_
  refine Go.i2d 281 (FP.i2d a) at_280 rfl rfl ?_
  refine Go.dcmp 282 (0 : Int32) at_281 rfl (dcmpV_self (dint_nn (FP.Core.i2d_int _)) _) ?_
  refine Go.ifCF 285 at_282 rfl (show (0 : Int) = 0 from by decide) ?_
  refine Go.aload 287 at_285 rfl rfl rfl ?_
  refine Go.iconst 288 (1 : Int32) at_287 rfl (by decide) ?_
  refine Go.daload 289 V5 (i := 1) (by decide) rfl at_288 rfl ?_
  refine Go.iloadN 290 at_289 rfl rfl ?_
  refine Go.i2d 291 (FP.i2d b) at_290 rfl rfl ?_
  refine Go.dcmp 292 (0 : Int32) at_291 rfl (dcmpV_self (dint_nn (FP.Core.i2d_int _)) _) ?_
  refine Go.ifCF 295 at_292 rfl (show (0 : Int) = 0 from by decide) ?_
  refine Go.aload 297 at_295 rfl rfl rfl ?_
  refine Go.iconst 298 (2 : Int32) at_297 rfl (by decide) ?_
  refine Go.daload 299 V5 (i := 2) (by decide) rfl at_298 rfl ?_
  refine Go.iloadN 300 at_299 rfl rfl ?_
  refine Go.i2d 301 (FP.i2d c) at_300 rfl rfl ?_
  refine Go.dcmp 302 (0 : Int32) at_301 rfl (dcmpV_self (dint_nn (FP.Core.i2d_int _)) _) ?_
  refine Go.ifCF 305 at_302 rfl (show (0 : Int) = 0 from by decide) ?_
  refine Go.aload 307 at_305 rfl rfl rfl ?_
  refine Go.iconst 308 (3 : Int32) at_307 rfl (by decide) ?_
  refine Go.daload 309 V5 (i := 3) (by decide) rfl at_308 rfl ?_
  refine Go.iload 311 at_309 rfl rfl ?_
  refine Go.i2d 312 (FP.i2d d) at_311 rfl rfl ?_
  refine Go.dcmp 313 (0 : Int32) at_312 rfl (dcmpV_self (dint_nn (FP.Core.i2d_int _)) _) ?_
  refine Go.ifCT 318 at_313 (by decide) (by decide) (show (0 : Int) = 0 from by decide) ?_
  refine Go.iconst 319 (1 : Int32) at_318 rfl (by decide) ?_
  exact Go.zret at_319 rfl (Or.inr rfl) (by decide) (by decide) rfl
set_option maxRecDepth 65536 in
set_option maxHeartbeats 40000000 in
theorem law_3 (l : Launch) (Z : State) (a0 : Array Value) (hw : ∀ d ∈ tables_1, d.before a0 Z = true) (sel a b c d : Int32) (hn : sel &&& 3 = 3) {h : Heap} {n0 : Nat} : Go l Z room_1 (x, code, maxLocals, ret) n0 Q1 h 0 0 0 #[.val (.int sel), .val (.int a), .val (.int b), .val (.int c), .val (.int d), .unset, .unset, .unset, .unset, .unset, .unset, .unset, .unset] [] := by
  obtain ⟨s0, hs0⟩ : ∃ z : Int32, XT.ushr sel 2 &&& 3 = z := ⟨_, rfl⟩
  obtain ⟨t0, ht0, it0⟩ := and_nat (XT.ushr sel 2) 3 (by decide)
  replace it0 : s0.toInt = (t0 : Int) := by rw [← hs0]; exact it0
  obtain ⟨x0, hx0⟩ := ex4 a b c d ht0
  obtain ⟨s1, hs1⟩ : ∃ z : Int32, XT.ushr sel 4 &&& 3 = z := ⟨_, rfl⟩
  obtain ⟨t1, ht1, it1⟩ := and_nat (XT.ushr sel 4) 3 (by decide)
  replace it1 : s1.toInt = (t1 : Int) := by rw [← hs1]; exact it1
  obtain ⟨x1, hx1⟩ := ex4 a b c d ht1
  obtain ⟨s2, hs2⟩ : ∃ z : Int32, XT.ushr sel 6 &&& 3 = z := ⟨_, rfl⟩
  obtain ⟨t2, ht2, it2⟩ := and_nat (XT.ushr sel 6) 3 (by decide)
  replace it2 : s2.toInt = (t2 : Int) := by rw [← hs2]; exact it2
  obtain ⟨x2, hx2⟩ := ex4 a b c d ht2
  refine Go.iloadN 1 at_0 rfl rfl ?_
  refine Go.iconst 2 (3 : Int32) at_1 rfl (by decide) ?_
  refine Go.iand 3 (3 : Int32) at_2 rfl hn ?_
  refine Go.istore 5 #[.val (.int sel), .val (.int a), .val (.int b), .val (.int c), .val (.int d), .val (.int (3 : Int32)), .unset, .unset, .unset, .unset, .unset, .unset, .unset] at_3 rfl rfl ?_
  refine Go.iloadN 6 at_5 rfl rfl ?_
  refine Go.iconst 7 (2 : Int32) at_6 rfl (by decide) ?_
  refine Go.iushr 8 (XT.ushr sel (2 : Int32)) at_7 rfl rfl ?_
  refine Go.iconst 9 (3 : Int32) at_8 rfl (by decide) ?_
  refine Go.iand 10 s0 at_9 rfl hs0 ?_
  refine Go.istore 12 #[.val (.int sel), .val (.int a), .val (.int b), .val (.int c), .val (.int d), .val (.int (3 : Int32)), .val (.int s0), .unset, .unset, .unset, .unset, .unset, .unset] at_10 rfl rfl ?_
  refine Go.iloadN 13 at_12 rfl rfl ?_
  refine Go.iconst 14 (4 : Int32) at_13 rfl (by decide) ?_
  refine Go.iushr 15 (XT.ushr sel (4 : Int32)) at_14 rfl rfl ?_
  refine Go.iconst 16 (3 : Int32) at_15 rfl (by decide) ?_
  refine Go.iand 17 s1 at_16 rfl hs1 ?_
  refine Go.istore 19 #[.val (.int sel), .val (.int a), .val (.int b), .val (.int c), .val (.int d), .val (.int (3 : Int32)), .val (.int s0), .val (.int s1), .unset, .unset, .unset, .unset, .unset] at_17 rfl rfl ?_
  refine Go.iloadN 20 at_19 rfl rfl ?_
  refine Go.bipush 22 (6 : Int32) at_20 rfl (by decide) ?_
  refine Go.iushr 23 (XT.ushr sel (6 : Int32)) at_22 rfl rfl ?_
  refine Go.iconst 24 (3 : Int32) at_23 rfl (by decide) ?_
  refine Go.iand 25 s2 at_24 rfl hs2 ?_
  refine Go.istore 27 #[.val (.int sel), .val (.int a), .val (.int b), .val (.int c), .val (.int d), .val (.int (3 : Int32)), .val (.int s0), .val (.int s1), .val (.int s2), .unset, .unset, .unset, .unset] at_25 rfl rfl ?_
  refine Go.iload 29 at_27 rfl rfl ?_
  refine Go.ifCT 40 at_29 (by decide) (by decide) (show (3 : Int) ≠ 0 from by decide) ?_
  refine Go.iload 42 at_40 rfl rfl ?_
  refine Go.iconst 43 (1 : Int32) at_42 rfl (by decide) ?_
  refine Go.icmpT 59 at_43 (by decide) (by decide) (show (3 : Int) ≠ (1 : Int) from by decide) ?_
  refine Go.iload 61 at_59 rfl rfl ?_
  refine Go.iconst 62 (2 : Int32) at_61 rfl (by decide) ?_
  refine Go.icmpT 83 at_62 (by decide) (by decide) (show (3 : Int) ≠ (2 : Int) from by decide) ?_
  refine Go.iconst 84 (3 : Int32) at_83 rfl (by decide) ?_
  refine Go.newI 86 3 (hw _ (List.mem_of_getElem? (i := 0) rfl)) (i := 3) (by decide) (by decide) (by decide) at_84 rfl (by decide) (by decide) ?_
  intro h1 sa E1 g1 ns A1
  have A1 : ArI Z h1 sa [0, 0, 0] := A1
  refine Go.dup 87 at_86 rfl rfl ?_
  refine Go.iconst 88 (0 : Int32) at_87 rfl (by decide) ?_
  refine Go.iload 90 at_88 rfl rfl ?_
  refine Go.iastore 91 A1 (i := 0) (by decide) (by simp) ns at_90 rfl ?_
  intro h1_0 K1_0 A1_0
  have A1 : ArI Z h1_0 sa [s0, 0, 0] := A1_0
  refine Go.dup 92 at_91 rfl rfl ?_
  refine Go.iconst 93 (1 : Int32) at_92 rfl (by decide) ?_
  refine Go.iload 95 at_93 rfl rfl ?_
  refine Go.iastore 96 A1 (i := 1) (by decide) (by simp) ns at_95 rfl ?_
  intro h1_1 K1_1 A1_1
  have A1 : ArI Z h1_1 sa [s0, s1, 0] := A1_1
  refine Go.dup 97 at_96 rfl rfl ?_
  refine Go.iconst 98 (2 : Int32) at_97 rfl (by decide) ?_
  refine Go.iload 100 at_98 rfl rfl ?_
  refine Go.iastore 101 A1 (i := 2) (by decide) (by simp) ns at_100 rfl ?_
  intro h1_2 K1_2 A1_2
  have A1 : ArI Z h1_2 sa [s0, s1, s2] := A1_2
  refine Go.astore 103 #[.val (.int sel), .val (.int a), .val (.int b), .val (.int c), .val (.int d), .val (.int (3 : Int32)), .val (.int s0), .val (.int s1), .val (.int s2), .val (.ref sa), .unset, .unset, .unset] at_101 rfl rfl rfl ?_
  refine Go.iconst 104 (4 : Int32) at_103 rfl (by decide) ?_
  refine Go.newD 106 4 (hw _ (List.mem_of_getElem? (i := 1) rfl)) (i := 4) (by decide) (by decide) (by decide) at_104 rfl (by decide) (by decide) ?_
  intro h2 va E2 g2 nv A2
  have A2 : ArD Z h2 va [0, 0, 0, 0] := A2
  have hsv : sa ≠ va := Nat.ne_of_lt (Nat.lt_of_lt_of_le A1.lt g2)
  replace A1 := A1.ext E2
  refine Go.dup 107 at_106 rfl rfl ?_
  refine Go.iconst 108 (0 : Int32) at_107 rfl (by decide) ?_
  refine Go.iloadN 109 at_108 rfl rfl ?_
  refine Go.i2d 110 (FP.i2d a) at_109 rfl rfl ?_
  refine Go.dastore 111 A2 (i := 0) (by decide) (by simp) nv at_110 rfl ?_
  intro h2_0 K2_0 A2_0
  have A2 : ArD Z h2_0 va [FP.i2d a, 0, 0, 0] := A2_0
  replace A1 := A1.keep K2_0 (ninS hsv nin0)
  refine Go.dup 112 at_111 rfl rfl ?_
  refine Go.iconst 113 (1 : Int32) at_112 rfl (by decide) ?_
  refine Go.iloadN 114 at_113 rfl rfl ?_
  refine Go.i2d 115 (FP.i2d b) at_114 rfl rfl ?_
  refine Go.dastore 116 A2 (i := 1) (by decide) (by simp) nv at_115 rfl ?_
  intro h2_1 K2_1 A2_1
  have A2 : ArD Z h2_1 va [FP.i2d a, FP.i2d b, 0, 0] := A2_1
  replace A1 := A1.keep K2_1 (ninS hsv nin0)
  refine Go.dup 117 at_116 rfl rfl ?_
  refine Go.iconst 118 (2 : Int32) at_117 rfl (by decide) ?_
  refine Go.iloadN 119 at_118 rfl rfl ?_
  refine Go.i2d 120 (FP.i2d c) at_119 rfl rfl ?_
  refine Go.dastore 121 A2 (i := 2) (by decide) (by simp) nv at_120 rfl ?_
  intro h2_2 K2_2 A2_2
  have A2 : ArD Z h2_2 va [FP.i2d a, FP.i2d b, FP.i2d c, 0] := A2_2
  replace A1 := A1.keep K2_2 (ninS hsv nin0)
  refine Go.dup 122 at_121 rfl rfl ?_
  refine Go.iconst 123 (3 : Int32) at_122 rfl (by decide) ?_
  refine Go.iload 125 at_123 rfl rfl ?_
  refine Go.i2d 126 (FP.i2d d) at_125 rfl rfl ?_
  refine Go.dastore 127 A2 (i := 3) (by decide) (by simp) nv at_126 rfl ?_
  intro h2_3 K2_3 A2_3
  have A2 : ArD Z h2_3 va [FP.i2d a, FP.i2d b, FP.i2d c, FP.i2d d] := A2_3
  replace A1 := A1.keep K2_3 (ninS hsv nin0)
  refine Go.astore 129 #[.val (.int sel), .val (.int a), .val (.int b), .val (.int c), .val (.int d), .val (.int (3 : Int32)), .val (.int s0), .val (.int s1), .val (.int s2), .val (.ref sa), .val (.ref va), .unset, .unset] at_127 rfl rfl rfl ?_
  refine Go.new 132 (hw _ (List.mem_of_getElem? (i := 2) rfl)) (hw _ (List.mem_of_getElem? (i := 3) rfl)) (hw _ (List.mem_of_getElem? (i := 4) rfl)) at_129 rfl (by decide) (by decide) ?_
  intro h3 o E3 g3 g3' no X3 D3
  have F3 : Fld Z h3 o "com/example/mardec/mardec/explicit/ReducedModel" "transitions" "Lcom/example/mardec/mardec/explicit/Transitions;" .null := D3 (Or.inr (hw _ (List.mem_of_getElem? (i := 12) rfl))) (ty := .object "com/example/mardec/mardec/explicit/Transitions") (by decide)
  have G3 : Fld Z h3 o "com/example/mardec/mardec/explicit/ReducedModel" "states" "[I" .null := D3 (Or.inr (hw _ (List.mem_of_getElem? (i := 14) rfl))) (ty := .array .int) (by decide)
  have hso : sa ≠ o := Nat.ne_of_lt (Nat.lt_of_lt_of_le A1.lt g3)
  have hvo : va ≠ o := Nat.ne_of_lt (Nat.lt_of_lt_of_le A2.lt g3)
  replace A1 := A1.ext E3
  replace A2 := A2.ext E3
  refine Go.dup 133 at_132 rfl rfl ?_
  refine Go.aconstNull 134 at_133 rfl ?_
  refine Go.aload 136 at_134 rfl rfl rfl ?_
  refine Go.callN 139 [.null, (.ref sa)] [(.ref o)] rfl (hw _ (List.mem_of_getElem? (i := 5) rfl)) (hw _ (List.mem_of_getElem? (i := 6) rfl)) (hw _ (List.mem_of_getElem? (i := 7) rfl)) (hw _ (List.mem_of_getElem? (i := 4) rfl)) (by decide) pn_1 pd_2 rfl (ef_1_ANA o sa) (init_go l Z a0 hw X3 F3 G3 no) rfl rfl (by decide) (leB rfl) (by decide) (by decide) at_136 rfl ?_
  rintro v h4 ⟨rfl, K4, X4, F4⟩
  have H : RM Z h4 o sa va [s0, s1, s2] [FP.i2d a, FP.i2d b, FP.i2d c, FP.i2d d] := ⟨X4, F4, A1.keep K4 (ninS hso nin0), A2.keep K4 (ninS hvo nin0)⟩
  refine Go.astore 141 #[.val (.int sel), .val (.int a), .val (.int b), .val (.int c), .val (.int d), .val (.int (3 : Int32)), .val (.int s0), .val (.int s1), .val (.int s2), .val (.ref sa), .val (.ref va), .val (.ref o), .unset] at_139 rfl rfl rfl ?_
  refine Go.aload 143 at_141 rfl rfl rfl ?_
  refine Go.aload 145 at_143 rfl rfl rfl ?_
  have hr : ∀ j, j < 3 → ∃ s t x, ([s0, s1, s2] : List Int32)[j]? = some s ∧ s.toInt = ((t : Nat) : Int) ∧ ([FP.i2d a, FP.i2d b, FP.i2d c, FP.i2d d] : List UInt64)[t]? = some x ∧ ([x0, x1, x2] : List UInt64)[j]? = some x := by
    intro j hj
    obtain rfl | rfl | rfl : j = 0 ∨ j = 1 ∨ j = 2 := by omega
    · exact ⟨s0, t0, x0, rfl, it0, hx0, rfl⟩
    · exact ⟨s1, t1, x1, rfl, it1, hx1, rfl⟩
    · exact ⟨s2, t2, x2, rfl, it2, hx2, rfl⟩
  refine Go.callV 148 [(.ref va)] [] (hw _ (List.mem_of_getElem? (i := 15) rfl)) (hw _ (List.mem_of_getElem? (i := 16) rfl)) (hw _ (List.mem_of_getElem? (i := 18) rfl)) (hw _ (List.mem_of_getElem? (i := 17) rfl)) (hw _ (List.mem_of_getElem? (i := 19) rfl)) (hw _ (List.mem_of_getElem? (i := 4) rfl)) (by decide) pn_1 pd_4 rfl H.1 (ef_3_AA o va) (restrict_go l Z a0 hw H (k := 3) (kk := 3) (xs := [x0, x1, x2]) (by decide) rfl rfl hr (by decide)) rfl rfl (by decide) (leB rfl) (by decide) (by decide) at_145 rfl ?_
  rintro _ h5 ⟨r, rfl, nr, hrv, A5, V5⟩
  have A5 : ArD Z h5 r [x0, x1, x2, 4607182418800017408, 0] := A5
  refine Go.astore 150 #[.val (.int sel), .val (.int a), .val (.int b), .val (.int c), .val (.int d), .val (.int (3 : Int32)), .val (.int s0), .val (.int s1), .val (.int s2), .val (.ref sa), .val (.ref va), .val (.ref o), .val (.ref r)] at_148 rfl rfl rfl ?_
  refine Go.aload 152 at_150 rfl rfl rfl ?_
  refine Go.aload 154 at_152 rfl rfl rfl ?_
  refine Go.acmp 159 157 at_154 (by decide) (by decide) rfl rfl rfl (fun _ => ?_) (fun q => absurd q (by simp [XT.acmp, hrv]))
  refine Go.aload 161 at_159 rfl rfl rfl ?_
  refine Go.alen 162 (5 : Int32) A5 rfl at_161 rfl ?_
  refine Go.iload 164 at_162 rfl rfl ?_
  refine Go.iconst 165 (2 : Int32) at_164 rfl (by decide) ?_
  refine Go.iadd 166 (5 : Int32) at_165 rfl (by decide) ?_
  refine Go.icmpT 171 at_166 (by decide) (by decide) (show (5 : Int) = (5 : Int) from by decide) ?_
  refine Go.iload 173 at_171 rfl rfl ?_
  refine Go.iconst 174 (1 : Int32) at_173 rfl (by decide) ?_
  refine Go.icmpF 177 at_174 rfl (show (1 : Int) ≤ (3 : Int) from by decide) ?_
  refine Go.aload 179 at_177 rfl rfl rfl ?_
  refine Go.iconst 180 (0 : Int32) at_179 rfl (by decide) ?_
  refine Go.daload 181 A5 (i := 0) (by decide) rfl at_180 rfl ?_
  refine Go.iloadN 182 at_181 rfl rfl ?_
  refine Go.iloadN 183 at_182 rfl rfl ?_
  refine Go.iloadN 184 at_183 rfl rfl ?_
  refine Go.iload 186 at_184 rfl rfl ?_
  refine Go.iload 188 at_186 rfl rfl ?_
  refine Go.callS 191 [(.int a), (.int b), (.int c), (.int d), (.int s0)] [(.double x0)] (hw _ (List.mem_of_getElem? (i := 20) rfl)) (hw _ (List.mem_of_getElem? (i := 21) rfl)) (hw _ (List.mem_of_getElem? (i := 23) rfl)) (hw _ (List.mem_of_getElem? (i := 22) rfl)) (by decide) pn_6 pd_7 rfl (ef_4_IIIII a b c d s0) (pick_go l Z a b c d s0 it0 hx0) rfl rfl (by decide) (leB rfl) (by decide) (by decide) at_188 rfl ?_
  rintro _ _ ⟨rfl, rfl⟩
  refine Go.dcmp 192 (0 : Int32) at_191 rfl (dcmpV_self (nn4 hx0) _) ?_
  refine Go.ifCT 197 at_192 (by decide) (by decide) (show (0 : Int) = 0 from by decide) ?_
  refine Go.iload 199 at_197 rfl rfl ?_
  refine Go.iconst 200 (2 : Int32) at_199 rfl (by decide) ?_
  refine Go.icmpF 203 at_200 rfl (show (2 : Int) ≤ (3 : Int) from by decide) ?_
  refine Go.aload 205 at_203 rfl rfl rfl ?_
  refine Go.iconst 206 (1 : Int32) at_205 rfl (by decide) ?_
  refine Go.daload 207 A5 (i := 1) (by decide) rfl at_206 rfl ?_
  refine Go.iloadN 208 at_207 rfl rfl ?_
  refine Go.iloadN 209 at_208 rfl rfl ?_
  refine Go.iloadN 210 at_209 rfl rfl ?_
  refine Go.iload 212 at_210 rfl rfl ?_
  refine Go.iload 214 at_212 rfl rfl ?_
  refine Go.callS 217 [(.int a), (.int b), (.int c), (.int d), (.int s1)] [(.double x1)] (hw _ (List.mem_of_getElem? (i := 20) rfl)) (hw _ (List.mem_of_getElem? (i := 21) rfl)) (hw _ (List.mem_of_getElem? (i := 23) rfl)) (hw _ (List.mem_of_getElem? (i := 22) rfl)) (by decide) pn_6 pd_7 rfl (ef_4_IIIII a b c d s1) (pick_go l Z a b c d s1 it1 hx1) rfl rfl (by decide) (leB rfl) (by decide) (by decide) at_214 rfl ?_
  rintro _ _ ⟨rfl, rfl⟩
  refine Go.dcmp 218 (0 : Int32) at_217 rfl (dcmpV_self (nn4 hx1) _) ?_
  refine Go.ifCT 223 at_218 (by decide) (by decide) (show (0 : Int) = 0 from by decide) ?_
  refine Go.iload 225 at_223 rfl rfl ?_
  refine Go.iconst 226 (3 : Int32) at_225 rfl (by decide) ?_
  refine Go.icmpF 229 at_226 rfl (show (3 : Int) ≤ (3 : Int) from by decide) ?_
  refine Go.aload 231 at_229 rfl rfl rfl ?_
  refine Go.iconst 232 (2 : Int32) at_231 rfl (by decide) ?_
  refine Go.daload 233 A5 (i := 2) (by decide) rfl at_232 rfl ?_
  refine Go.iloadN 234 at_233 rfl rfl ?_
  refine Go.iloadN 235 at_234 rfl rfl ?_
  refine Go.iloadN 236 at_235 rfl rfl ?_
  refine Go.iload 238 at_236 rfl rfl ?_
  refine Go.iload 240 at_238 rfl rfl ?_
  refine Go.callS 243 [(.int a), (.int b), (.int c), (.int d), (.int s2)] [(.double x2)] (hw _ (List.mem_of_getElem? (i := 20) rfl)) (hw _ (List.mem_of_getElem? (i := 21) rfl)) (hw _ (List.mem_of_getElem? (i := 23) rfl)) (hw _ (List.mem_of_getElem? (i := 22) rfl)) (by decide) pn_6 pd_7 rfl (ef_4_IIIII a b c d s2) (pick_go l Z a b c d s2 it2 hx2) rfl rfl (by decide) (leB rfl) (by decide) (by decide) at_240 rfl ?_
  rintro _ _ ⟨rfl, rfl⟩
  refine Go.dcmp 244 (0 : Int32) at_243 rfl (dcmpV_self (nn4 hx2) _) ?_
  refine Go.ifCT 249 at_244 (by decide) (by decide) (show (0 : Int) = 0 from by decide) ?_
  refine Go.aload 251 at_249 rfl rfl rfl ?_
  refine Go.iload 253 at_251 rfl rfl ?_
  refine Go.daload 254 A5 (i := 3) (by decide) rfl at_253 rfl ?_
  refine Go.dconst1 255 (4607182418800017408 : UInt64) at_254 rfl rfl ?_
  refine Go.dcmp 256 (0 : Int32) at_255 rfl (dcmpV_self (dint_nn FP.Core.dint_one) _) ?_
  refine Go.ifCT 261 at_256 (by decide) (by decide) (show (0 : Int) = 0 from by decide) ?_
  refine Go.aload 263 at_261 rfl rfl rfl ?_
  refine Go.iload 265 at_263 rfl rfl ?_
  refine Go.iconst 266 (1 : Int32) at_265 rfl (by decide) ?_
  refine Go.iadd 267 (4 : Int32) at_266 rfl (by decide) ?_
  refine Go.daload 268 A5 (i := 4) (by decide) rfl at_267 rfl ?_
  refine Go.dconst0 269 (0 : UInt64) at_268 rfl rfl ?_
  refine Go.dcmp 270 (0 : Int32) at_269 rfl (dcmpV_self (dint_nn dint_zero) _) ?_
  refine Go.ifCT 275 at_270 (by decide) (by decide) (show (0 : Int) = 0 from by decide) ?_
  refine Go.aload 277 at_275 rfl rfl rfl ?_
  refine Go.iconst 278 (0 : Int32) at_277 rfl (by decide) ?_
  refine Go.daload 279 V5 (i := 0) (by decide) rfl at_278 rfl ?_
  refine Go.iloadN 280 at_279 rfl rfl ?_
  refine Go.i2d 281 (FP.i2d a) at_280 rfl rfl ?_
  refine Go.dcmp 282 (0 : Int32) at_281 rfl (dcmpV_self (dint_nn (FP.Core.i2d_int _)) _) ?_
  refine Go.ifCF 285 at_282 rfl (show (0 : Int) = 0 from by decide) ?_
  refine Go.aload 287 at_285 rfl rfl rfl ?_
  refine Go.iconst 288 (1 : Int32) at_287 rfl (by decide) ?_
  refine Go.daload 289 V5 (i := 1) (by decide) rfl at_288 rfl ?_
  refine Go.iloadN 290 at_289 rfl rfl ?_
  refine Go.i2d 291 (FP.i2d b) at_290 rfl rfl ?_
  refine Go.dcmp 292 (0 : Int32) at_291 rfl (dcmpV_self (dint_nn (FP.Core.i2d_int _)) _) ?_
  refine Go.ifCF 295 at_292 rfl (show (0 : Int) = 0 from by decide) ?_
  refine Go.aload 297 at_295 rfl rfl rfl ?_
  refine Go.iconst 298 (2 : Int32) at_297 rfl (by decide) ?_
  refine Go.daload 299 V5 (i := 2) (by decide) rfl at_298 rfl ?_
  refine Go.iloadN 300 at_299 rfl rfl ?_
  refine Go.i2d 301 (FP.i2d c) at_300 rfl rfl ?_
  refine Go.dcmp 302 (0 : Int32) at_301 rfl (dcmpV_self (dint_nn (FP.Core.i2d_int _)) _) ?_
  refine Go.ifCF 305 at_302 rfl (show (0 : Int) = 0 from by decide) ?_
  refine Go.aload 307 at_305 rfl rfl rfl ?_
  refine Go.iconst 308 (3 : Int32) at_307 rfl (by decide) ?_
  refine Go.daload 309 V5 (i := 3) (by decide) rfl at_308 rfl ?_
  refine Go.iload 311 at_309 rfl rfl ?_
  refine Go.i2d 312 (FP.i2d d) at_311 rfl rfl ?_
  refine Go.dcmp 313 (0 : Int32) at_312 rfl (dcmpV_self (dint_nn (FP.Core.i2d_int _)) _) ?_
  refine Go.ifCT 318 at_313 (by decide) (by decide) (show (0 : Int) = 0 from by decide) ?_
  refine Go.iconst 319 (1 : Int32) at_318 rfl (by decide) ?_
  exact Go.zret at_319 rfl (Or.inr rfl) (by decide) (by decide) rfl
theorem law_go (l : Launch) (Z : State) (a0 : Array Value) (hw : ∀ d ∈ tables_1, d.before a0 Z = true) (sel a b c d : Int32) {h : Heap} {n0 : Nat} : Go l Z room_1 (x, code, maxLocals, ret) n0 Q1 h 0 0 0 #[.val (.int sel), .val (.int a), .val (.int b), .val (.int c), .val (.int d), .unset, .unset, .unset, .unset, .unset, .unset, .unset, .unset] [] := by
  rcases and3 sel with hn | hn | hn | hn
  · exact law_0 l Z a0 hw sel a b c d hn
  · exact law_1 l Z a0 hw sel a b c d hn
  · exact law_2 l Z a0 hw sel a b c d hn
  · exact law_3 l Z a0 hw sel a b c d hn
set_option maxRecDepth 65536 in
set_option maxHeartbeats 40000000 in
theorem comes_1 {Post : Tables → Env → Array Value → State → Outcome → State → Prop} (hpost : ∀ tb e args s v u, (limb_1_1.after args s (.returned v) u = true ∧ limb_1_2.after args s (.returned v) u = true ∧ True) → FrameEnd s (.returned v) u (Jvm.fieldLocs frame_1_writes args s ++ Jvm.arrayLocs frame_1_arrays args s ++ Jvm.staticLocs frame_1_statics s) 16 128 → Post tb e args s (.returned v) u) :
    ArmFor flags0 classFile x code maxLocals ret World_1 tables_1 room_1 Calls_1 rest_1 Pre_1 Post := by
  intro l hfl _ _ p e ha hc hk s m args below hf hA hF happ hP
  obtain ⟨hcalls, hrest, hpre⟩ := hP
  obtain ⟨-, -, -, hnamed, -, -, -, hat⟩ := (Spec.applies_iff hf).mp happ
  obtain ⟨hg, hn⟩ := and_e (Cond.before_iff.mp (show (Jvm.Cond.and given_1 narrow_1).before args s = true from hpre))
  obtain ⟨h1, g0⟩ := and_e hg
  obtain ⟨k0, g1⟩ := and_e g0
  obtain ⟨k1, g2⟩ := and_e g1
  obtain ⟨k2, g3⟩ := and_e g2
  obtain ⟨k3, g4⟩ := and_e g3
  obtain ⟨w0, w1, w2, w3, w4, rfl⟩ : ∃ w0 w1 w2 w3 w4 : Value, args = #[w0, w1, w2, w3, w4] := by
    have hs : args.size = 5 := by simpa [Cond.value, given_1] using h1
    obtain ⟨L⟩ := args
    match L, hs with
    | [w0, w1, w2, w3, w4], _ => exact ⟨w0, w1, w2, w3, w4, rfl⟩
  have hw := fun d (hd : d ∈ tables_1) => atoms_spec (ws := Jvm.Cond.code x code maxLocals ret :: tables_1) hat d (List.mem_cons_of_mem _ hd)
  obtain ⟨i0, e0⟩ := is_v k0
  obtain rfl : w0 = (.int i0) := Option.some.inj e0
  obtain ⟨i1, e1⟩ := is_v k1
  obtain rfl : w1 = (.int i1) := Option.some.inj e1
  obtain ⟨i2, e2⟩ := is_v k2
  obtain rfl : w2 = (.int i2) := Option.some.inj e2
  obtain ⟨i3, e3⟩ := is_v k3
  obtain rfl : w3 = (.int i3) := Option.some.inj e3
  obtain ⟨i4, e4⟩ := is_v g4
  obtain rfl : w4 = (.int i4) := Option.some.inj e4
  obtain ⟨n, o, h1, h2, h3, _, L, rfl, ⟨rfl, -, N⟩, hq⟩ := (law_go l s _ hw i0 i1 i2 i3 i4 (h := s.heap) (n0 := s.heap.size)).met (ws := tables_1) (Q := Q1) law_pn (Nat.le_refl s.heap.size) (ef_0_IIIII i0 i1 i2 i3 i4) p e ha hc hk s m _ below hf ((Spec.applies_iff_loose hf).mp happ).1 ⟨rfl, State.WarmedH.refl s, rfl⟩ trivial
  refine ⟨n, _, h1, h2, h3, hpost _ _ _ _ _ _ ⟨Cond.after_iff.mpr rfl, Cond.after_iff.mpr (eq_i res_at (Term.int_eval (1)) rfl), trivial⟩ ⟨hq.1, hq.2.1, (hq.2.2.sift fun y hy => Or.inr (N y hy)).mono (by decide) (by decide)⟩⟩
theorem main_1_1 : Claimed_1_1 := comes_1 fun _ _ _ _ _ _ h hF => ⟨h.1, hF⟩
theorem main_1_2 : Claimed_1_2 := comes_1 fun _ _ _ _ _ _ h hF => ⟨h.2.1, hF⟩
end Jvm.Pilot.@@N@@
namespace Jvm.Pilot.@@N@@
open Jvm Jvm.ClassFile Sem Op Lib Jvm.Free Jvm.Stand Jvm.Pilot.@@N@@.Jvm.D
/-! MADE BY PROGRAM (witnessworld.py) out of the Statement's table words and the real class files: 11 classes; the members and pool entries that the words name. The judged class is class 1, her method 1. -/
namespace start1
open Jvm.ClassFile
def u (s : String) : CpInfo := .utf8 (stringToUtf16 s)
/-- a pool by its gaps: so many unusable entries, then the entry; so many at the end -/
def gap : Nat → List CpInfo → List CpInfo
  | 0, r => r
  | n + 1, r => .unusable :: gap n r
def poolList (es : List (Nat × CpInfo)) (last : Nat) : List CpInfo := es.foldr (fun e r => gap e.1 (e.2 :: r)) (gap last [])
def pool (es : List (Nat × CpInfo)) (last : Nat) : Array CpInfo := ⟨poolList es last⟩
def fileOf (pool : Array CpInfo) (this : Nat) (attrs : Array Attribute := #[]) (ms : Array MethodInfo := #[]) (fl : Nat := 33) (sup : Nat := 0) (ifs : Array Nat := #[]) (fds : Array FieldInfo := #[]) : ClassFile where
  minorVersion := 0
  majorVersion := 65
  constantPool := pool
  accessFlags := fl
  thisClass := this
  superClass := sup
  interfaces := ifs
  fields := fds
  methods := ms
  attributes := attrs
def plain (name : String) (sup : Option ClassId) : Class where
  name := name
  kind := .ordinary
  loader := none
  accessFlags := 33
  super := sup
  interfaces := #[]
  cf := none
  fields := #[]
  methods := #[]
  instanceTypes := #[]
  staticTypes := #[]
  resolved := #[]
  callSites := []
  init := .initialized
  statics := none
  mirror := none

def pool0 : Array CpInfo := pool [(5, u "<init>"), (0, u "()V"), (1, .class_ 10), (1, u "java/lang/Object")] 113

def k0c0 : Code := { maxStack := 0, maxLocals := 1, code := object_method_1_code, exceptionTable := #[], attributes := #[] }
def k0m0 : Method := { name := "<init>", desc := "()V", sig := { parameters := [], returnType := none }, accessFlags := 1, code := some k0c0 }
/-- java/lang/Object -/
def k0 : Class := { plain "java/lang/Object" none with
  accessFlags := 33
  interfaces := #[]
  cf := some (fileOf pool0 8 #[] #[{ accessFlags := 1, nameIndex := 5, descriptorIndex := 6, attributes := #[] }] 33 0 #[] #[])
  fields := #[]
  methods := #[k0m0]
  instanceTypes := #[]
  staticTypes := #[]
  resolved := Array.replicate 124 none
  statics := none }

def pool1 : Array CpInfo := pool [(2, .class_ 4), (1, u "java/lang/Object"), (0, u "<init>"), (0, u "()V"), (0, .class_ 8), (0, u "com/example/mardec/mardec/explicit/ReducedModel"), (0, .methodref 7 10), (0, .nameAndType 5 11), (0, u "(Lcom/example/mardec/mardec/explicit/Transitions;[I)V"), (0, .methodref 7 13), (0, .nameAndType 14 15), (0, u "restrict"), (0, u "([D)[D"), (0, .methodref 17 18), (0, .class_ 19), (0, .nameAndType 20 21), (0, u "com/example/mardec/mardec/explicit/ReducedModelRestrictPinLaw"), (0, u "pick"), (0, u "(IIIII)D"), (2, u "law"), (0, u "(IIIII)Z")] 7

def k1m0 : Method := { name := "<init>", desc := "()V", sig := { parameters := [], returnType := none }, accessFlags := 1, code := none }
def k1c1 : Code := { maxStack := 7, maxLocals := 13, code := code, exceptionTable := #[], attributes := #[] }
def k1m1 : Method := { name := "law", desc := "(IIIII)Z", sig := { parameters := [.int, .int, .int, .int, .int], returnType := some .boolean }, accessFlags := 9, code := some k1c1 }
def k1c2 : Code := { maxStack := 2, maxLocals := 5, code := method_3_code, exceptionTable := #[], attributes := #[] }
def k1m2 : Method := { name := "pick", desc := "(IIIII)D", sig := { parameters := [.int, .int, .int, .int, .int], returnType := some .double }, accessFlags := 10, code := some k1c2 }
/-- com/example/mardec/mardec/explicit/ReducedModelRestrictPinLaw -/
def k1 : Class := { plain "com/example/mardec/mardec/explicit/ReducedModelRestrictPinLaw" (some 0) with
  accessFlags := 49
  interfaces := #[]
  cf := some (fileOf pool1 17 #[] #[{ accessFlags := 1, nameIndex := 5, descriptorIndex := 6, attributes := #[] }, { accessFlags := 9, nameIndex := 24, descriptorIndex := 25, attributes := #[] }, { accessFlags := 10, nameIndex := 20, descriptorIndex := 21, attributes := #[] }] 49 2 #[] #[])
  fields := #[]
  methods := #[k1m0, k1m1, k1m2]
  instanceTypes := #[]
  staticTypes := #[]
  resolved := Array.replicate 33 none
  statics := none }

def pool2 : Array CpInfo := pool [(1, .methodref 2 3), (0, .class_ 4), (0, .nameAndType 5 6), (0, u "java/lang/Object"), (0, u "<init>"), (0, u "()V"), (0, .fieldref 8 9), (0, .class_ 10), (0, .nameAndType 11 12), (0, u "com/example/mardec/mardec/explicit/ReducedModel"), (0, u "transitions"), (0, u "Lcom/example/mardec/mardec/explicit/Transitions;"), (0, .fieldref 8 14), (0, .nameAndType 15 16), (0, u "states"), (0, u "[I"), (9, u "(Lcom/example/mardec/mardec/explicit/Transitions;[I)V"), (5, u "restrict"), (0, u "([D)[D")] 5

def k2c0 : Code := { maxStack := 2, maxLocals := 3, code := prog_43_method_1_code, exceptionTable := #[], attributes := #[] }
def k2m0 : Method := { name := "<init>", desc := "(Lcom/example/mardec/mardec/explicit/Transitions;[I)V", sig := { parameters := [(.object "com/example/mardec/mardec/explicit/Transitions"), (.array .int)], returnType := none }, accessFlags := 0, code := some k2c0 }
def k2c1 : Code := { maxStack := 5, maxLocals := 4, code := prog_43_method_4_code, exceptionTable := #[], attributes := #[] }
def k2m1 : Method := { name := "restrict", desc := "([D)[D", sig := { parameters := [(.array .double)], returnType := some (.array .double) }, accessFlags := 0, code := some k2c1 }
/-- com/example/mardec/mardec/explicit/ReducedModel -/
def k2 : Class := { plain "com/example/mardec/mardec/explicit/ReducedModel" (some 0) with
  accessFlags := 48
  interfaces := #[]
  cf := some (fileOf pool2 8 #[] #[{ accessFlags := 0, nameIndex := 5, descriptorIndex := 26, attributes := #[] }, { accessFlags := 0, nameIndex := 32, descriptorIndex := 33, attributes := #[] }] 48 2 #[] #[{ accessFlags := 18, nameIndex := 11, descriptorIndex := 12, attributes := #[] }, { accessFlags := 18, nameIndex := 15, descriptorIndex := 16, attributes := #[] }])
  fields := #[{ name := "transitions", type := (.object "com/example/mardec/mardec/explicit/Transitions"), accessFlags := 18, slot := 0, constantValue := 0 }, { name := "states", type := (.array .int), accessFlags := 18, slot := 1, constantValue := 0 }]
  methods := #[k2m0, k2m1]
  instanceTypes := #[(.object "com/example/mardec/mardec/explicit/Transitions"), (.array .int)]
  staticTypes := #[]
  resolved := Array.replicate 39 none
  statics := none }

def pool3 : Array CpInfo := pool [(1, u "java/lang/Cloneable"), (0, .class_ 1), (0, u "java/lang/Object"), (0, .class_ 3)] 3

/-- java/lang/Cloneable -/
def k3 : Class := { plain "java/lang/Cloneable" (some 0) with
  accessFlags := 1537
  interfaces := #[]
  cf := some (fileOf pool3 2 #[] #[] 1537 4 #[] #[])
  fields := #[]
  methods := #[]
  instanceTypes := #[]
  staticTypes := #[]
  resolved := Array.replicate 8 none
  statics := none }

def pool4 : Array CpInfo := pool [(1, u "java/io/Serializable"), (0, .class_ 1), (0, u "java/lang/Object"), (0, .class_ 3)] 3

/-- java/io/Serializable -/
def k4 : Class := { plain "java/io/Serializable" (some 0) with
  accessFlags := 1537
  interfaces := #[]
  cf := some (fileOf pool4 2 #[] #[] 1537 4 #[] #[])
  fields := #[]
  methods := #[]
  instanceTypes := #[]
  staticTypes := #[]
  resolved := Array.replicate 8 none
  statics := none }

/-- the primitive byte -/
def k5 : Class := { plain "byte" none with kind := .primitive 'B', accessFlags := 0x411 }
/-- [B -/
def k6 : Class := { plain "[B" (some 0) with kind := .array 5 .byte, interfaces := #[3, 4], accessFlags := 1041 }

/-- the primitive double -/
def k7 : Class := { plain "double" none with kind := .primitive 'D', accessFlags := 0x411 }
/-- [D -/
def k8 : Class := { plain "[D" (some 0) with kind := .array 7 .double, interfaces := #[3, 4], accessFlags := 1041 }

/-- the primitive int -/
def k9 : Class := { plain "int" none with kind := .primitive 'I', accessFlags := 0x411 }
/-- [I -/
def k10 : Class := { plain "[I" (some 0) with kind := .array 9 .int, interfaces := #[3, 4], accessFlags := 1041 }

def heap : Heap := #[]
def classes : Array Class := #[k0, k1, k2, k3, k4, k5, k6, k7, k8, k9, k10]
def interned : List (Array UInt16 × Addr) := []
def slotsUsed : Nat := 0
def theMethod : MethodId := ⟨1, 1⟩
def args0 : Array Value := #[.int 7, .int 3, .int 4, .int 5, .int 6]
def aboutOver (below : List Frame) : State where
  vm := { classes := classes, interned := interned.toArray }
  heap := heap
  slotsUsed := slotsUsed
  threads := #[{ frames := .invoking theMethod args0 :: below }]
def below0 : List Frame := [.native { method := ⟨0, 0⟩, args := #[] }]
def about1 : State := aboutOver below0
def p0 : Program := .bare "" "" ""
def e0 : Env := launch0.env 0 0 0
theorem w_frames : about1.frames = Frame.invoking theMethod args0 :: below0 := rfl
set_option maxRecDepth 65536 in
theorem w_args : argsFit about1.vm theMethod args0 = true := by decide +kernel
set_option maxRecDepth 65536 in
theorem w_heap : heapFits about1 = true := by decide +kernel
set_option maxRecDepth 65536 in
theorem w_runnable : about1.curStatus? = some .runnable := by decide +kernel
set_option maxRecDepth 65536 in
theorem w_alone : about1.alone = true := by decide +kernel
set_option maxRecDepth 65536 in
theorem w_named : about1.methodNamed? x = some theMethod := by decide +kernel
set_option maxRecDepth 65536 in
theorem w_hears : about1.hears theMethod below0 = true := by decide +kernel
set_option maxRecDepth 65536 in
theorem w_ripe : about1.ripe theMethod args0 below0 = true := by decide +kernel
theorem w_running : about1.status = .running := rfl
set_option maxRecDepth 65536 in
theorem w_room : about1.hasRoom e0.platform room_1 = true :=
  launch0.hasRoom_least _ room_1 (by decide +kernel) (by decide +kernel) (by decide +kernel) (by decide +kernel) (by decide +kernel) (by decide +kernel)
theorem allAtoms_all (ts : List Jvm.Cond) (a : Array Jvm.Value) (st : Jvm.State) : (allAtoms ts).before a st = ts.all (fun c => c.before a st) := by
  induction ts with
  | nil => rfl
  | cons c t ih =>
    show (Jvm.Cond.and c (allAtoms t)).before a st = _
    rw [Jvm.Cond.before_and, ih, List.all_cons]
def words1 : List Jvm.Cond := Jvm.Cond.code x code maxLocals ret :: tables_1
/-- a 'code' word, met by the world's own term for the bytes: nothing is compared byte by byte -/
theorem code_word {y : MethodName} {bytes : ByteArray} {mx : Nat} {rt : Option FieldType} {a : Array Value} {s : State} {m : MethodId} {meth : Method} {c : Code} (h1 : s.methodNamed? y = some m) (h2 : s.vm.method? m = some meth) (h3 : meth.code = some c) (h4 : c.code = bytes)
    (h5 : (c.maxLocals == mx && c.exceptionTable.isEmpty && decide (c.maxStack ≤ mostOperands) && decide (meth.sig.returnType = rt) && !meth.locks && decide (parseMethodDescriptor y.desc = some meth.sig)) = true) : (Jvm.Cond.code y bytes mx rt).before a s = true := by
  simp only [Bool.and_eq_true, beq_iff_eq, Bool.not_eq_true', decide_eq_true_eq] at h5
  obtain ⟨⟨⟨⟨⟨g1, g2⟩, g3⟩, g4⟩, g5⟩, g6⟩ := h5
  simp [Cond.before, Cond.holds, Cond.value, h1, h2, h3, h4, g1, g2, g3, g4, g5, g6]
def isCode : Jvm.Cond → Bool
  | .code _ _ _ _ => true
  | _ => false
theorem all_split {L : List Jvm.Cond} {P : Jvm.Cond → Bool} (h1 : L.all (fun c => isCode c || P c) = true) (h2 : ∀ c ∈ L.filter isCode, P c = true) : L.all P = true := by
  refine List.all_eq_true.mpr fun c hc => ?_
  have h := List.all_eq_true.mp h1 c hc
  rcases Bool.eq_false_or_eq_true (isCode c) with hi | hi
  · exact h2 c (List.mem_filter.mpr ⟨hc, hi⟩)
  · simpa [hi] using h
set_option maxRecDepth 65536 in
theorem w_c0 : (Jvm.Cond.code x code maxLocals ret).before args0 about1 = true := code_word (m := ⟨1, 1⟩) (meth := k1m1) (c := k1c1) (by decide +kernel) rfl rfl rfl (by decide +kernel)
set_option maxRecDepth 65536 in
theorem w_c1 : (Jvm.Cond.code ({ cls := "com/example/mardec/mardec/explicit/ReducedModel", name := "<init>", desc := "(Lcom/example/mardec/mardec/explicit/Transitions;[I)V" } : Jvm.MethodName) prog_43_method_1_code (3 : Nat) (Option.none : Option Jvm.ClassFile.FieldType)).before args0 about1 = true := code_word (m := ⟨2, 0⟩) (meth := k2m0) (c := k2c0) (by decide +kernel) rfl rfl rfl (by decide +kernel)
set_option maxRecDepth 65536 in
theorem w_c2 : (Jvm.Cond.code ({ cls := "java/lang/Object", name := "<init>", desc := "()V" } : Jvm.MethodName) object_method_1_code (1 : Nat) (Option.none : Option Jvm.ClassFile.FieldType)).before args0 about1 = true := code_word (m := ⟨0, 0⟩) (meth := k0m0) (c := k0c0) (by decide +kernel) rfl rfl rfl (by decide +kernel)
set_option maxRecDepth 65536 in
theorem w_c3 : (Jvm.Cond.code ({ cls := "com/example/mardec/mardec/explicit/ReducedModel", name := "restrict", desc := "([D)[D" } : Jvm.MethodName) prog_43_method_4_code (4 : Nat) (Option.some (Jvm.ClassFile.FieldType.array Jvm.ClassFile.FieldType.double))).before args0 about1 = true := code_word (m := ⟨2, 1⟩) (meth := k2m1) (c := k2c1) (by decide +kernel) rfl rfl rfl (by decide +kernel)
set_option maxRecDepth 65536 in
theorem w_c4 : (Jvm.Cond.code ({ cls := "com/example/mardec/mardec/explicit/ReducedModelRestrictPinLaw", name := "pick", desc := "(IIIII)D" } : Jvm.MethodName) method_3_code (5 : Nat) (Option.some Jvm.ClassFile.FieldType.double)).before args0 about1 = true := code_word (m := ⟨1, 2⟩) (meth := k1m2) (c := k1c2) (by decide +kernel) rfl rfl rfl (by decide +kernel)
def codes1 : List Jvm.Cond := [Jvm.Cond.code x code maxLocals ret, Jvm.Cond.code ({ cls := "com/example/mardec/mardec/explicit/ReducedModel", name := "<init>", desc := "(Lcom/example/mardec/mardec/explicit/Transitions;[I)V" } : Jvm.MethodName) prog_43_method_1_code (3 : Nat) (Option.none : Option Jvm.ClassFile.FieldType), Jvm.Cond.code ({ cls := "java/lang/Object", name := "<init>", desc := "()V" } : Jvm.MethodName) object_method_1_code (1 : Nat) (Option.none : Option Jvm.ClassFile.FieldType), Jvm.Cond.code ({ cls := "com/example/mardec/mardec/explicit/ReducedModel", name := "restrict", desc := "([D)[D" } : Jvm.MethodName) prog_43_method_4_code (4 : Nat) (Option.some (Jvm.ClassFile.FieldType.array Jvm.ClassFile.FieldType.double)), Jvm.Cond.code ({ cls := "com/example/mardec/mardec/explicit/ReducedModelRestrictPinLaw", name := "pick", desc := "(IIIII)D" } : Jvm.MethodName) method_3_code (5 : Nat) (Option.some Jvm.ClassFile.FieldType.double)]
set_option maxRecDepth 65536 in
theorem codes_eq : words1.filter isCode = codes1 := rfl
theorem w_codes : ∀ c ∈ words1.filter isCode, c.before args0 about1 = true := by
  rw [codes_eq]
  intro c hc
  simp only [codes1, List.mem_cons, List.not_mem_nil, or_false] at hc
  rcases hc with rfl | rfl | rfl | rfl | rfl
  · exact w_c0
  · exact w_c1
  · exact w_c2
  · exact w_c3
  · exact w_c4
set_option maxRecDepth 65536 in
theorem w_t1 : (words1.take 24).all (fun c => isCode c || c.before args0 about1) = true := by decide +kernel
set_option maxRecDepth 65536 in
theorem w_t2 : (words1.drop 24).all (fun c => isCode c || c.before args0 about1) = true := by decide +kernel
theorem w_tables : (allAtoms (Jvm.Cond.code x code maxLocals ret :: tables_1)).before args0 about1 = true := by
  rw [allAtoms_all]
  show words1.all (fun c => c.before args0 about1) = true
  refine all_split ?_ w_codes
  rw [← List.take_append_drop 24 words1, List.all_append, w_t1, w_t2]
  rfl
set_option maxRecDepth 65536 in
theorem w_case : (Jvm.Cond.and given_1 narrow_1).before args0 about1 = true := by decide +kernel
theorem w_applies : (headSpec (Jvm.Cond.code x code maxLocals ret :: tables_1) room_1).applies x e0.platform about1 = true :=
  (Spec.applies_iff w_frames).mpr ⟨w_running, w_runnable, w_alone, w_named, w_hears, w_ripe, w_room, w_tables⟩
theorem atStart : AtStart classFile x code maxLocals ret World_1 tables_1 room_1 Calls_1 rest_1 Pre_1 launch0 p0 e0 about1 theMethod args0 below0 :=
  ⟨lists_1, trivial, launch0.admits_env _ _ _, launch0.least_env, fairChoices_fair.cas, fairChoices_fair.clock, w_frames, w_args, w_heap, w_applies, trivial, trivial, w_case⟩
end start1
theorem witness_1 : WitnessClaimed_1 := ⟨start1.p0, start1.e0, start1.about1, start1.theMethod, start1.args0, start1.below0, start1.atStart⟩
end Jvm.Pilot.@@N@@
