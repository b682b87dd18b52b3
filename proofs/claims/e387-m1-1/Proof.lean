import JvmDerived
import JvmDerived.Pilot.@@N@@Statement
import JvmDerived.Pilot.@@N@@Code
set_option linter.unusedVariables false
set_option linter.unusedSimpArgs false
namespace Jvm.GoK
open Sem ClassFile Op Lib Jvm.Stand Jvm.Free Jvm.LawKit Jvm.RoadKit
/-- a body: its method, its bytes, how many locals, what it returns -/
abbrev Bdy : Type := MethodName × ByteArray × Nat × Option FieldType
/-- what is known all over the walk of one body -/
def Cx (p : Program) (s : State) (m : MethodId) (meth : Method) (c : Code) (Z : State) (B : Bdy) : Prop :=
  p.tables.exec = Jvm.exec ∧ Z.Warmed39 s.vm ∧ s.vm.findClass B.1.cls = some m.cls ∧ c.code = B.2.1 ∧ c.maxLocals = B.2.2.1 ∧ meth.sig.returnType = B.2.2.2 ∧ meth.locks = false ∧ meth.name = B.1.name ∧ Z.WarmedH s.vm ∧ s.methodNamed? B.1 = some m
/-- from pc, with these locals and this operand stack, over the heap h, the body B returns, and Q holds of what it returns and of the heap then; only cells from n0 on are written -/
def Go (l : Launch) (Z : State) (R : Room) (B : Bdy) (n0 : Nat) (Q : Option Value → Heap → Prop) (h : Heap) (cl sl pc : Nat) (Ls : Array Slot) (st : List Value) : Prop :=
  ∀ (p : Program) (e : Env) (s : State) (m : MethodId) (args : Array Value) (below : List Frame) (meth : Method) (c : Code) (T : State) (locs : List Loc),
    Stand p l e R s m args below meth c T locs cl sl → Cx p s m meth c Z B → Fr n0 locs → T.heap = h → n0 ≤ h.size →
    ∃ s₂ o, Steps p.tables e below (T.setTop (mkF m pc Ls st)) s₂ ∧ s₂.status = .running ∧ Ended s₂ below o ∧
      ∃ v L, o = .returned v ∧ (Q v s₂.heap ∧ n0 ≤ s₂.heap.size ∧ Fr n0 L) ∧ FrameEnd s o s₂ L R.cells R.slots
section Rules
variable {l : Launch} {Z : State} {R : Room} {B : Bdy} {n0 : Nat} {Q : Option Value → Heap → Prop} {h : Heap} {cl sl pc : Nat} {Ls : Array Slot} {st : List Value} {a0 : Array Value}
theorem Go.lift {pc' : Nat} {Ls' : Array Slot} {st' : List Value}
    (f : ∀ {p : Program} {e : Env} {below : List Frame} {T target : State} {m : MethodId} {c : Code}, At T m c below → p.tables.exec = Jvm.exec → c.code = B.2.1 → Steps p.tables e below (T.setTop (mkF m pc' Ls' st')) target → Steps p.tables e below (T.setTop (mkF m pc Ls st)) target)
    (k : Go l Z R B n0 Q h cl sl pc' Ls' st') : Go l Z R B n0 Q h cl sl pc Ls st := by
  intro p e s m args below meth c T locs X cx fr eT hn
  obtain ⟨s₂, o, h1, r⟩ := k _ _ _ _ _ _ _ _ _ _ X cx fr eT hn
  exact ⟨s₂, o, f X.here cx.1 cx.2.2.2.1 h1, r⟩
theorem Go.conseq {Q' : Option Value → Heap → Prop} (k : Go l Z R B n0 Q' h cl sl pc Ls st) (q : ∀ v h', Q' v h' → Q v h') : Go l Z R B n0 Q h cl sl pc Ls st := by
  intro p e s m args below meth c T locs X cx fr eT hn
  obtain ⟨s₂, o, h1, h2, h3, v, L, h4, h5, h6⟩ := k _ _ _ _ _ _ _ _ _ _ X cx fr eT hn
  exact ⟨s₂, o, h1, h2, h3, v, L, h4, ⟨q _ _ h5.1, h5.2⟩, h6⟩
/-! ### plain steps; each rule names the next pc first -/
theorem Go.aloadN (pc' : Nat) {i : Fin 4} {v : Value} (hd : decode B.2.1 pc = .ok (.aload_n i, 1)) (hp : pc + 1 = pc') (hl : Ls[i.val]? = some (.val v)) (hv : v.isRef = true) (k : Go l Z R B n0 Q h cl sl pc' Ls (v :: st)) : Go l Z R B n0 Q h cl sl pc Ls st := by
  subst hp; exact Go.lift (fun at_ hx hc q => XS.aloadN at_ hx rfl (hb hc hd) hl hv q) k
theorem Go.aload (pc' : Nat) {i : Nat} {v : Value} (hd : decode B.2.1 pc = .ok (.aload i, 2)) (hp : pc + 2 = pc') (hl : Ls[i]? = some (.val v)) (hv : v.isRef = true) (k : Go l Z R B n0 Q h cl sl pc' Ls (v :: st)) : Go l Z R B n0 Q h cl sl pc Ls st := by
  subst hp; exact Go.lift (fun at_ hx hc q => XS.aload at_ hx rfl (hb hc hd) hl hv q) k
theorem Go.iloadN (pc' : Nat) {i : Fin 4} {v : Int32} (hd : decode B.2.1 pc = .ok (.iload_n i, 1)) (hp : pc + 1 = pc') (hl : Ls[i.val]? = some (.val (.int v))) (k : Go l Z R B n0 Q h cl sl pc' Ls (.int v :: st)) : Go l Z R B n0 Q h cl sl pc Ls st := by
  subst hp; exact Go.lift (fun at_ hx hc q => XS.iloadN at_ hx rfl (hb hc hd) hl q) k
theorem Go.iload (pc' : Nat) {i : Nat} {v : Int32} (hd : decode B.2.1 pc = .ok (.iload i, 2)) (hp : pc + 2 = pc') (hl : Ls[i]? = some (.val (.int v))) (k : Go l Z R B n0 Q h cl sl pc' Ls (.int v :: st)) : Go l Z R B n0 Q h cl sl pc Ls st := by
  subst hp; exact Go.lift (fun at_ hx hc q => XS.iload at_ hx rfl (hb hc hd) hl q) k
theorem Go.lloadN (pc' : Nat) {i : Fin 4} {v : Int64} (hd : decode B.2.1 pc = .ok (.lload_n i, 1)) (hp : pc + 1 = pc') (hl : Ls[i.val]? = some (.val (.long v))) (k : Go l Z R B n0 Q h cl sl pc' Ls (.long v :: st)) : Go l Z R B n0 Q h cl sl pc Ls st := by
  subst hp; exact Go.lift (fun at_ hx hc q => XT.lloadN at_ hx rfl (hb hc hd) hl q) k
theorem Go.lload (pc' : Nat) {i : Nat} {v : Int64} (hd : decode B.2.1 pc = .ok (.lload i, 2)) (hp : pc + 2 = pc') (hl : Ls[i]? = some (.val (.long v))) (k : Go l Z R B n0 Q h cl sl pc' Ls (.long v :: st)) : Go l Z R B n0 Q h cl sl pc Ls st := by
  subst hp; exact Go.lift (fun at_ hx hc q => XT.lload at_ hx rfl (hb hc hd) hl q) k
theorem Go.dloadN (pc' : Nat) {i : Fin 4} {v : UInt64} (hd : decode B.2.1 pc = .ok (.dload_n i, 1)) (hp : pc + 1 = pc') (hl : Ls[i.val]? = some (.val (.double v))) (k : Go l Z R B n0 Q h cl sl pc' Ls (.double v :: st)) : Go l Z R B n0 Q h cl sl pc Ls st := by
  subst hp; exact Go.lift (fun at_ hx hc q => XS.dloadN at_ hx rfl (hb hc hd) hl q) k
theorem Go.dload (pc' : Nat) {i : Nat} {v : UInt64} (hd : decode B.2.1 pc = .ok (.dload i, 2)) (hp : pc + 2 = pc') (hl : Ls[i]? = some (.val (.double v))) (k : Go l Z R B n0 Q h cl sl pc' Ls (.double v :: st)) : Go l Z R B n0 Q h cl sl pc Ls st := by
  subst hp; exact Go.lift (fun at_ hx hc q => XS.dload at_ hx rfl (hb hc hd) hl q) k
theorem Go.istoreN (pc' : Nat) (Ls' : Array Slot) {i : Fin 4} {x : Int32} (hd : decode B.2.1 pc = .ok (.istore_n i, 1)) (hp : pc + 1 = pc') (hl : storeLocals Ls i.val (.int x) = some Ls') (k : Go l Z R B n0 Q h cl sl pc' Ls' st) : Go l Z R B n0 Q h cl sl pc Ls (.int x :: st) := by
  subst hp; exact Go.lift (fun at_ hx hc q => XS.istoreN at_ hx rfl (hb hc hd) rfl hl q) k
theorem Go.istore (pc' : Nat) (Ls' : Array Slot) {i : Nat} {x : Int32} (hd : decode B.2.1 pc = .ok (.istore i, 2)) (hp : pc + 2 = pc') (hl : storeLocals Ls i (.int x) = some Ls') (k : Go l Z R B n0 Q h cl sl pc' Ls' st) : Go l Z R B n0 Q h cl sl pc Ls (.int x :: st) := by
  subst hp; exact Go.lift (fun at_ hx hc q => XS.istore at_ hx rfl (hb hc hd) rfl hl q) k
theorem Go.lstoreN (pc' : Nat) (Ls' : Array Slot) {i : Fin 4} {x : Int64} (hd : decode B.2.1 pc = .ok (.lstore_n i, 1)) (hp : pc + 1 = pc') (hl : storeLocals Ls i.val (.long x) = some Ls') (k : Go l Z R B n0 Q h cl sl pc' Ls' st) : Go l Z R B n0 Q h cl sl pc Ls (.long x :: st) := by
  subst hp; exact Go.lift (fun at_ hx hc q => XT.lstoreN at_ hx rfl (hb hc hd) rfl hl q) k
theorem Go.lstore (pc' : Nat) (Ls' : Array Slot) {i : Nat} {x : Int64} (hd : decode B.2.1 pc = .ok (.lstore i, 2)) (hp : pc + 2 = pc') (hl : storeLocals Ls i (.long x) = some Ls') (k : Go l Z R B n0 Q h cl sl pc' Ls' st) : Go l Z R B n0 Q h cl sl pc Ls (.long x :: st) := by
  subst hp; exact Go.lift (fun at_ hx hc q => XT.lstore at_ hx rfl (hb hc hd) rfl hl q) k
theorem Go.dstoreN (pc' : Nat) (Ls' : Array Slot) {i : Fin 4} {x : UInt64} (hd : decode B.2.1 pc = .ok (.dstore_n i, 1)) (hp : pc + 1 = pc') (hl : storeLocals Ls i.val (.double x) = some Ls') (k : Go l Z R B n0 Q h cl sl pc' Ls' st) : Go l Z R B n0 Q h cl sl pc Ls (.double x :: st) := by
  subst hp; exact Go.lift (fun at_ hx hc q => XS.dstoreN at_ hx rfl (hb hc hd) rfl hl q) k
theorem Go.dstore (pc' : Nat) (Ls' : Array Slot) {i : Nat} {x : UInt64} (hd : decode B.2.1 pc = .ok (.dstore i, 2)) (hp : pc + 2 = pc') (hl : storeLocals Ls i (.double x) = some Ls') (k : Go l Z R B n0 Q h cl sl pc' Ls' st) : Go l Z R B n0 Q h cl sl pc Ls (.double x :: st) := by
  subst hp; exact Go.lift (fun at_ hx hc q => XS.dstore at_ hx rfl (hb hc hd) rfl hl q) k
theorem Go.astoreN (pc' : Nat) (Ls' : Array Slot) {i : Fin 4} {x : Value} (hd : decode B.2.1 pc = .ok (.astore_n i, 1)) (hp : pc + 1 = pc') (hv : x.isRef = true) (hl : storeLocals Ls i.val x = some Ls') (k : Go l Z R B n0 Q h cl sl pc' Ls' st) : Go l Z R B n0 Q h cl sl pc Ls (x :: st) := by
  subst hp; exact Go.lift (fun at_ hx hc q => XS.astoreN at_ hx rfl (hb hc hd) rfl hv hl q) k
theorem Go.astore (pc' : Nat) (Ls' : Array Slot) {i : Nat} {x : Value} (hd : decode B.2.1 pc = .ok (.astore i, 2)) (hp : pc + 2 = pc') (hv : x.isRef = true) (hl : storeLocals Ls i x = some Ls') (k : Go l Z R B n0 Q h cl sl pc' Ls' st) : Go l Z R B n0 Q h cl sl pc Ls (x :: st) := by
  subst hp; exact Go.lift (fun at_ hx hc q => XS.astore at_ hx rfl (hb hc hd) rfl hv hl q) k
theorem Go.iinc (pc' : Nat) (Ls' : Array Slot) (v : Int32) {i : Nat} {cst : Int} {x : Int32} (hd : decode B.2.1 pc = .ok (.iinc i cst, 3)) (hp : pc + 3 = pc') (hl : Ls[i]? = some (.val (.int x))) (hv : x + Int32.ofInt cst = v) (hl' : storeLocals Ls i (.int v) = some Ls') (k : Go l Z R B n0 Q h cl sl pc' Ls' st) : Go l Z R B n0 Q h cl sl pc Ls st := by
  subst hp; subst hv; exact Go.lift (fun at_ hx hc q => XS.iinc at_ hx rfl (hb hc hd) hl hl' q) k
theorem Go.iconst (pc' : Nat) (v : Int32) {i : Int} (hd : decode B.2.1 pc = .ok (.iconst i, 1)) (hp : pc + 1 = pc') (hv : Int32.ofInt i = v) (k : Go l Z R B n0 Q h cl sl pc' Ls (.int v :: st)) : Go l Z R B n0 Q h cl sl pc Ls st := by
  subst hp; exact Go.lift (fun at_ hx hc q => XT.iconstV at_ hx rfl v (hb hc hd) hv q) k
theorem Go.bipush (pc' : Nat) (v : Int32) {i : Int} (hd : decode B.2.1 pc = .ok (.bipush i, 2)) (hp : pc + 2 = pc') (hv : (Int8.ofInt i).toInt32 = v) (k : Go l Z R B n0 Q h cl sl pc' Ls (.int v :: st)) : Go l Z R B n0 Q h cl sl pc Ls st := by
  subst hp; exact Go.lift (fun at_ hx hc q => XT.bipushV at_ hx rfl v (hb hc hd) hv q) k
theorem Go.sipush (pc' : Nat) (v : Int32) {i : Int} (hd : decode B.2.1 pc = .ok (.sipush i, 3)) (hp : pc + 3 = pc') (hv : (Int16.ofInt i).toInt32 = v) (k : Go l Z R B n0 Q h cl sl pc' Ls (.int v :: st)) : Go l Z R B n0 Q h cl sl pc Ls st := by
  subst hp; exact Go.lift (fun at_ hx hc q => XT.sipushV at_ hx rfl v (hb hc hd) hv q) k
theorem Go.lconst (pc' : Nat) (v : Int64) {i : Fin 2} (hd : decode B.2.1 pc = .ok (.lconst i, 1)) (hp : pc + 1 = pc') (hv : Int64.ofNat i = v) (k : Go l Z R B n0 Q h cl sl pc' Ls (.long v :: st)) : Go l Z R B n0 Q h cl sl pc Ls st := by
  subst hp; exact Go.lift (fun at_ hx hc q => XT.lconstV at_ hx rfl v (hb hc hd) hv q) k
theorem Go.dconst0 (pc' : Nat) (v : UInt64) (hd : decode B.2.1 pc = .ok (.dconst 0, 1)) (hp : pc + 1 = pc') (hv : FP.dconst0 = v) (k : Go l Z R B n0 Q h cl sl pc' Ls (.double v :: st)) : Go l Z R B n0 Q h cl sl pc Ls st := by
  subst hp; exact Go.lift (fun at_ hx hc q => XS.dconst0 at_ hx rfl (hb hc hd) hv q) k
theorem Go.dconst1 (pc' : Nat) (v : UInt64) (hd : decode B.2.1 pc = .ok (.dconst 1, 1)) (hp : pc + 1 = pc') (hv : FP.dconst1 = v) (k : Go l Z R B n0 Q h cl sl pc' Ls (.double v :: st)) : Go l Z R B n0 Q h cl sl pc Ls st := by
  subst hp; exact Go.lift (fun at_ hx hc q => XS.dconst1 at_ hx rfl (hb hc hd) hv q) k
theorem Go.aconstNull (pc' : Nat) (hd : decode B.2.1 pc = .ok (.aconst_null, 1)) (hp : pc + 1 = pc') (k : Go l Z R B n0 Q h cl sl pc' Ls (.null :: st)) : Go l Z R B n0 Q h cl sl pc Ls st := by
  subst hp; exact Go.lift (fun at_ hx hc q => XS.aconstNull at_ hx rfl (hb hc hd) q) k
/-! arithmetic; the value is named: v, by an equation -/
theorem Go.iadd (pc' : Nat) (v : Int32) {x y : Int32} (hd : decode B.2.1 pc = .ok (.iadd, 1)) (hp : pc + 1 = pc') (hv : x + y = v) (k : Go l Z R B n0 Q h cl sl pc' Ls (.int v :: st)) : Go l Z R B n0 Q h cl sl pc Ls (.int y :: .int x :: st) := by
  subst hp; subst hv; exact Go.lift (fun at_ hx hc q => XS.iadd at_ hx rfl (hb hc hd) rfl q) k
theorem Go.isub (pc' : Nat) (v : Int32) {x y : Int32} (hd : decode B.2.1 pc = .ok (.isub, 1)) (hp : pc + 1 = pc') (hv : x - y = v) (k : Go l Z R B n0 Q h cl sl pc' Ls (.int v :: st)) : Go l Z R B n0 Q h cl sl pc Ls (.int y :: .int x :: st) := by
  subst hp; subst hv; exact Go.lift (fun at_ hx hc q => XS.isub at_ hx rfl (hb hc hd) rfl q) k
theorem Go.imul (pc' : Nat) (v : Int32) {x y : Int32} (hd : decode B.2.1 pc = .ok (.imul, 1)) (hp : pc + 1 = pc') (hv : x * y = v) (k : Go l Z R B n0 Q h cl sl pc' Ls (.int v :: st)) : Go l Z R B n0 Q h cl sl pc Ls (.int y :: .int x :: st) := by
  subst hp; subst hv; exact Go.lift (fun at_ hx hc q => XS.imul at_ hx rfl (hb hc hd) rfl q) k
theorem Go.idiv (pc' : Nat) (v : Int32) {x y : Int32} (hd : decode B.2.1 pc = .ok (.idiv, 1)) (hp : pc + 1 = pc') (hy : y ≠ 0) (hv : x / y = v) (k : Go l Z R B n0 Q h cl sl pc' Ls (.int v :: st)) : Go l Z R B n0 Q h cl sl pc Ls (.int y :: .int x :: st) := by
  subst hp; subst hv; exact Go.lift (fun at_ hx hc q => XS.idiv at_ hx rfl (hb hc hd) rfl hy q) k
theorem Go.irem (pc' : Nat) (v : Int32) {x y : Int32} (hd : decode B.2.1 pc = .ok (.irem, 1)) (hp : pc + 1 = pc') (hy : y ≠ 0) (hv : x % y = v) (k : Go l Z R B n0 Q h cl sl pc' Ls (.int v :: st)) : Go l Z R B n0 Q h cl sl pc Ls (.int y :: .int x :: st) := by
  subst hp; subst hv
  have q0 : x - x / y * y = x % y := irem_eq_mod x y
  have k' : Go l Z R B n0 Q h cl sl (pc + 1) Ls (.int (x - x / y * y) :: st) := by rw [q0]; exact k
  intro p e s m args below meth c T locs X cx fr eT hn
  obtain ⟨s₂, o, h1, r⟩ := k' _ _ _ _ _ _ _ _ _ _ X cx fr eT hn
  exact ⟨s₂, o, XS.irem X.here cx.1 (g := mkF m pc Ls (.int y :: .int x :: st)) rfl (hb cx.2.2.2.1 hd) rfl hy h1, r⟩
theorem Go.iand (pc' : Nat) (v : Int32) {x y : Int32} (hd : decode B.2.1 pc = .ok (.iand, 1)) (hp : pc + 1 = pc') (hv : x &&& y = v) (k : Go l Z R B n0 Q h cl sl pc' Ls (.int v :: st)) : Go l Z R B n0 Q h cl sl pc Ls (.int y :: .int x :: st) := by
  subst hp; subst hv; exact Go.lift (fun at_ hx hc q => XS.iand at_ hx rfl (hb hc hd) rfl q) k
theorem Go.ixor (pc' : Nat) (v : Int32) {x y : Int32} (hd : decode B.2.1 pc = .ok (.ixor, 1)) (hp : pc + 1 = pc') (hv : x ^^^ y = v) (k : Go l Z R B n0 Q h cl sl pc' Ls (.int v :: st)) : Go l Z R B n0 Q h cl sl pc Ls (.int y :: .int x :: st) := by
  subst hp; subst hv; exact Go.lift (fun at_ hx hc q => XT.ixor at_ hx rfl (hb hc hd) rfl q) k
theorem Go.ishl (pc' : Nat) (v : Int32) {x y : Int32} (hd : decode B.2.1 pc = .ok (.ishl, 1)) (hp : pc + 1 = pc') (hv : x <<< (y &&& 31) = v) (k : Go l Z R B n0 Q h cl sl pc' Ls (.int v :: st)) : Go l Z R B n0 Q h cl sl pc Ls (.int y :: .int x :: st) := by
  subst hp; subst hv; exact Go.lift (fun at_ hx hc q => XT.ishl at_ hx rfl (hb hc hd) rfl q) k
theorem Go.iushr (pc' : Nat) (v : Int32) {x y : Int32} (hd : decode B.2.1 pc = .ok (.iushr, 1)) (hp : pc + 1 = pc') (hv : XT.ushr x y = v) (k : Go l Z R B n0 Q h cl sl pc' Ls (.int v :: st)) : Go l Z R B n0 Q h cl sl pc Ls (.int y :: .int x :: st) := by
  subst hp; subst hv; exact Go.lift (fun at_ hx hc q => XT.iushr at_ hx rfl (hb hc hd) rfl q) k
theorem Go.ineg (pc' : Nat) (v : Int32) {x : Int32} (hd : decode B.2.1 pc = .ok (.ineg, 1)) (hp : pc + 1 = pc') (hv : -x = v) (k : Go l Z R B n0 Q h cl sl pc' Ls (.int v :: st)) : Go l Z R B n0 Q h cl sl pc Ls (.int x :: st) := by
  subst hp; subst hv; exact Go.lift (fun at_ hx hc q => XS.ineg at_ hx rfl (hb hc hd) rfl q) k
theorem Go.ladd (pc' : Nat) (v : Int64) {x y : Int64} (hd : decode B.2.1 pc = .ok (.ladd, 1)) (hp : pc + 1 = pc') (hv : x + y = v) (k : Go l Z R B n0 Q h cl sl pc' Ls (.long v :: st)) : Go l Z R B n0 Q h cl sl pc Ls (.long y :: .long x :: st) := by
  subst hp; subst hv; exact Go.lift (fun at_ hx hc q => XT.ladd at_ hx rfl (hb hc hd) rfl q) k
theorem Go.lsub (pc' : Nat) (v : Int64) {x y : Int64} (hd : decode B.2.1 pc = .ok (.lsub, 1)) (hp : pc + 1 = pc') (hv : x - y = v) (k : Go l Z R B n0 Q h cl sl pc' Ls (.long v :: st)) : Go l Z R B n0 Q h cl sl pc Ls (.long y :: .long x :: st) := by
  subst hp; subst hv; exact Go.lift (fun at_ hx hc q => XT.lsub at_ hx rfl (hb hc hd) rfl q) k
theorem Go.lmul (pc' : Nat) (v : Int64) {x y : Int64} (hd : decode B.2.1 pc = .ok (.lmul, 1)) (hp : pc + 1 = pc') (hv : x * y = v) (k : Go l Z R B n0 Q h cl sl pc' Ls (.long v :: st)) : Go l Z R B n0 Q h cl sl pc Ls (.long y :: .long x :: st) := by
  subst hp; subst hv; exact Go.lift (fun at_ hx hc q => XT.lmul at_ hx rfl (hb hc hd) rfl q) k
theorem Go.land (pc' : Nat) (v : Int64) {x y : Int64} (hd : decode B.2.1 pc = .ok (.land, 1)) (hp : pc + 1 = pc') (hv : x &&& y = v) (k : Go l Z R B n0 Q h cl sl pc' Ls (.long v :: st)) : Go l Z R B n0 Q h cl sl pc Ls (.long y :: .long x :: st) := by
  subst hp; subst hv; exact Go.lift (fun at_ hx hc q => XT.land at_ hx rfl (hb hc hd) rfl q) k
theorem Go.lshl (pc' : Nat) (v : Int64) {x : Int64} {y : Int32} (hd : decode B.2.1 pc = .ok (.lshl, 1)) (hp : pc + 1 = pc') (hv : x <<< (y.toInt64 &&& 63) = v) (k : Go l Z R B n0 Q h cl sl pc' Ls (.long v :: st)) : Go l Z R B n0 Q h cl sl pc Ls (.int y :: .long x :: st) := by
  subst hp; subst hv; exact Go.lift (fun at_ hx hc q => XT.lshl at_ hx rfl (hb hc hd) rfl q) k
theorem Go.lshr (pc' : Nat) (v : Int64) {x : Int64} {y : Int32} (hd : decode B.2.1 pc = .ok (.lshr, 1)) (hp : pc + 1 = pc') (hv : x >>> (y.toInt64 &&& 63) = v) (k : Go l Z R B n0 Q h cl sl pc' Ls (.long v :: st)) : Go l Z R B n0 Q h cl sl pc Ls (.int y :: .long x :: st) := by
  subst hp; subst hv; exact Go.lift (fun at_ hx hc q => XT.lshr at_ hx rfl (hb hc hd) rfl q) k
theorem Go.lushr (pc' : Nat) (v : Int64) {x : Int64} {y : Int32} (hd : decode B.2.1 pc = .ok (.lushr, 1)) (hp : pc + 1 = pc') (hv : XT.ushrL x y = v) (k : Go l Z R B n0 Q h cl sl pc' Ls (.long v :: st)) : Go l Z R B n0 Q h cl sl pc Ls (.int y :: .long x :: st) := by
  subst hp; subst hv; exact Go.lift (fun at_ hx hc q => XT.lushr at_ hx rfl (hb hc hd) rfl q) k
theorem Go.i2l (pc' : Nat) (v : Int64) {x : Int32} (hd : decode B.2.1 pc = .ok (.i2l, 1)) (hp : pc + 1 = pc') (hv : x.toInt64 = v) (k : Go l Z R B n0 Q h cl sl pc' Ls (.long v :: st)) : Go l Z R B n0 Q h cl sl pc Ls (.int x :: st) := by
  subst hp; subst hv; exact Go.lift (fun at_ hx hc q => XT.i2l at_ hx rfl (hb hc hd) rfl q) k
theorem Go.l2i (pc' : Nat) (v : Int32) {x : Int64} (hd : decode B.2.1 pc = .ok (.l2i, 1)) (hp : pc + 1 = pc') (hv : x.toInt32 = v) (k : Go l Z R B n0 Q h cl sl pc' Ls (.int v :: st)) : Go l Z R B n0 Q h cl sl pc Ls (.long x :: st) := by
  subst hp; subst hv; exact Go.lift (fun at_ hx hc q => XT.l2i at_ hx rfl (hb hc hd) rfl q) k
theorem Go.i2s (pc' : Nat) (v : Int32) {x : Int32} (hd : decode B.2.1 pc = .ok (.i2s, 1)) (hp : pc + 1 = pc') (hv : x.toInt16.toInt32 = v) (k : Go l Z R B n0 Q h cl sl pc' Ls (.int v :: st)) : Go l Z R B n0 Q h cl sl pc Ls (.int x :: st) := by
  subst hp; subst hv; exact Go.lift (fun at_ hx hc q => XT.i2s at_ hx rfl (hb hc hd) rfl q) k
theorem Go.i2d (pc' : Nat) (v : UInt64) {x : Int32} (hd : decode B.2.1 pc = .ok (.i2d, 1)) (hp : pc + 1 = pc') (hv : FP.i2d x = v) (k : Go l Z R B n0 Q h cl sl pc' Ls (.double v :: st)) : Go l Z R B n0 Q h cl sl pc Ls (.int x :: st) := by
  subst hp; exact Go.lift (fun at_ hx hc q => XS.i2dS at_ hx rfl (hb hc hd) rfl hv q) k
theorem Go.l2d (pc' : Nat) (v : UInt64) {x : Int64} (hd : decode B.2.1 pc = .ok (.l2d, 1)) (hp : pc + 1 = pc') (hv : FP.l2d x = v) (k : Go l Z R B n0 Q h cl sl pc' Ls (.double v :: st)) : Go l Z R B n0 Q h cl sl pc Ls (.long x :: st) := by
  subst hp; exact Go.lift (fun at_ hx hc q => XS.l2dS at_ hx rfl (hb hc hd) rfl hv q) k
theorem Go.d2l (pc' : Nat) (v : Int64) {x : UInt64} (hd : decode B.2.1 pc = .ok (.d2l, 1)) (hp : pc + 1 = pc') (hv : FP.d2l x = v) (k : Go l Z R B n0 Q h cl sl pc' Ls (.long v :: st)) : Go l Z R B n0 Q h cl sl pc Ls (.double x :: st) := by
  subst hp; exact Go.lift (fun at_ hx hc q => XS.d2lS at_ hx rfl (hb hc hd) rfl hv q) k
theorem Go.dadd (pc' : Nat) (v : UInt64) {x y : UInt64} (hd : decode B.2.1 pc = .ok (.dadd, 1)) (hp : pc + 1 = pc') (hv : FP.dadd x y = v) (hn : Jvm.Free.Fl.NoNaN64 v) (k : Go l Z R B n0 Q h cl sl pc' Ls (.double v :: st)) : Go l Z R B n0 Q h cl sl pc Ls (.double y :: .double x :: st) := by
  subst hp; exact Go.lift (fun at_ hx hc q => XS.daddS at_ hx rfl (hb hc hd) rfl (hv ▸ hn) hv q) k
theorem Go.dsub (pc' : Nat) (v : UInt64) {x y : UInt64} (hd : decode B.2.1 pc = .ok (.dsub, 1)) (hp : pc + 1 = pc') (hv : FP.dsub x y = v) (hn : Jvm.Free.Fl.NoNaN64 v) (k : Go l Z R B n0 Q h cl sl pc' Ls (.double v :: st)) : Go l Z R B n0 Q h cl sl pc Ls (.double y :: .double x :: st) := by
  subst hp; exact Go.lift (fun at_ hx hc q => XS.dsubS at_ hx rfl (hb hc hd) rfl (hv ▸ hn) hv q) k
theorem Go.dmul (pc' : Nat) (v : UInt64) {x y : UInt64} (hd : decode B.2.1 pc = .ok (.dmul, 1)) (hp : pc + 1 = pc') (hv : FP.dmul x y = v) (hn : Jvm.Free.Fl.NoNaN64 v) (k : Go l Z R B n0 Q h cl sl pc' Ls (.double v :: st)) : Go l Z R B n0 Q h cl sl pc Ls (.double y :: .double x :: st) := by
  subst hp; exact Go.lift (fun at_ hx hc q => XS.dmulS at_ hx rfl (hb hc hd) rfl (hv ▸ hn) hv q) k
theorem Go.ddiv (pc' : Nat) (v : UInt64) {x y : UInt64} (hd : decode B.2.1 pc = .ok (.ddiv, 1)) (hp : pc + 1 = pc') (hv : FP.ddiv x y = v) (hn : Jvm.Free.Fl.NoNaN64 v) (k : Go l Z R B n0 Q h cl sl pc' Ls (.double v :: st)) : Go l Z R B n0 Q h cl sl pc Ls (.double y :: .double x :: st) := by
  subst hp; exact Go.lift (fun at_ hx hc q => XS.ddivS at_ hx rfl (hb hc hd) rfl (hv ▸ hn) hv q) k
theorem Go.dcmp (pc' : Nat) (v : Int32) {o : CmpOp} {x y : UInt64} (hd : decode B.2.1 pc = .ok (.dcmp o, 1)) (hp : pc + 1 = pc') (hv : cmpValue (FP.dcmp x y) o = v) (k : Go l Z R B n0 Q h cl sl pc' Ls (.int v :: st)) : Go l Z R B n0 Q h cl sl pc Ls (.double y :: .double x :: st) := by
  subst hp; exact Go.lift (fun at_ hx hc q => XS.dcmpS at_ hx rfl (hb hc hd) rfl hv q) k
theorem Go.lcmp (pc' : Nat) (v : Int32) {x y : Int64} (hd : decode B.2.1 pc = .ok (.lcmp, 1)) (hp : pc + 1 = pc') (hv : XT.cmpL x y = v) (k : Go l Z R B n0 Q h cl sl pc' Ls (.int v :: st)) : Go l Z R B n0 Q h cl sl pc Ls (.long y :: .long x :: st) := by
  subst hp; subst hv; exact Go.lift (fun at_ hx hc q => XT.lcmp at_ hx rfl (hb hc hd) rfl q) k
theorem Go.dup (pc' : Nat) {x : Value} (hd : decode B.2.1 pc = .ok (.dup, 1)) (hp : pc + 1 = pc') (hc1 : x.category = 1) (k : Go l Z R B n0 Q h cl sl pc' Ls (x :: x :: st)) : Go l Z R B n0 Q h cl sl pc Ls (x :: st) := by
  subst hp; exact Go.lift (fun at_ hx hc q => XS.dup at_ hx rfl (hb hc hd) rfl hc1 q) k
theorem Go.pop (pc' : Nat) {x : Value} (hd : decode B.2.1 pc = .ok (.pop, 1)) (hp : pc + 1 = pc') (hc1 : x.category = 1) (k : Go l Z R B n0 Q h cl sl pc' Ls st) : Go l Z R B n0 Q h cl sl pc Ls (x :: st) := by
  subst hp; exact Go.lift (fun at_ hx hc q => XT.pop at_ hx rfl (hb hc hd) rfl hc1 q) k
theorem Go.dupX1 (pc' : Nat) {x y : Value} (hd : decode B.2.1 pc = .ok (.dup_x1, 1)) (hp : pc + 1 = pc') (hc1 : x.category = 1) (hc2 : y.category = 1) (k : Go l Z R B n0 Q h cl sl pc' Ls (x :: y :: x :: st)) : Go l Z R B n0 Q h cl sl pc Ls (x :: y :: st) := by
  subst hp; exact Go.lift (fun at_ hx hc q => XT.dupX1 at_ hx rfl (hb hc hd) rfl hc1 hc2 q) k
theorem Go.dup2 (pc' : Nat) {x y : Value} (hd : decode B.2.1 pc = .ok (.dup2, 1)) (hp : pc + 1 = pc') (hc1 : x.category = 1) (hc2 : y.category = 1) (k : Go l Z R B n0 Q h cl sl pc' Ls (x :: y :: x :: y :: st)) : Go l Z R B n0 Q h cl sl pc Ls (x :: y :: st) := by
  subst hp; exact Go.lift (fun at_ hx hc q => XT.dup2 at_ hx rfl (hb hc hd) rfl hc1 hc2 q) k
/-! jumps: both roads -/
theorem Go.goto (pc' : Nat) {o : Int} (hd : decode B.2.1 pc = .ok (.goto o, 3)) (ho : 0 ≤ (pc : Int) + o) (hp : ((pc : Int) + o).toNat = pc') (k : Go l Z R B n0 Q h cl sl pc' Ls st) : Go l Z R B n0 Q h cl sl pc Ls st :=
  Go.lift (fun at_ hx hc q => XS.goto at_ hx rfl (pc0 := pc) (pc' := pc') rfl (hb hc hd) ho hp q) k
theorem Go.ifC (pc' pc'' : Nat) {cd : ClassFile.Cond} {x : Int32} {o : Int} (hd : decode B.2.1 pc = .ok (.ifCond cd o, 3)) (ho : 0 ≤ (pc : Int) + o) (hp : ((pc : Int) + o).toNat = pc') (hp2 : pc + 3 = pc'')
    (k1 : ifCond.holds cd x = true → Go l Z R B n0 Q h cl sl pc' Ls st) (k2 : ifCond.holds cd x = false → Go l Z R B n0 Q h cl sl pc'' Ls st) : Go l Z R B n0 Q h cl sl pc Ls (.int x :: st) := by
  subst hp2
  cases hh : ifCond.holds cd x with
  | true => exact Go.lift (fun at_ hx hc q => XS.ifYes at_ hx rfl (pc0 := pc) (pc' := pc') rfl (hb hc hd) rfl hh ho hp q) (k1 hh)
  | false => exact Go.lift (fun at_ hx hc q => XS.ifNo at_ hx rfl (hb hc hd) rfl hh q) (k2 hh)
theorem Go.icmp (pc' pc'' : Nat) {cd : ClassFile.Cond} {x y : Int32} {o : Int} (hd : decode B.2.1 pc = .ok (.if_icmp cd o, 3)) (ho : 0 ≤ (pc : Int) + o) (hp : ((pc : Int) + o).toNat = pc') (hp2 : pc + 3 = pc'')
    (k1 : if_icmp.holds cd x y = true → Go l Z R B n0 Q h cl sl pc' Ls st) (k2 : if_icmp.holds cd x y = false → Go l Z R B n0 Q h cl sl pc'' Ls st) : Go l Z R B n0 Q h cl sl pc Ls (.int y :: .int x :: st) := by
  subst hp2
  cases hh : if_icmp.holds cd x y with
  | true => exact Go.lift (fun at_ hx hc q => XS.icmpYes at_ hx rfl (pc0 := pc) (pc' := pc') rfl (hb hc hd) rfl hh ho hp q) (k1 hh)
  | false => exact Go.lift (fun at_ hx hc q => XS.icmpNo at_ hx rfl (hb hc hd) rfl hh q) (k2 hh)
theorem Go.acmp (pc' pc'' : Nat) {cd : ClassFile.ACond} {x y : Value} {o : Int} (hd : decode B.2.1 pc = .ok (.if_acmp cd o, 3)) (ho : 0 ≤ (pc : Int) + o) (hp : ((pc : Int) + o).toNat = pc') (hp2 : pc + 3 = pc'') (hx1 : x.isRef = true) (hy1 : y.isRef = true)
    (k1 : XT.acmp cd x y = true → Go l Z R B n0 Q h cl sl pc' Ls st) (k2 : XT.acmp cd x y = false → Go l Z R B n0 Q h cl sl pc'' Ls st) : Go l Z R B n0 Q h cl sl pc Ls (y :: x :: st) := by
  subst hp2
  cases hh : XT.acmp cd x y with
  | true => exact Go.lift (fun at_ hx hc q => XT.acmpYes at_ hx rfl (pc0 := pc) (pc' := pc') rfl (hb hc hd) rfl hx1 hy1 hh ho hp q) (k1 hh)
  | false => exact Go.lift (fun at_ hx hc q => XT.acmpNo at_ hx rfl (hb hc hd) rfl hx1 hy1 hh q) (k2 hh)
/-! branches, said of whole numbers -/
def cmpP (cd : ClassFile.Cond) (x y : Int) : Prop := match cd with
  | .eq => x = y | .ne => x ≠ y | .lt => x < y | .ge => y ≤ x | .gt => y < x | .le => x ≤ y
def cmpN (cd : ClassFile.Cond) (x y : Int) : Prop := match cd with
  | .eq => x ≠ y | .ne => x = y | .lt => y ≤ x | .ge => x < y | .gt => x ≤ y | .le => y < x
theorem holds_t (cd : ClassFile.Cond) (x y : Int32) : if_icmp.holds cd x y = true ↔ cmpP cd x.toInt y.toInt := by
  cases cd <;> simp [if_icmp.holds, cmpP, Int32.lt_iff_toInt_lt, Int32.le_iff_toInt_le, ← Int32.toInt_inj]
theorem holds_f (cd : ClassFile.Cond) (x y : Int32) : if_icmp.holds cd x y = false ↔ cmpN cd x.toInt y.toInt := by
  cases cd <;> simp [if_icmp.holds, cmpN, Int32.lt_iff_toInt_lt, Int32.le_iff_toInt_le, ← Int32.toInt_inj]
theorem holds0_t (cd : ClassFile.Cond) (x : Int32) : ifCond.holds cd x = true ↔ cmpP cd x.toInt 0 := by rw [if0, holds_t]; exact Iff.rfl
theorem holds0_f (cd : ClassFile.Cond) (x : Int32) : ifCond.holds cd x = false ↔ cmpN cd x.toInt 0 := by rw [if0, holds_f]; exact Iff.rfl
theorem Go.icmpB (pc' pc'' : Nat) {cd : ClassFile.Cond} {x y : Int32} {o : Int} (hd : decode B.2.1 pc = .ok (.if_icmp cd o, 3)) (ho : 0 ≤ (pc : Int) + o) (hp : ((pc : Int) + o).toNat = pc') (hp2 : pc + 3 = pc'')
    (k1 : cmpP cd x.toInt y.toInt → Go l Z R B n0 Q h cl sl pc' Ls st) (k2 : cmpN cd x.toInt y.toInt → Go l Z R B n0 Q h cl sl pc'' Ls st) : Go l Z R B n0 Q h cl sl pc Ls (.int y :: .int x :: st) :=
  Go.icmp pc' pc'' hd ho hp hp2 (fun q => k1 ((holds_t _ _ _).mp q)) (fun q => k2 ((holds_f _ _ _).mp q))
theorem Go.icmpT (pc' : Nat) {cd : ClassFile.Cond} {x y : Int32} {o : Int} (hd : decode B.2.1 pc = .ok (.if_icmp cd o, 3)) (ho : 0 ≤ (pc : Int) + o) (hp : ((pc : Int) + o).toNat = pc')
    (q : cmpP cd x.toInt y.toInt) (k1 : Go l Z R B n0 Q h cl sl pc' Ls st) : Go l Z R B n0 Q h cl sl pc Ls (.int y :: .int x :: st) :=
  Go.icmp pc' (pc + 3) hd ho hp rfl (fun _ => k1) (fun r => by rw [(holds_t _ _ _).mpr q] at r; cases r)
theorem Go.icmpF (pc'' : Nat) {cd : ClassFile.Cond} {x y : Int32} {o : Int} (hd : decode B.2.1 pc = .ok (.if_icmp cd o, 3)) (hp2 : pc + 3 = pc'')
    (q : cmpN cd x.toInt y.toInt) (k2 : Go l Z R B n0 Q h cl sl pc'' Ls st) : Go l Z R B n0 Q h cl sl pc Ls (.int y :: .int x :: st) := by
  subst hp2; exact Go.lift (fun at_ hx hc q0 => XS.icmpNo at_ hx rfl (hb hc hd) rfl ((holds_f _ _ _).mpr q) q0) k2
theorem Go.ifCB (pc' pc'' : Nat) {cd : ClassFile.Cond} {x : Int32} {o : Int} (hd : decode B.2.1 pc = .ok (.ifCond cd o, 3)) (ho : 0 ≤ (pc : Int) + o) (hp : ((pc : Int) + o).toNat = pc') (hp2 : pc + 3 = pc'')
    (k1 : cmpP cd x.toInt 0 → Go l Z R B n0 Q h cl sl pc' Ls st) (k2 : cmpN cd x.toInt 0 → Go l Z R B n0 Q h cl sl pc'' Ls st) : Go l Z R B n0 Q h cl sl pc Ls (.int x :: st) :=
  Go.ifC pc' pc'' hd ho hp hp2 (fun q => k1 ((holds0_t _ _).mp q)) (fun q => k2 ((holds0_f _ _).mp q))
theorem Go.ifCT (pc' : Nat) {cd : ClassFile.Cond} {x : Int32} {o : Int} (hd : decode B.2.1 pc = .ok (.ifCond cd o, 3)) (ho : 0 ≤ (pc : Int) + o) (hp : ((pc : Int) + o).toNat = pc')
    (q : cmpP cd x.toInt 0) (k1 : Go l Z R B n0 Q h cl sl pc' Ls st) : Go l Z R B n0 Q h cl sl pc Ls (.int x :: st) :=
  Go.ifC pc' (pc + 3) hd ho hp rfl (fun _ => k1) (fun r => by rw [(holds0_t _ _).mpr q] at r; cases r)
theorem Go.ifCF (pc'' : Nat) {cd : ClassFile.Cond} {x : Int32} {o : Int} (hd : decode B.2.1 pc = .ok (.ifCond cd o, 3)) (hp2 : pc + 3 = pc'')
    (q : cmpN cd x.toInt 0) (k2 : Go l Z R B n0 Q h cl sl pc'' Ls st) : Go l Z R B n0 Q h cl sl pc Ls (.int x :: st) := by
  subst hp2; exact Go.lift (fun at_ hx hc q0 => XS.ifNo at_ hx rfl (hb hc hd) rfl ((holds0_f _ _).mpr q) q0) k2
/-! ### constants of the pool -/
theorem Go.ldc2J (pc' : Nat) (v : Int64) {index : Nat} (w : (Cond.constantLong B.1.cls index v).before a0 Z = true) (hd : decode B.2.1 pc = .ok (.ldc2_w index, 3)) (hp : pc + 3 = pc') (k : Go l Z R B n0 Q h cl sl pc' Ls (.long v :: st)) : Go l Z R B n0 Q h cl sl pc Ls st := by
  subst hp
  intro p e s m args below meth c T locs X cx fr eT hn
  obtain ⟨s₂, o, h1, r⟩ := k _ _ _ _ _ _ _ _ _ _ X cx fr eT hn
  exact ⟨s₂, o, X.ldc2J cx.1 cx.2.2.1 (mv cx.2.1 w) rfl (hb cx.2.2.2.1 hd) h1, r⟩
theorem Go.ldc2D (pc' : Nat) (v : UInt64) {index : Nat} (w : (Cond.constantDouble B.1.cls index v).before a0 Z = true) (hd : decode B.2.1 pc = .ok (.ldc2_w index, 3)) (hp : pc + 3 = pc') (k : Go l Z R B n0 Q h cl sl pc' Ls (.double v :: st)) : Go l Z R B n0 Q h cl sl pc Ls st := by
  subst hp
  intro p e s m args below meth c T locs X cx fr eT hn
  obtain ⟨s₂, o, h1, r⟩ := k _ _ _ _ _ _ _ _ _ _ X cx fr eT hn
  exact ⟨s₂, o, X.ldc2DoubleC cx.1 cx.2.2.1 (mv cx.2.1 w) (g := mkF m pc Ls st) rfl (hb cx.2.2.2.1 hd) _ h1, r⟩
theorem Go.ldcI (pc' : Nat) (v : Int32) {index : Nat} (w : (Cond.constant B.1.cls index v).before a0 Z = true) (hd : decode B.2.1 pc = .ok (.ldc index, 2)) (hp : pc + 2 = pc') (k : Go l Z R B n0 Q h cl sl pc' Ls (.int v :: st)) : Go l Z R B n0 Q h cl sl pc Ls st := by
  subst hp
  intro p e s m args below meth c T locs X cx fr eT hn
  obtain ⟨s₂, o, h1, r⟩ := k _ _ _ _ _ _ _ _ _ _ X cx fr eT hn
  exact ⟨s₂, o, X.ldcI cx.1 cx.2.2.1 (mv cx.2.1 w) rfl (hb cx.2.2.2.1 hd) h1, r⟩
/-! ### fields -/
theorem Go.getF (pc' : Nat) {R0 O n d host : String} {index : Nat} {a : Nat} {v : Value} (w : (Cond.fieldLink B.1.cls index R0 n d).before a0 Z = true ∨ (Cond.fieldLinkNest B.1.cls index R0 n d host).before a0 Z = true) (via : Via Z R0 O n d) (F : Fld Z h a O n d v) (hd : decode B.2.1 pc = .ok (.getfield index, 3)) (hp : pc + 3 = pc')
    (k : Go l Z R B n0 Q h cl sl pc' Ls (v :: st)) : Go l Z R B n0 Q h cl sl pc Ls (.ref a :: st) := by
  subst hp
  intro p e s m args below meth c T locs X cx fr eT hn
  obtain ⟨T', X', e', stp⟩ := RoadKit.getF X cx.1 cx.2.1 cx.2.2.1 w via eT F (g := mkF m pc Ls (.ref a :: st)) rfl rfl (hb cx.2.2.2.1 hd)
  obtain ⟨s₂, o, h1, r⟩ := k _ _ _ _ _ _ _ _ _ _ X' cx fr e' hn
  exact ⟨s₂, o, stp _ h1, r⟩
/-- getfield of a field that the class itself declares, by its plain link word -/
theorem Go.getf (pc' : Nat) {O n d : String} {index : Nat} {a : Nat} {v : Value} (w : (Cond.fieldLink B.1.cls index O n d).before a0 Z = true) (F : Fld Z h a O n d v) (hd : decode B.2.1 pc = .ok (.getfield index, 3)) (hp : pc + 3 = pc')
    (k : Go l Z R B n0 Q h cl sl pc' Ls (v :: st)) : Go l Z R B n0 Q h cl sl pc Ls (.ref a :: st) := Go.getF pc' (host := "") (Or.inl w) Via.refl F hd hp k
theorem Go.putF (pc' : Nat) {O n d C : String} {index kk : Nat} {ty : FieldType} {a : Nat} {v old : Value} (w : (Cond.fieldLink B.1.cls index O n d).before a0 Z = true) (F : Fld Z h a O n d old) (E : Exa Z h a C)
    (L : (Cond.lays C O n d).before a0 Z = true ∨ ((Cond.laysFinal C O n d).before a0 Z = true ∧ B.1.cls = O ∧ B.1.name = "<init>")) (wi : (Cond.instantiable C kk).before a0 Z = true)
    (hty : parseFieldDescriptor d = some ty) (hn : narrow ty v = v) (hf : fits ty v = true) (ha : n0 ≤ a) (hd : decode B.2.1 pc = .ok (.putfield index, 3)) (hp : pc + 3 = pc')
    (k : ∀ h', Wr h h' a (Jvm.RoadKit.slotOf Z O n d) v → Go l Z R B n0 Q h' cl sl pc' Ls st) : Go l Z R B n0 Q h cl sl pc Ls (v :: .ref a :: st) := by
  subst hp
  intro p e s m args below meth c T locs X cx fr eT hn'
  obtain ⟨T', h', X', e', W, stp⟩ := RoadKit.putF X cx.1 cx.2.1 (host := "") cx.2.2.1 (Or.inl w) Via.refl eT F E (L.imp id fun q => ⟨q.1, q.2.1, cx.2.2.2.2.2.2.2.1.trans q.2.2⟩) wi hty hn hf (g := mkF m pc Ls (v :: .ref a :: st)) rfl rfl (hb cx.2.2.2.1 hd)
  obtain ⟨s₂, o, h1, r⟩ := k h' W _ _ _ _ _ _ _ _ _ _ X' cx (Fr.snoc X' fr ha) e' (by rw [W.size]; exact hn')
  exact ⟨s₂, o, stp _ h1, r⟩
/-! ### objects -/
theorem Go.new (pc' : Nat) {C : String} {index n : Nat} (w : (Cond.classLink B.1.cls index C).before a0 Z = true) (wi : (Cond.instantiable C n).before a0 Z = true) (wz : (Cond.initialized C).before a0 Z = true) (hd : decode B.2.1 pc = .ok (.new index, 3)) (hp : pc + 3 = pc') (hc : cl + 1 ≤ R.cells) (hl : sl + n ≤ R.slots)
    (k : ∀ h' a, Ext h h' → h.size ≤ a → a < h'.size → n0 ≤ a → Exa Z h' a C → (∀ {O nm d : String} {ty : FieldType}, Laid Z a0 C O nm d → parseFieldDescriptor d = some ty → Fld Z h' a O nm d (defaultValue ty)) → Go l Z R B n0 Q h' (cl + 1) (sl + n) pc' Ls (.ref a :: st)) : Go l Z R B n0 Q h cl sl pc Ls st := by
  subst hp
  intro p e s m args below meth c T locs X cx fr eT hn
  obtain ⟨T', h', X', e', E, A, D, -, stp⟩ := newO X cx.1 cx.2.1 cx.2.2.1 w wi wz eT (g := mkF m pc Ls st) rfl (hb cx.2.2.2.1 hd) hc hl
  obtain ⟨s₂, o, h1, r⟩ := k h' h.size E (Nat.le_refl _) A.lt hn A D _ _ _ _ _ _ _ _ _ _ X' cx fr e' (Nat.le_trans hn E.1)
  exact ⟨s₂, o, stp _ h1, r⟩
/-- Object.<init> -/
theorem Go.initO (pc' : Nat) {index : Nat} {a : Nat} (w1 : (Cond.methodLink B.1.cls index Lib.objectInit).before a0 Z = true) (w2 : (Cond.instanceMethod Lib.objectInit).before a0 Z = true) (w3 : (Cond.code Lib.objectInit ⟨#[0xb1]⟩ 1 none).before a0 Z = true)
    (hsz : Ls.size = B.2.2.1) (hd : decode B.2.1 pc = .ok (.invokespecial index, 3)) (hp : pc + 3 = pc') (hfr : 1 ≤ R.frames) (hlo : (st.map fun v => v.category).sum + 12 ≤ R.locals) (k : Go l Z R B n0 Q h cl sl pc' Ls st) : Go l Z R B n0 Q h cl sl pc Ls (.ref a :: st) := by
  subst hp
  intro p e s m args below meth c T locs X cx fr eT hn
  obtain ⟨T', X', e', stp⟩ := RoadKit.initO X cx.1 cx.2.1 cx.2.2.1 w1 w2 w3 eT (g := mkF m pc Ls (.ref a :: st)) rfl (hsz.trans cx.2.2.2.2.1.symm) rfl (hb cx.2.2.2.1 hd) hfr (W := (st.map fun v => v.category).sum) (by show 2 * 0 + _ ≤ _; omega) hlo
  obtain ⟨s₂, o, h1, r⟩ := k _ _ _ _ _ _ _ _ _ _ X' cx fr e' hn
  exact ⟨s₂, o, stp _ h1, r⟩
/-! ### arrays -/
/-- the array at a holds just these values -/
def ArV (Z : State) (h : Heap) (a : Nat) (ty : FieldType) (vs : List Value) : Prop := ∃ c : Cell, Arr Z h a c ty ∧ c.slots.toList = vs ∧ vs.length < 2147483648
abbrev ArD (Z : State) (h : Heap) (a : Nat) (ds : List UInt64) : Prop := ArV Z h a .double (ds.map Value.double)
abbrev ArI (Z : State) (h : Heap) (a : Nat) (ds : List Int32) : Prop := ArV Z h a .int (ds.map Value.int)
abbrev ArJ (Z : State) (h : Heap) (a : Nat) (ds : List Int64) : Prop := ArV Z h a .long (ds.map Value.long)
theorem ArV.lt {a : Nat} {ty : FieldType} {vs : List Value} (A : ArV Z h a ty vs) : a < h.size := by obtain ⟨c, A, -⟩ := A; exact A.lt
theorem ArV.len {a : Nat} {ty : FieldType} {vs : List Value} (A : ArV Z h a ty vs) : vs.length < 2147483648 := by obtain ⟨c, -, -, q⟩ := A; exact q
theorem ArV.ext {h' : Heap} {a : Nat} {ty : FieldType} {vs : List Value} (A : ArV Z h a ty vs) (E : Ext h h') : ArV Z h' a ty vs := by obtain ⟨c, A, q⟩ := A; exact ⟨c, A.ext E, q⟩
theorem ArV.other {h' : Heap} {a b : Nat} {sl : Nat} {v : Value} {ty : FieldType} {vs : List Value} (A : ArV Z h b ty vs) (W : Wr h h' a sl v) (q : b ≠ a) : ArV Z h' b ty vs := by obtain ⟨c, A, r⟩ := A; exact ⟨c, A.other W q, r⟩
theorem ArV.keep {h' : Heap} {a : Nat} {ws : List Nat} {ty : FieldType} {vs : List Value} (A : ArV Z h a ty vs) (K : Keep h h' ws) (q : a ∉ ws) : ArV Z h' a ty vs := by obtain ⟨c, A, r⟩ := A; exact ⟨c, ⟨K.2.1 a c A.1 q, A.2⟩, r⟩
theorem idx_ok {j : Int32} {i n : Nat} (hj : j.toInt = (i : Int)) (hi : i < n) : ¬ (j < 0 ∨ n ≤ j.toNatClampNeg) ∧ j.toNatClampNeg = i := by
  have h1 : j.toNatClampNeg = i := by simp only [Int32.toNatClampNeg]; omega
  refine ⟨fun q => ?_, h1⟩
  rcases q with q | q
  · simp only [Int32.lt_iff_toInt_lt, Int32.reduceToInt] at q; omega
  · omega
theorem ArV.get {a : Nat} {ty : FieldType} {vs : List Value} {j : Int32} {i : Nat} {v : Value} (A : ArV Z h a ty vs) (hj : j.toInt = (i : Int)) (hi : vs[i]? = some v) : ∃ c : Cell, Arr Z h a c ty ∧ ¬ (j < 0 ∨ c.slots.size ≤ j.toNatClampNeg) ∧ c.slots[j.toNatClampNeg]? = some v := by
  obtain ⟨c, A, e, -⟩ := A
  have hlt : i < c.slots.size := by
    have := (List.getElem?_eq_some_iff.mp hi).1
    rw [← e] at this; simpa using this
  obtain ⟨q1, q2⟩ := idx_ok hj hlt
  refine ⟨c, A, q1, ?_⟩
  rw [q2, ← hi, ← e, Array.getElem?_toList]
theorem ArV.upd {h' : Heap} {a : Nat} {ty : FieldType} {vs : List Value} {j : Int32} {i : Nat} {v : Value} (A : ArV Z h a ty vs) (hj : j.toInt = (i : Int)) (hi : i < vs.length) (W : Wr h h' a j.toNatClampNeg v) : ArV Z h' a ty (vs.set i v) := by
  obtain ⟨c, A, e, hlen⟩ := A
  have hlt : i < c.slots.size := by rw [← e] at hi; simpa using hi
  obtain ⟨q1, q2⟩ := idx_ok hj hlt
  refine ⟨_, A.same W, ?_, by simpa using hlen⟩
  rw [q2, ← e]
  simp [Cell.setSlot, Array.toList_setIfInBounds]
theorem Wr.keep1 {h' : Heap} {a : Nat} {sl : Nat} {v : Value} (W : Wr h h' a sl v) : Keep h h' [a] := Keep.of_wr W
theorem Go.daload (pc' : Nat) {a : Nat} {ds : List UInt64} {j : Int32} {i : Nat} {x : UInt64} (A : ArD Z h a ds) (hj : j.toInt = (i : Int)) (hi : ds[i]? = some x) (hd : decode B.2.1 pc = .ok (.daload, 1)) (hp : pc + 1 = pc')
    (k : Go l Z R B n0 Q h cl sl pc' Ls (.double x :: st)) : Go l Z R B n0 Q h cl sl pc Ls (.int j :: .ref a :: st) := by
  subst hp
  intro p e s m args below meth c T locs X cx fr eT hn
  obtain ⟨s₂, o, h1, r⟩ := k _ _ _ _ _ _ _ _ _ _ X cx fr eT hn
  obtain ⟨c0, A0, q1, q2⟩ := A.get hj (v := .double x) (by rw [List.getElem?_map, hi]; rfl)
  exact ⟨s₂, o, X.daload cx.1 (by rw [eT]; exact A0.1) (State.isArrayOf_alike cx.2.1.alike A0.2.1) A0.2.2 q1 q2 (g := mkF m pc Ls (.int j :: .ref a :: st)) rfl rfl (hb cx.2.2.2.1 hd) _ h1, r⟩
theorem Go.iaload (pc' : Nat) {a : Nat} {ds : List Int32} {j : Int32} {i : Nat} {x : Int32} (A : ArI Z h a ds) (hj : j.toInt = (i : Int)) (hi : ds[i]? = some x) (hd : decode B.2.1 pc = .ok (.iaload, 1)) (hp : pc + 1 = pc')
    (k : Go l Z R B n0 Q h cl sl pc' Ls (.int x :: st)) : Go l Z R B n0 Q h cl sl pc Ls (.int j :: .ref a :: st) := by
  subst hp
  intro p e s m args below meth c T locs X cx fr eT hn
  obtain ⟨s₂, o, h1, r⟩ := k _ _ _ _ _ _ _ _ _ _ X cx fr eT hn
  obtain ⟨c0, A0, q1, q2⟩ := A.get hj (v := .int x) (by rw [List.getElem?_map, hi]; rfl)
  exact ⟨s₂, o, X.iaload cx.1 (by rw [eT]; exact A0.1) (State.isArrayOf_alike cx.2.1.alike A0.2.1) A0.2.2 q1 q2 (g := mkF m pc Ls (.int j :: .ref a :: st)) rfl rfl (hb cx.2.2.2.1 hd) _ h1, r⟩
theorem Go.laload (pc' : Nat) {a : Nat} {ds : List Int64} {j : Int32} {i : Nat} {x : Int64} (A : ArJ Z h a ds) (hj : j.toInt = (i : Int)) (hi : ds[i]? = some x) (hd : decode B.2.1 pc = .ok (.laload, 1)) (hp : pc + 1 = pc')
    (k : Go l Z R B n0 Q h cl sl pc' Ls (.long x :: st)) : Go l Z R B n0 Q h cl sl pc Ls (.int j :: .ref a :: st) := by
  subst hp
  intro p e s m args below meth c T locs X cx fr eT hn
  obtain ⟨s₂, o, h1, r⟩ := k _ _ _ _ _ _ _ _ _ _ X cx fr eT hn
  obtain ⟨c0, A0, q1, q2⟩ := A.get hj (v := .long x) (by rw [List.getElem?_map, hi]; rfl)
  exact ⟨s₂, o, X.laload cx.1 (by rw [eT]; exact A0.1) (State.isArrayOf_alike cx.2.1.alike A0.2.1) A0.2.2 q1 q2 (g := mkF m pc Ls (.int j :: .ref a :: st)) rfl rfl (hb cx.2.2.2.1 hd) _ h1, r⟩
theorem Go.alen (pc' : Nat) (v : Int32) {a : Nat} {ty : FieldType} {vs : List Value} (A : ArV Z h a ty vs) (hv : v.toInt = (vs.length : Int)) (hd : decode B.2.1 pc = .ok (.arraylength, 1)) (hp : pc + 1 = pc')
    (k : Go l Z R B n0 Q h cl sl pc' Ls (.int v :: st)) : Go l Z R B n0 Q h cl sl pc Ls (.ref a :: st) := by
  subst hp
  intro p e s m args below meth c T locs X cx fr eT hn
  obtain ⟨s₂, o, h1, r⟩ := k _ _ _ _ _ _ _ _ _ _ X cx fr eT hn
  obtain ⟨c0, A0, q1, q2⟩ := A
  have hsz : c0.slots.size = vs.length := by rw [← q1]; simp
  have hv' : c0.slots.size.toInt32 = v := by
    apply Int32.toInt_inj.mp
    rw [len_toInt (by omega), hv, hsz]
  exact ⟨s₂, o, X.arraylength cx.1 (by rw [eT]; exact A0.1) (State.isArrayOf_alike cx.2.1.alike A0.2.1) (g := mkF m pc Ls (.ref a :: st)) rfl rfl (hb cx.2.2.2.1 hd) _ (by rw [hv']; exact h1), r⟩
theorem Go.dastore (pc' : Nat) {a : Nat} {ds : List UInt64} {j : Int32} {i : Nat} {x : UInt64} (A : ArD Z h a ds) (hj : j.toInt = (i : Int)) (hi : i < ds.length) (ha : n0 ≤ a) (hd : decode B.2.1 pc = .ok (.dastore, 1)) (hp : pc + 1 = pc')
    (k : ∀ h', Keep h h' [a] → ArD Z h' a (ds.set i x) → Go l Z R B n0 Q h' cl sl pc' Ls st) : Go l Z R B n0 Q h cl sl pc Ls (.double x :: .int j :: .ref a :: st) := by
  subst hp
  intro p e s m args below meth c T locs X cx fr eT hn
  obtain ⟨c0, A0, q0, q⟩ := id A
  have hlt : i < c0.slots.size := by have : i < (c0.slots.toList).length := by rw [q0]; simpa using hi
                                     simpa using this
  obtain ⟨T', h', X', e', W, stp⟩ := stD X cx.1 cx.2.1 eT A0 (idx_ok hj hlt).1 (g := mkF m pc Ls (.double x :: .int j :: .ref a :: st)) rfl rfl (hb cx.2.2.2.1 hd)
  have A' := A.upd hj (by simpa using hi) W
  rw [← List.map_set] at A'
  obtain ⟨s₂, o, h1, r⟩ := k h' (Keep.of_wr W) A' _ _ _ _ _ _ _ _ _ _ X' cx (Fr.snoc X' fr ha) e' (by rw [W.size]; exact hn)
  exact ⟨s₂, o, stp _ h1, r⟩
theorem Go.iastore (pc' : Nat) {a : Nat} {ds : List Int32} {j : Int32} {i : Nat} {x : Int32} (A : ArI Z h a ds) (hj : j.toInt = (i : Int)) (hi : i < ds.length) (ha : n0 ≤ a) (hd : decode B.2.1 pc = .ok (.iastore, 1)) (hp : pc + 1 = pc')
    (k : ∀ h', Keep h h' [a] → ArI Z h' a (ds.set i x) → Go l Z R B n0 Q h' cl sl pc' Ls st) : Go l Z R B n0 Q h cl sl pc Ls (.int x :: .int j :: .ref a :: st) := by
  subst hp
  intro p e s m args below meth c T locs X cx fr eT hn
  obtain ⟨c0, A0, q0, q⟩ := id A
  have hlt : i < c0.slots.size := by have : i < (c0.slots.toList).length := by rw [q0]; simpa using hi
                                     simpa using this
  obtain ⟨T', h', X', e', W, stp⟩ := stI X cx.1 cx.2.1 eT A0 (idx_ok hj hlt).1 (g := mkF m pc Ls (.int x :: .int j :: .ref a :: st)) rfl rfl (hb cx.2.2.2.1 hd)
  have A' := A.upd hj (by simpa using hi) W
  rw [← List.map_set] at A'
  obtain ⟨s₂, o, h1, r⟩ := k h' (Keep.of_wr W) A' _ _ _ _ _ _ _ _ _ _ X' cx (Fr.snoc X' fr ha) e' (by rw [W.size]; exact hn)
  exact ⟨s₂, o, stp _ h1, r⟩
theorem Go.lastore (pc' : Nat) {a : Nat} {ds : List Int64} {j : Int32} {i : Nat} {x : Int64} (A : ArJ Z h a ds) (hj : j.toInt = (i : Int)) (hi : i < ds.length) (ha : n0 ≤ a) (hd : decode B.2.1 pc = .ok (.lastore, 1)) (hp : pc + 1 = pc')
    (k : ∀ h', Keep h h' [a] → ArJ Z h' a (ds.set i x) → Go l Z R B n0 Q h' cl sl pc' Ls st) : Go l Z R B n0 Q h cl sl pc Ls (.long x :: .int j :: .ref a :: st) := by
  subst hp
  intro p e s m args below meth c T locs X cx fr eT hn
  obtain ⟨c0, A0, q0, q⟩ := id A
  have hlt : i < c0.slots.size := by have : i < (c0.slots.toList).length := by rw [q0]; simpa using hi
                                     simpa using this
  obtain ⟨T', h', X', e', W, stp⟩ := stJ X cx.1 cx.2.1 eT A0 (idx_ok hj hlt).1 (g := mkF m pc Ls (.long x :: .int j :: .ref a :: st)) rfl rfl (hb cx.2.2.2.1 hd)
  have A' := A.upd hj (by simpa using hi) W
  rw [← List.map_set] at A'
  obtain ⟨s₂, o, h1, r⟩ := k h' (Keep.of_wr W) A' _ _ _ _ _ _ _ _ _ _ X' cx (Fr.snoc X' fr ha) e' (by rw [W.size]; exact hn)
  exact ⟨s₂, o, stp _ h1, r⟩
theorem Go.newarr (pc' : Nat) (cap : Nat) {aty : ArrayType} {n : Int32} {i : Nat} (w : (Cond.arrayClass (newarray.typeOf aty)).before a0 Z = true) (hi : n.toInt = (i : Int)) (hcap : i ≤ cap) (hbig : cap * 8 ≤ 536870912) (hd : decode B.2.1 pc = .ok (.newarray aty, 2)) (hp : pc + 2 = pc') (hc : cl + 1 ≤ R.cells) (hl : sl + cap ≤ R.slots)
    (k : ∀ h' a, Ext h h' → h.size ≤ a → n0 ≤ a → ArV Z h' a (newarray.typeOf aty) (List.replicate i (defaultValue (newarray.typeOf aty))) → Go l Z R B n0 Q h' (cl + 1) (sl + cap) pc' Ls (.ref a :: st)) : Go l Z R B n0 Q h cl sl pc Ls (.int n :: st) := by
  subst hp
  intro p e s m args below meth c T locs X cx fr eT hn
  have hnn : ¬ n < 0 := by simp only [Int32.lt_iff_toInt_lt, Int32.reduceToInt]; omega
  have hcl : n.toNatClampNeg = i := by simp only [Int32.toNatClampNeg]; omega
  obtain ⟨T', h', cA, X', e', E, A, stp⟩ := newP X cx.1 cx.2.1 w eT (g := mkF m pc Ls (.int n :: st)) rfl (hb cx.2.2.2.1 hd) rfl hnn (cap := cap) (by omega) hbig hc hl
  have A' : ArV Z h' h.size (newarray.typeOf aty) (List.replicate i (defaultValue (newarray.typeOf aty))) := ⟨_, A, by simp [newA, hcl], by
    have := Int32.toInt_lt n; simp only [List.length_replicate]; omega⟩
  obtain ⟨s₂, o, h1, r⟩ := k h' h.size E (Nat.le_refl _) hn A' _ _ _ _ _ _ _ _ _ _ X' cx fr e' (Nat.le_trans hn E.1)
  exact ⟨s₂, o, stp _ h1, r⟩
theorem Go.newD (pc' : Nat) (cap : Nat) {n : Int32} {i : Nat} (w : (Cond.arrayClass .double).before a0 Z = true) (hi : n.toInt = (i : Int)) (hcap : i ≤ cap) (hbig : cap * 8 ≤ 536870912) (hd : decode B.2.1 pc = .ok (.newarray .double, 2)) (hp : pc + 2 = pc') (hc : cl + 1 ≤ R.cells) (hl : sl + cap ≤ R.slots)
    (k : ∀ h' a, Ext h h' → h.size ≤ a → n0 ≤ a → ArD Z h' a (List.replicate i 0) → Go l Z R B n0 Q h' (cl + 1) (sl + cap) pc' Ls (.ref a :: st)) : Go l Z R B n0 Q h cl sl pc Ls (.int n :: st) :=
  Go.newarr pc' cap (aty := .double) w hi hcap hbig hd hp hc hl fun h' a E q1 q2 A => k h' a E q1 q2 (by show ArV _ _ _ _ _; rw [List.map_replicate]; exact A)
theorem Go.newI (pc' : Nat) (cap : Nat) {n : Int32} {i : Nat} (w : (Cond.arrayClass .int).before a0 Z = true) (hi : n.toInt = (i : Int)) (hcap : i ≤ cap) (hbig : cap * 8 ≤ 536870912) (hd : decode B.2.1 pc = .ok (.newarray .int, 2)) (hp : pc + 2 = pc') (hc : cl + 1 ≤ R.cells) (hl : sl + cap ≤ R.slots)
    (k : ∀ h' a, Ext h h' → h.size ≤ a → n0 ≤ a → ArI Z h' a (List.replicate i 0) → Go l Z R B n0 Q h' (cl + 1) (sl + cap) pc' Ls (.ref a :: st)) : Go l Z R B n0 Q h cl sl pc Ls (.int n :: st) :=
  Go.newarr pc' cap (aty := .int) w hi hcap hbig hd hp hc hl fun h' a E q1 q2 A => k h' a E q1 q2 (by show ArV _ _ _ _ _; rw [List.map_replicate]; exact A)
theorem Go.newJ (pc' : Nat) (cap : Nat) {n : Int32} {i : Nat} (w : (Cond.arrayClass .long).before a0 Z = true) (hi : n.toInt = (i : Int)) (hcap : i ≤ cap) (hbig : cap * 8 ≤ 536870912) (hd : decode B.2.1 pc = .ok (.newarray .long, 2)) (hp : pc + 2 = pc') (hc : cl + 1 ≤ R.cells) (hl : sl + cap ≤ R.slots)
    (k : ∀ h' a, Ext h h' → h.size ≤ a → n0 ≤ a → ArJ Z h' a (List.replicate i 0) → Go l Z R B n0 Q h' (cl + 1) (sl + cap) pc' Ls (.ref a :: st)) : Go l Z R B n0 Q h cl sl pc Ls (.int n :: st) :=
  Go.newarr pc' cap (aty := .long) w hi hcap hbig hd hp hc hl fun h' a E q1 q2 A => k h' a E q1 q2 (by show ArV _ _ _ _ _; rw [List.map_replicate]; exact A)
/-! ### returns -/
theorem Go.out {w : Option Value} (hv : B.2.2.2 = none → w = none) (q : Q w h) (hc : cl ≤ R.cells) (hs : sl ≤ R.slots)
    (f : ∀ {p : Program} {e : Env} {s : State} {m : MethodId} {args : Array Value} {below : List Frame} {meth : Method} {c : Code} {T : State} {locs : List Loc} {fs : List Frame}, Stand p l e R s m args below meth c T locs cl sl → p.tables.exec = Jvm.exec → c.code = B.2.1 → meth.sig.returnType = B.2.2.2 →
      (∀ (f : JFrame) (acts : List Action), f.method = m → f.locked = none → f.entered = [] → (doReturn e (T.setTop f) acts w).1 = T.setFrames fs) → Steps p.tables e below (T.setTop (mkF m pc Ls st)) (T.setFrames fs)) : Go l Z R B n0 Q h cl sl pc Ls st := by
  intro p e s m args below meth c T locs X cx fr eT hn
  obtain ⟨fs, hr, hrun, hended, hW, hsame⟩ := X.leave (v := w) (fun q0 => hv (cx.2.2.2.2.2.1.symm.trans q0)) cx.2.2.2.2.2.2.1
  refine ⟨_, _, f X cx.1 cx.2.2.2.1 cx.2.2.2.2.2.1 hr, hrun, hended, w, locs, rfl, ?_, ⟨_, rfl⟩, hW, hsame.mono hc hs⟩
  have e2 : (T.setFrames fs).heap = h := eT
  rw [e2]
  exact ⟨q, hn, fr⟩
theorem Go.ret (hd : decode B.2.1 pc = .ok (.return_, 1)) (hr : B.2.2.2 = none) (hc : cl ≤ R.cells) (hs : sl ≤ R.slots) (q : Q none h) : Go l Z R B n0 Q h cl sl pc Ls [] :=
  Go.out (w := none) (fun _ => rfl) q hc hs fun X hx hcd hrt hl => X.returnOut hx (hrt.trans hr) (hb hcd hd) hl
theorem Go.iret {x : Int32} (hd : decode B.2.1 pc = .ok (.ireturn, 1)) (hr : B.2.2.2 = some .int) (hc : cl ≤ R.cells) (hs : sl ≤ R.slots) (q : Q (some (.int x)) h) : Go l Z R B n0 Q h cl sl pc Ls (.int x :: st) :=
  Go.out (w := some (.int x)) (fun q0 => by rw [hr] at q0; cases q0) q hc hs fun X hx hcd hrt hl => retOut X hx (hrt.trans hr) rfl (Or.inl ⟨rfl, Or.inl rfl, x, rfl⟩) (hb hcd hd) hl
theorem Go.zret {x : Int32} (hd : decode B.2.1 pc = .ok (.ireturn, 1)) (hr : B.2.2.2 = some .boolean) (hx01 : x = 0 ∨ x = 1) (hc : cl ≤ R.cells) (hs : sl ≤ R.slots) (q : Q (some (.int x)) h) : Go l Z R B n0 Q h cl sl pc Ls (.int x :: st) :=
  Go.out (w := some (.int x)) (fun q0 => by rw [hr] at q0; cases q0) q hc hs fun X hx hcd hrt hl => retOut X hx (hrt.trans hr) (by rcases hx01 with rfl | rfl <;> rfl) (Or.inl ⟨rfl, Or.inr (Or.inl rfl), x, rfl⟩) (hb hcd hd) hl
theorem Go.lret {x : Int64} (hd : decode B.2.1 pc = .ok (.lreturn, 1)) (hr : B.2.2.2 = some .long) (hc : cl ≤ R.cells) (hs : sl ≤ R.slots) (q : Q (some (.long x)) h) : Go l Z R B n0 Q h cl sl pc Ls (.long x :: st) :=
  Go.out (w := some (.long x)) (fun q0 => by rw [hr] at q0; cases q0) q hc hs fun X hx hcd hrt hl => retOut X hx (hrt.trans hr) rfl (Or.inr (Or.inl ⟨rfl, rfl, x, rfl⟩)) (hb hcd hd) hl
theorem Go.dret {x : UInt64} (hd : decode B.2.1 pc = .ok (.dreturn, 1)) (hr : B.2.2.2 = some .double) (hc : cl ≤ R.cells) (hs : sl ≤ R.slots) (q : Q (some (.double x)) h) : Go l Z R B n0 Q h cl sl pc Ls (.double x :: st) :=
  Go.out (w := some (.double x)) (fun q0 => by rw [hr] at q0; cases q0) q hc hs fun X hx hcd hrt hl => retOut X hx (hrt.trans hr) rfl (Or.inr (Or.inr (Or.inl ⟨rfl, rfl, x, rfl⟩))) (hb hcd hd) hl
theorem Go.aret {x : Value} {t : FieldType} (hd : decode B.2.1 pc = .ok (.areturn, 1)) (hr : B.2.2.2 = some t) (ht : t.isReference = true) (hv : x.isRef = true) (hc : cl ≤ R.cells) (hs : sl ≤ R.slots) (q : Q (some x) h) : Go l Z R B n0 Q h cl sl pc Ls (x :: st) :=
  Go.out (w := some x) (fun q0 => by rw [hr] at q0; cases q0) q hc hs fun X hx hcd hrt hl => retOut X hx (hrt.trans hr) (by cases t <;> first | rfl | cases ht) (Or.inr (Or.inr (Or.inr (Or.inr ⟨rfl, ht, hv⟩)))) (hb hcd hd) hl
/-! ### calls -/
/-- a callee's contract pays a call, under the narrow word on the tables -/
theorem backH {p : Program} {e : Env} {s : State} {args : Array Value} {below : List Frame} {y : MethodName} {bytes : ByteArray} {maxL : Nat} {ret : Option FieldType} {rm : Room} {len W : Nat} {as' : Array Value} {P : Option Value → Heap → List Loc → Prop}
    (hM : MetFree l y (head1 [Cond.code y bytes maxL ret] rm) (fun a U => a = as' ∧ Z.WarmedH U.vm ∧ U.heap = h) (fun _ _ _ _ _ => True) (fun _ U o U' => ∃ v L, o = .returned v ∧ P v U'.heap L ∧ FrameEnd U o U' L rm.cells rm.slots))
    (hZ : Z.WarmedH s.vm) (wc : (Cond.code y bytes maxL ret).before a0 Z = true) (wz : (Cond.initialized y.cls).before a0 Z = true) (hf : rm.frames + 1 ≤ R.frames) (hl : W + (maxL + 11) + rm.locals ≤ R.locals) :
    Back l R p e below s args y len W (fun A a => a = as' ∧ A.U.heap = h ∧ A.cells + rm.cells ≤ R.cells ∧ A.slots + rm.slots ≤ R.slots)
      (fun A _ v B => ∃ L, P v B.U.heap L ∧ B.locs = A.locs ++ L ∧ B.cells = A.cells + rm.cells ∧ B.slots = A.slots + rm.slots) := by
  refine Back.of_free (bytes := bytes) (maxL := maxL) (ret := ret) (E := fun _ _ o t L k n => k = rm.cells ∧ n = rm.slots ∧ ∃ v, o = .returned v ∧ P v t.heap L) hM hf hl ?_ ?_ ?_ ?_ ?_
  · intro m meth c A a Y hp
    have hU : Z.Warmed39 A.U.vm := (State.WarmedH.trans hZ Y.warmed).wide
    refine ⟨?_, mv hU wc, mv hU wz, hp.2.2.1, hp.2.2.2⟩
    show (Cond.and _ .tt).before a A.U = true
    rw [Cond.before_and, mv hU wc]; rfl
  · intro m meth c A a g mk Y hp
    exact ⟨hp.1, State.WarmedH.trans hZ Y.warmed, hp.2.1⟩
  · intros; trivial
  · rintro _ _ _ _ ⟨v, L, h1, h2, h3⟩
    exact ⟨L, _, _, h3, rfl, rfl, v, h1, h2⟩
  · rintro m meth c A a g mk v t L k n Y hp _ _ ⟨e1, e2, v', e3, e4⟩
    cases e3; subst e1 e2; exact ⟨L, e4, rfl, rfl, rfl⟩
/-- a body's walk from its entry is its contract -/
theorem Go.met {y : MethodName} {bytes : ByteArray} {maxL : Nat} {ret : Option FieldType} {rm : Room} {as' : Array Value} {Ls' : Array Slot} {ws : List Jvm.Cond} (pn : plainName y.cls = true) (hn : n0 ≤ h.size) (ef : ∀ m, entryFrame m as' maxL = mkF m 0 Ls' [])
    (k : Go l Z rm (y, bytes, maxL, ret) n0 Q h 0 0 0 Ls' []) :
    MetFree l y (head1 (Jvm.Cond.code y bytes maxL ret :: ws) rm) (fun a U => a = as' ∧ Z.WarmedH U.vm ∧ U.heap = h) (fun _ _ _ _ _ => True) (fun _ U o U' => ∃ v L, o = .returned v ∧ (Q v U'.heap ∧ n0 ≤ U'.heap.size ∧ Fr n0 L) ∧ FrameEnd U o U' L rm.cells rm.slots) := by
  refine MetFree.of_bodySF (plainFor_of_name pn) hisR ?_
  intro p e s m args below meth c s₁ Bd hml0 hP hK
  obtain ⟨rfl, hZ, hh⟩ := hP
  have e0 : s₁.heap = h := by rw [← hh, Bd.state]; rfl
  obtain ⟨s₂, o, h1, r⟩ := k _ _ _ _ _ _ _ _ _ _ (Stand.of_body Bd) ⟨Bd.exec, hZ.wide, findClass_of_methodNamed Bd.named, Bd.bytes, hml0, Bd.returns, Bd.notSynchronized, (name_of_methodNamed Bd.named Bd.method).1, hZ, Bd.named⟩ (Fr.nil n0) e0 hn
  exact ⟨s₂, o, castTop (ef m) h1, r⟩
theorem Go.callV (pc' : Nat) {index : Nat} {y : MethodName} {bytes : ByteArray} {maxL : Nat} {ret : Option FieldType} {rm : Room} {Q' : Option Value → Heap → Prop} {Ls' : Array Slot} {a : Nat} (argsL rest : List Value) {ps : List FieldType} {rt : Option FieldType}
    (w1 : (Cond.methodLink B.1.cls index y).before a0 Z = true) (w2 : (Cond.declares y).before a0 Z = true) (w3 : (Cond.selects y.cls y y).before a0 Z = true) (w4 : (Cond.instanceMethod y).before a0 Z = true) (w5 : (Cond.code y bytes maxL ret).before a0 Z = true) (w6 : (Cond.initialized y.cls).before a0 Z = true)
    (hy : y.cls ≠ "java/lang/invoke/MethodHandle" ∧ y.cls ≠ "java/lang/invoke/VarHandle") (pn : plainName y.cls = true) (pd : parseMethodDescriptor y.desc = some ⟨ps, rt⟩) (hlen : argsL.length = ps.length)
    (E : Exa Z h a y.cls) (ef : ∀ m, entryFrame m (.ref a :: argsL).toArray maxL = mkF m 0 Ls' [])
    (callee : Go l Z rm (y, bytes, maxL, ret) n0 Q' h 0 0 0 Ls' [])
    (hst : st = argsL.reverse ++ .ref a :: rest) (hsz : Ls.size = B.2.2.1) (hfr : rm.frames + 1 ≤ R.frames) (hlo : (rest.map fun v => v.category).sum + (maxL + 11) + rm.locals ≤ R.locals) (hc : cl + rm.cells ≤ R.cells) (hs : sl + rm.slots ≤ R.slots)
    (hd : decode B.2.1 pc = .ok (.invokevirtual index, 3)) (hp : pc + 3 = pc')
    (k : ∀ v h', Q' v h' → Go l Z R B n0 Q h' (cl + rm.cells) (sl + rm.slots) pc' Ls (v.toList ++ rest)) : Go l Z R B n0 Q h cl sl pc Ls st := by
  subst hp
  intro p e s m args below meth c T locs X cx fr eT hn
  obtain ⟨cq, kq, qa, qb, qc⟩ := isOf cx.2.1 eT E
  obtain ⟨v, _, ⟨T', L', k', n'⟩, -, X', ⟨Lc, hQ, l', y', z'⟩, stp⟩ := X.virtualBack cx.1 (y := y) (z := y) cx.2.2.1 (mvT cx.2.1 w1) (mvT cx.2.1 w2) (notFace_of_selects (args := #[]) (mvT cx.2.1 w3)) (mvT cx.2.1 w3) (mvT cx.2.1 w4) hy
    (backH (W := (rest.map fun v => v.category).sum) (P := fun v h' L => Q' v h' ∧ n0 ≤ h'.size ∧ Fr n0 L) (callee.met (ws := []) pn hn ef) cx.2.2.2.2.2.2.2.2.1 w5 w6 hfr hlo) qa qc (g := mkF m pc Ls st) rfl (hsz.trans cx.2.2.2.2.1.symm) (Steps.refl _) (argsL := argsL) (rest := rest) (lenOf pd hlen) hst (by show 2 * 0 + _ ≤ _; omega) (hb cx.2.2.2.1 hd) (fun _ _ => ⟨rfl, eT, hc, hs⟩)
  dsimp only [Pt.U, Pt.locs, Pt.cells, Pt.slots] at X' l' y' z' stp hQ
  subst l' y' z'
  obtain ⟨hQ1, hQ2, hQ3⟩ := hQ
  obtain ⟨s₂, o, h1, r⟩ := k v T'.heap hQ1 _ _ _ _ _ _ _ _ _ _ X' cx (Fr.app fr hQ3) rfl hQ2
  exact ⟨s₂, o, stp.trans h1, r⟩
theorem Go.callN (pc' : Nat) {index : Nat} {y : MethodName} {bytes : ByteArray} {maxL : Nat} {rm : Room} {Q' : Option Value → Heap → Prop} {Ls' : Array Slot} {a : Nat} (argsL rest : List Value) {ps : List FieldType} {rt : Option FieldType} (hy1 : y.name = "<init>")
    (w1 : (Cond.methodLink B.1.cls index y).before a0 Z = true) (w4 : (Cond.instanceMethod y).before a0 Z = true) (w5 : (Cond.code y bytes maxL none).before a0 Z = true) (w6 : (Cond.initialized y.cls).before a0 Z = true)
    (hy : y.cls ≠ "java/lang/invoke/MethodHandle" ∧ y.cls ≠ "java/lang/invoke/VarHandle") (pn : plainName y.cls = true) (pd : parseMethodDescriptor y.desc = some ⟨ps, rt⟩) (hlen : argsL.length = ps.length)
    (ef : ∀ m, entryFrame m (.ref a :: argsL).toArray maxL = mkF m 0 Ls' [])
    (callee : Go l Z rm (y, bytes, maxL, none) n0 Q' h 0 0 0 Ls' [])
    (hst : st = argsL.reverse ++ .ref a :: rest) (hsz : Ls.size = B.2.2.1) (hfr : rm.frames + 1 ≤ R.frames) (hlo : (rest.map fun v => v.category).sum + (maxL + 11) + rm.locals ≤ R.locals) (hc : cl + rm.cells ≤ R.cells) (hs : sl + rm.slots ≤ R.slots)
    (hd : decode B.2.1 pc = .ok (.invokespecial index, 3)) (hp : pc + 3 = pc')
    (k : ∀ v h', Q' v h' → Go l Z R B n0 Q h' (cl + rm.cells) (sl + rm.slots) pc' Ls (v.toList ++ rest)) : Go l Z R B n0 Q h cl sl pc Ls st := by
  subst hp
  intro p e s m args below meth c T locs X cx fr eT hn
  obtain ⟨v, _, ⟨T', L', k', n'⟩, -, X', ⟨Lc, hQ, l', y', z'⟩, stp⟩ := X.specialBack cx.1 (y := y) hy1 cx.2.2.1 (mvT cx.2.1 w1) (mvT cx.2.1 w4) (mvT cx.2.1 w5) hy
    (backH (W := (rest.map fun v => v.category).sum) (P := fun v h' L => Q' v h' ∧ n0 ≤ h'.size ∧ Fr n0 L) (callee.met (ws := []) pn hn ef) cx.2.2.2.2.2.2.2.2.1 w5 w6 hfr hlo) (g := mkF m pc Ls st) rfl (hsz.trans cx.2.2.2.2.1.symm) (Steps.refl _) (a := a) (argsL := argsL) (rest := rest) (lenOf pd hlen) hst (by show 2 * 0 + _ ≤ _; omega) (hb cx.2.2.2.1 hd) (fun _ _ => ⟨rfl, eT, hc, hs⟩)
  dsimp only [Pt.U, Pt.locs, Pt.cells, Pt.slots] at X' l' y' z' stp hQ
  subst l' y' z'
  obtain ⟨hQ1, hQ2, hQ3⟩ := hQ
  obtain ⟨s₂, o, h1, r⟩ := k v T'.heap hQ1 _ _ _ _ _ _ _ _ _ _ X' cx (Fr.app fr hQ3) rfl hQ2
  exact ⟨s₂, o, stp.trans h1, r⟩
theorem Go.callS (pc' : Nat) {index : Nat} {y : MethodName} {bytes : ByteArray} {maxL : Nat} {ret : Option FieldType} {rm : Room} {Q' : Option Value → Heap → Prop} {Ls' : Array Slot} (argsL rest : List Value) {ps : List FieldType} {rt : Option FieldType}
    (w1 : (Cond.methodLink B.1.cls index y).before a0 Z = true) (w2 : (Cond.static y).before a0 Z = true) (w5 : (Cond.code y bytes maxL ret).before a0 Z = true) (w6 : (Cond.initialized y.cls).before a0 Z = true)
    (hy : y.cls ≠ "java/lang/invoke/MethodHandle" ∧ y.cls ≠ "java/lang/invoke/VarHandle") (pn : plainName y.cls = true) (pd : parseMethodDescriptor y.desc = some ⟨ps, rt⟩) (hlen : argsL.length = ps.length)
    (ef : ∀ m, entryFrame m argsL.toArray maxL = mkF m 0 Ls' [])
    (callee : Go l Z rm (y, bytes, maxL, ret) n0 Q' h 0 0 0 Ls' [])
    (hst : st = argsL.reverse ++ rest) (hsz : Ls.size = B.2.2.1) (hfr : rm.frames + 1 ≤ R.frames) (hlo : (rest.map fun v => v.category).sum + (maxL + 11) + rm.locals ≤ R.locals) (hc : cl + rm.cells ≤ R.cells) (hs : sl + rm.slots ≤ R.slots)
    (hd : decode B.2.1 pc = .ok (.invokestatic index, 3)) (hp : pc + 3 = pc')
    (k : ∀ v h', Q' v h' → Go l Z R B n0 Q h' (cl + rm.cells) (sl + rm.slots) pc' Ls (v.toList ++ rest)) : Go l Z R B n0 Q h cl sl pc Ls st := by
  subst hp
  intro p e s m args below meth c T locs X cx fr eT hn
  obtain ⟨v, _, ⟨T', L', k', n'⟩, -, X', ⟨Lc, hQ, l', y', z'⟩, stp⟩ := Jvm.LawKit.callS X cx.1 (y := y) cx.2.2.1 (mvT cx.2.1 w1) (mvT cx.2.1 w2) (mvT cx.2.1 w6) (mvT cx.2.1 w5) hy
    (backH (W := (rest.map fun v => v.category).sum) (P := fun v h' L => Q' v h' ∧ n0 ≤ h'.size ∧ Fr n0 L) (callee.met (ws := []) pn hn ef) cx.2.2.2.2.2.2.2.2.1 w5 w6 hfr hlo) (g := mkF m pc Ls st) rfl (hsz.trans cx.2.2.2.2.1.symm) (argsL := argsL) (rest := rest) (lenOf pd hlen) hst (by show 2 * 0 + _ ≤ _; omega) (hb cx.2.2.2.1 hd) (fun _ _ => ⟨rfl, eT, hc, hs⟩)
  dsimp only [Pt.U, Pt.locs, Pt.cells, Pt.slots] at X' l' y' z' stp hQ
  subst l' y' z'
  obtain ⟨hQ1, hQ2, hQ3⟩ := hQ
  obtain ⟨s₂, o, h1, r⟩ := k v T'.heap hQ1 _ _ _ _ _ _ _ _ _ _ X' cx (Fr.app fr hQ3) rfl hQ2
  exact ⟨s₂, o, stp _ h1, r⟩
end Rules
end Jvm.GoK
namespace Jvm.GoK
open Jvm.Free
theorem toInt_add {x y : Int32} {a b : Int} {c : Int} (hx : x.toInt = a) (hy : y.toInt = b) (h1 : -2147483648 ≤ a + b) (h2 : a + b < 2147483648) (e : a + b = c) : (x + y).toInt = c := by
  rw [XT.add32 (show XT.fits32 _ from ⟨by rw [hx, hy]; omega, by rw [hx, hy]; omega⟩), hx, hy, e]
theorem toInt_add' {x y z : Int32} {a b : Int} {c : Int} (hx : x.toInt = a) (hy : y.toInt = b) (hz : x + y = z) (h1 : -2147483648 ≤ a + b) (h2 : a + b < 2147483648) (e : a + b = c) : z.toInt = c := hz ▸ toInt_add hx hy h1 h2 e
theorem toInt_sub {x y : Int32} {a b : Int} {c : Int} (hx : x.toInt = a) (hy : y.toInt = b) (h1 : -2147483648 ≤ a - b) (h2 : a - b < 2147483648) (e : a - b = c) : (x - y).toInt = c := by
  rw [XT.sub32 (show XT.fits32 _ from ⟨by rw [hx, hy]; omega, by rw [hx, hy]; omega⟩), hx, hy, e]
theorem toInt_mul {x y : Int32} {a b : Int} {c : Int} (hx : x.toInt = a) (hy : y.toInt = b) (h1 : -2147483648 ≤ a * b) (h2 : a * b < 2147483648) (e : a * b = c) : (x * y).toInt = c := by
  rw [XT.mul32 (show XT.fits32 _ from ⟨by rw [hx, hy]; omega, by rw [hx, hy]; omega⟩), hx, hy, e]
end Jvm.GoK
namespace Jvm.GoK
open Jvm.Free
theorem toInt_ladd {x y : Int64} {a b c : Int} (hx : x.toInt = a) (hy : y.toInt = b) (h1 : -9223372036854775808 ≤ a + b) (h2 : a + b < 9223372036854775808) (e : a + b = c) : (x + y).toInt = c := by
  rw [XT.add64 (show XT.fits64 _ from ⟨by rw [hx, hy]; omega, by rw [hx, hy]; omega⟩), hx, hy, e]
theorem toInt_lsub {x y : Int64} {a b c : Int} (hx : x.toInt = a) (hy : y.toInt = b) (h1 : -9223372036854775808 ≤ a - b) (h2 : a - b < 9223372036854775808) (e : a - b = c) : (x - y).toInt = c := by
  rw [XT.sub64 (show XT.fits64 _ from ⟨by rw [hx, hy]; omega, by rw [hx, hy]; omega⟩), hx, hy, e]
theorem toInt_lmul {x y : Int64} {a b c : Int} (hx : x.toInt = a) (hy : y.toInt = b) (h1 : -9223372036854775808 ≤ a * b) (h2 : a * b < 9223372036854775808) (e : a * b = c) : (x * y).toInt = c := by
  rw [XT.mul64 (show XT.fits64 _ from ⟨by rw [hx, hy]; omega, by rw [hx, hy]; omega⟩), hx, hy, e]
theorem b32 (x : Int32) : -2147483648 ≤ x.toInt ∧ x.toInt < 2147483648 := ⟨x.le_toInt, x.toInt_lt⟩
theorem and_nat (n : Int32) (k : Nat) (hk : k < 2147483648) : ∃ j : Nat, j ≤ k ∧ (n &&& Int32.ofNat k).toInt = (j : Int) := by
  have h : (n &&& Int32.ofNat k).toInt = ((n.toBitVec &&& BitVec.ofNat 32 k).toNat : Int) := by
    show (n.toBitVec &&& BitVec.ofNat 32 k).toInt = _
    rw [BitVec.toInt_eq_toNat_of_lt]
    have h2 : (n.toBitVec &&& BitVec.ofNat 32 k).toNat ≤ (BitVec.ofNat 32 k).toNat := by rw [BitVec.toNat_and]; exact Nat.and_le_right
    have h3 : (BitVec.ofNat 32 k).toNat = k := by rw [BitVec.toNat_ofNat]; omega
    omega
  refine ⟨_, ?_, h⟩
  have h3 : (BitVec.ofNat 32 k).toNat = k := by rw [BitVec.toNat_ofNat]; omega
  rw [BitVec.toNat_and]
  exact Nat.le_trans Nat.and_le_right (Nat.le_of_eq h3)
theorem and3 (n : Int32) : n &&& 3 = 0 ∨ n &&& 3 = 1 ∨ n &&& 3 = 2 ∨ n &&& 3 = 3 := by
  obtain ⟨j, h1, h2⟩ := and_nat n 3 (by decide)
  have h2 : (n &&& 3).toInt = (j : Int) := h2
  have : j = 0 ∨ j = 1 ∨ j = 2 ∨ j = 3 := by omega
  rcases this with rfl | rfl | rfl | rfl
  · exact Or.inl (Int32.toInt_inj.mp h2)
  · exact Or.inr (Or.inl (Int32.toInt_inj.mp h2))
  · exact Or.inr (Or.inr (Or.inl (Int32.toInt_inj.mp h2)))
  · exact Or.inr (Or.inr (Or.inr (Int32.toInt_inj.mp h2)))
theorem fill_step {α : Type} {rs : List α} {z g : α} {j k : Nat} (hg : rs[j]? = some g) (hk : rs.length = k) : (rs.take j ++ List.replicate (k - j) z).set j g = rs.take (j + 1) ++ List.replicate (k - (j + 1)) z := by
  have hj := (List.getElem?_eq_some_iff.mp hg).1
  have hlen : (rs.take j).length = j := by rw [List.length_take]; omega
  rw [List.set_append, hlen, if_neg (Nat.lt_irrefl j), Nat.sub_self, List.take_add_one, hg]
  obtain ⟨m, hm⟩ : ∃ m, k - j = m + 1 := ⟨k - j - 1, by omega⟩
  rw [hm, show k - (j + 1) = m by omega, List.replicate_succ, List.set_cons_zero, List.append_assoc]
  rfl
end Jvm.GoK
namespace Jvm.GoK
theorem fill_step2 {α : Type} {rs : List α} {z g : α} {j m : Nat} (hg : rs[j]? = some g) : (rs.take j ++ List.replicate (m + 1) z).set j g = rs.take (j + 1) ++ List.replicate m z := by
  have hj := (List.getElem?_eq_some_iff.mp hg).1
  have hlen : (rs.take j).length = j := by rw [List.length_take]; omega
  rw [List.set_append, hlen, if_neg (Nat.lt_irrefl j), Nat.sub_self, List.take_add_one, hg, List.replicate_succ, List.set_cons_zero, List.append_assoc]
  rfl
end Jvm.GoK
namespace Jvm.GoK
theorem leB {a b : Nat} (h : Nat.ble a b = true) : a ≤ b := Nat.le_of_ble_eq_true h
end Jvm.GoK
namespace Jvm.GoK
theorem lit1 : (1 : Int32).toInt = 1 := by decide
theorem lit2 : (2 : Int32).toInt = 2 := by decide
theorem lit3 : (3 : Int32).toInt = 3 := by decide
theorem olit1 : (Int32.ofInt 1).toInt = 1 := by decide
theorem olit2 : (Int32.ofInt 2).toInt = 2 := by decide
end Jvm.GoK
namespace Jvm.GoK
open Jvm.FP Jvm.Free.Fl Jvm.FP.Core
/-! ### doubles that are whole numbers: what each step makes of them -/
def DAdd (x y v : UInt64) : Prop := FP.dadd x y = v ∧ NoNaN64 v
def DSub (x y v : UInt64) : Prop := FP.dsub x y = v ∧ NoNaN64 v
def DMul (x y v : UInt64) : Prop := FP.dmul x y = v ∧ NoNaN64 v
def DDiv (x y v : UInt64) : Prop := FP.ddiv x y = v ∧ NoNaN64 v
theorem dint_nn {i : Int} {v : UInt64} (h : DInt i v) : NoNaN64 v := val64_no.mpr (DInt_ne_nan h)
theorem dint_cast {i j : Int} {v : UInt64} (h : DInt i v) (e : i = j) : DInt j v := e ▸ h
theorem dint_zero : DInt 0 0 := by
  unfold DInt
  rw [val64_zero]
  show signed false (0 * _) = 0 * _
  simp [signed]
theorem addI {i j : Int} {x y : UInt64} (hx : DInt i x) (hy : DInt j y) (b1 : -9007199254740992 ≤ i + j) (b2 : i + j ≤ 9007199254740992) : ∃ v, DAdd x y v ∧ DInt (i + j) v := by
  have q : DInt (i + j) (FP.dadd x y) := dadd_int hx hy (by omega)
  exact ⟨_, ⟨rfl, dint_nn q⟩, q⟩
theorem subI {i j : Int} {x y : UInt64} (hx : DInt i x) (hy : DInt j y) (b1 : -9007199254740992 ≤ i - j) (b2 : i - j ≤ 9007199254740992) : ∃ v, DSub x y v ∧ DInt (i - j) v := by
  have q : DInt (i - j) (FP.dsub x y) := dsub_int hx hy (by omega)
  exact ⟨_, ⟨rfl, dint_nn q⟩, q⟩
theorem mulI {i j : Int} {x y : UInt64} (hx : DInt i x) (hy : DInt j y) (b1 : -9007199254740992 ≤ i * j) (b2 : i * j ≤ 9007199254740992) : ∃ v, DMul x y v ∧ DInt (i * j) v := by
  have q : DInt (i * j) (FP.dmul x y) := dmul_int hx hy (by omega)
  exact ⟨_, ⟨rfl, dint_nn q⟩, q⟩
/-- what a comparison pushes -/
def sg (i j : Int) : Int32 := if i < j then -1 else if i = j then 0 else 1
theorem sg_cases (i j : Int) : ((sg i j).toInt = -1 ∧ i < j) ∨ ((sg i j).toInt = 0 ∧ i = j) ∨ ((sg i j).toInt = 1 ∧ j < i) := by
  unfold sg
  by_cases h1 : i < j
  · rw [if_pos h1]; exact Or.inl ⟨by decide, h1⟩
  · rw [if_neg h1]
    by_cases h2 : i = j
    · rw [if_pos h2]; exact Or.inr (Or.inl ⟨by decide, h2⟩)
    · rw [if_neg h2]; exact Or.inr (Or.inr ⟨by decide, by omega⟩)
theorem cmpV_sg (i j : Int) (o : ClassFile.CmpOp) : Op.cmpValue (some (compare i j)) o = sg i j := by
  unfold sg
  by_cases h1 : i < j
  · rw [if_pos h1, (compare_lt_iff i j).mpr h1]; cases o <;> rfl
  · rw [if_neg h1]
    by_cases h2 : i = j
    · rw [if_pos h2, (compare_eq_iff i j).mpr h2]; cases o <;> rfl
    · rw [if_neg h2, (compare_gt_iff i j).mpr (by omega)]; cases o <;> rfl
theorem cmpI {i j : Int} {x y : UInt64} (hx : DInt i x) (hy : DInt j y) (o : ClassFile.CmpOp) : Op.cmpValue (FP.dcmp x y) o = sg i j := by
  rw [show FP.dcmp x y = some (compare i j) from dcmp_int hx hy]; exact cmpV_sg i j o
end Jvm.GoK
namespace Jvm.GoK
theorem sg_self {i j : Int} (h : i = j) : (sg i j).toInt = 0 := by have := sg_cases i j; omega
end Jvm.GoK
namespace Jvm.GoK
open Jvm.FP Jvm.Free.Fl Jvm.FP.Core
/-! ### doubles that are a whole number over a power of two: DQ k i v says v = i / 2^k -/
def sc (k : Nat) : Datum → Datum
  | .fin s c q => .fin s c (q + (k : Int))
  | .inf s => .inf s
  | .nan => .nan
def DQ (k : Nat) (i : Int) (v : UInt64) : Prop := Whole i (sc k (val64 v))
theorem bal (A C : Nat) (x : Int) (N : Nat) (h : 0 ≤ x + N) : A * 2 ^ (x + N).toNat = C * 2 ^ N ↔ A * 2 ^ x.toNat = C * 2 ^ (-x).toNat := by
  by_cases hx : 0 ≤ x
  · rw [show (x + N).toNat = x.toNat + N by omega, show (-x).toNat = 0 by omega, Nat.pow_add, ← Nat.mul_assoc, Nat.pow_zero, Nat.mul_one]
    exact ⟨fun q => Nat.eq_of_mul_eq_mul_right (Nat.two_pow_pos N) q, fun q => by rw [q]⟩
  · obtain ⟨m, hm⟩ : ∃ m : Nat, x = -(m : Int) := ⟨(-x).toNat, by omega⟩
    subst hm
    obtain ⟨j, hj⟩ : ∃ j, N = j + m := ⟨N - m, by omega⟩
    subst hj
    rw [show (-(m : Int) + ((j + m : Nat) : Int)).toNat = j by omega, show (-(m : Int)).toNat = 0 by omega, show (- -(m : Int)).toNat = m by omega, Nat.pow_zero, Nat.mul_one, Nat.add_comm j m, Nat.pow_add, ← Nat.mul_assoc]
    exact ⟨fun q => Nat.eq_of_mul_eq_mul_right (Nat.two_pow_pos j) q, fun q => by rw [q]⟩
theorem dq_fin {k : Nat} {i : Int} {v : UInt64} (h : DQ k i v) : ∃ s c q, val64 v = .fin s c q := by
  unfold DQ at h
  cases hv : val64 v with
  | nan => rw [hv] at h; exact h.elim
  | inf => rw [hv] at h; exact h.elim
  | fin s c q => exact ⟨s, c, q, rfl⟩
theorem dq_ne {k : Nat} {i : Int} {v : UInt64} (h : DQ k i v) : val64 v ≠ .nan := by
  obtain ⟨s, c, q, e⟩ := dq_fin h; rw [e]; exact Datum.noConfusion
theorem dq_nn {k : Nat} {i : Int} {v : UInt64} (h : DQ k i v) : NoNaN64 v := val64_no.mpr (dq_ne h)
theorem dq_of_int {i : Int} {v : UInt64} (h : DInt i v) : DQ 0 i v := by
  unfold DQ; unfold DInt at h
  cases hv : val64 v with
  | nan => rw [hv] at h; exact h.elim
  | inf => rw [hv] at h; exact h.elim
  | fin s c q => rw [hv] at h; show Whole i (.fin s c (q + ((0 : Nat) : Int))); rw [Int.natCast_zero, Int.add_zero]; exact h
theorem dq_cast {k m : Nat} {i j : Int} {v : UInt64} (h : DQ k i v) (e : k = m) (e2 : i = j) : DQ m j v := e ▸ e2 ▸ h
theorem whole_two (m : Nat) : Whole ((2 : Int) ^ m) (.fin false 1 (m : Int)) := by
  show signed false (1 * 2 ^ ((m : Int)).toNat) = (2 : Int) ^ m * ((2 ^ (-(m : Int)).toNat : Nat) : Int)
  rw [show (-(m : Int)).toNat = 0 by omega, show ((m : Int)).toNat = m by omega]
  simp [signed]
theorem dq_up {k : Nat} {i : Int} {v : UInt64} (m : Nat) (h : DQ k i v) : DQ (k + m) (i * 2 ^ m) v := by
  obtain ⟨s, c, q, e⟩ := dq_fin h
  unfold DQ at h ⊢
  rw [e] at h ⊢
  have := whole_product h (whole_two m)
  have e2 : exactProduct (sc k (.fin s c q)) (.fin false 1 (m : Int)) = sc (k + m) (.fin s c q) := by
    show Datum.fin (s != false) (c * 1) (q + (k : Int) + (m : Int)) = Datum.fin s c (q + ((k + m : Nat) : Int))
    rw [Nat.mul_one, show (s != false) = s by cases s <;> rfl, Int.natCast_add, Int.add_assoc]
  rw [e2] at this; exact this
theorem whole_mk {i : Int} {s : Bool} {c : Nat} {q : Int} (hs : i = 0 ∨ s = decide (i < 0)) (h : c * 2 ^ q.toNat = i.natAbs * 2 ^ (-q).toNat) : Whole i (.fin s c q) := by
  show signed s (c * 2 ^ q.toNat) = i * ((2 ^ (-q).toNat : Nat) : Int)
  rw [h, signed_mul]
  congr 1
  rcases hs with rfl | rfl
  · exact signed_zero s
  · unfold signed
    by_cases hi : i < 0
    · rw [if_pos (by simpa using hi)]; omega
    · rw [if_neg (by simpa using hi)]; omega
/-- what rounds to a small whole number over a power of two is just that -/
theorem ratio_dy {k : Nat} {i : Int} {s : Bool} {A D : Nat} {e : Int} (hD : 0 < D) (hi : i.natAbs < 2 ^ 53) (hk : k ≤ 1000) (hs : i = 0 ∨ s = decide (i < 0)) (h : A * 1 * 2 ^ (e - -(k : Int)).toNat = i.natAbs * D * 2 ^ (-(k : Int) - e).toNat) : Whole i (sc k (roundRatio b64 s A D e)) := by
  rw [roundRatio_congr hD (by decide) h]
  obtain ⟨c', q', h1, h2⟩ := round_exact good_b64 s (c := i.natAbs) (q := -(k : Int)) hi (by rw [qmin_b64]; omega) (by
    have : b64.qmax = 971 := by decide
    omega)
  have h1' : roundRatio b64 s i.natAbs 1 (-(k : Int)) = .fin s c' q' := h1
  rw [h1']
  have hf := round_fits good_b64 (.fin s i.natAbs (-(k : Int)))
  rw [h1] at hf
  have hq : b64.qmin ≤ q' := hf.2.1
  rw [qmin_b64] at hq
  show Whole i (.fin s c' (q' + (k : Int)))
  refine whole_mk hs ?_
  unfold inUnits at h2
  rw [qmin_b64] at h2
  obtain ⟨N, hN⟩ : ∃ N : Nat, N = 1074 - k := ⟨_, rfl⟩
  refine (bal c' i.natAbs (q' + (k : Int)) N (by omega)).mp ?_
  rw [show (q' + (k : Int) + (N : Int)).toNat = (q' - -1074).toNat by omega, h2, show (-(k : Int) - -1074).toNat = N by omega]
theorem round_dy {k : Nat} {i : Int} {d : Datum} (h : Whole i (sc k d)) (hi : i.natAbs < 2 ^ 53) (hk : k ≤ 1000) : Whole i (sc k (round b64 d)) := by
  cases d with
  | nan => exact h.elim
  | inf => exact h.elim
  | fin s c q =>
    have h' : Whole i (.fin s c (q + (k : Int))) := h
    refine ratio_dy (by decide) hi hk ?_ ?_
    · by_cases h0 : i = 0
      · exact Or.inl h0
      · exact Or.inr (whole_sign h' h0)
    · have := whole_natAbs h'
      rw [Nat.mul_one, Nat.mul_one, show q - -(k : Int) = q + (k : Int) by omega, show -(k : Int) - q = -(q + (k : Int)) by omega]
      exact this
theorem mulQ {k m : Nat} {i j : Int} {x y : UInt64} (hx : DQ k i x) (hy : DQ m j y) (hb : (i * j).natAbs < 2 ^ 53) (hk : k + m ≤ 1000) : ∃ v, DMul x y v ∧ DQ (k + m) (i * j) v := by
  have q : DQ (k + m) (i * j) (FP.dmul x y) := by
    obtain ⟨s, c, q, e⟩ := dq_fin hx
    obtain ⟨t, d, r, e'⟩ := dq_fin hy
    unfold DQ at hx hy ⊢
    rw [val64_dmul]
    refine round_dy ?_ hb hk
    rw [e] at hx ⊢; rw [e'] at hy ⊢
    have := whole_product hx hy
    have e2 : exactProduct (sc k (.fin s c q)) (sc m (.fin t d r)) = sc (k + m) (exactProduct (.fin s c q) (.fin t d r)) := by
      show Datum.fin (s != t) (c * d) (q + (k : Int) + (r + (m : Int))) = Datum.fin (s != t) (c * d) (q + r + ((k + m : Nat) : Int))
      rw [show q + (k : Int) + (r + (m : Int)) = q + r + ((k + m : Nat) : Int) by omega]
    rw [e2] at this; exact this
  exact ⟨_, ⟨rfl, dq_nn q⟩, q⟩
theorem sc_sum (k : Nat) (s t : Bool) (c d : Nat) (q r : Int) : exactSum (sc k (.fin s c q)) (sc k (.fin t d r)) = sc k (exactSum (.fin s c q) (.fin t d r)) := by
  have hm : min (q + (k : Int)) (r + (k : Int)) = min q r + (k : Int) := by omega
  show Datum.fin (sumSign s t (sumUnits s c (q + k) t d (r + k) (min (q + (k : Int)) (r + (k : Int))))) (sumUnits s c (q + k) t d (r + k) (min (q + (k : Int)) (r + (k : Int)))).natAbs (min (q + (k : Int)) (r + (k : Int))) = Datum.fin (sumSign s t (sumUnits s c q t d r (min q r))) (sumUnits s c q t d r (min q r)).natAbs (min q r + (k : Int))
  rw [hm]
  have hu : sumUnits s c (q + k) t d (r + k) (min q r + (k : Int)) = sumUnits s c q t d r (min q r) := by
    unfold sumUnits inUnits
    rw [show q + (k : Int) - (min q r + (k : Int)) = q - min q r by omega, show r + (k : Int) - (min q r + (k : Int)) = r - min q r by omega]
  rw [hu]
theorem addQ {k : Nat} {i j : Int} {x y : UInt64} (hx : DQ k i x) (hy : DQ k j y) (hb : (i + j).natAbs < 2 ^ 53) (hk : k ≤ 1000) : ∃ v, DAdd x y v ∧ DQ k (i + j) v := by
  have q : DQ k (i + j) (FP.dadd x y) := by
    obtain ⟨s, c, q, e⟩ := dq_fin hx
    obtain ⟨t, d, r, e'⟩ := dq_fin hy
    unfold DQ at hx hy ⊢
    rw [val64_dadd]
    refine round_dy ?_ hb hk
    rw [e] at hx ⊢; rw [e'] at hy ⊢
    rw [← sc_sum]; exact whole_sum hx hy
  exact ⟨_, ⟨rfl, dq_nn q⟩, q⟩
theorem subQ {k : Nat} {i j : Int} {x y : UInt64} (hx : DQ k i x) (hy : DQ k j y) (hb : (i - j).natAbs < 2 ^ 53) (hk : k ≤ 1000) : ∃ v, DSub x y v ∧ DQ k (i - j) v := by
  have q : DQ k (i - j) (FP.dsub x y) := by
    obtain ⟨s, c, q, e⟩ := dq_fin hx
    obtain ⟨t, d, r, e'⟩ := dq_fin hy
    unfold DQ at hx hy ⊢
    rw [val64_dsub]
    refine round_dy ?_ hb hk
    rw [e] at hx ⊢; rw [e'] at hy ⊢
    show Whole (i - j) (sc k (exactSum (.fin s c q) (.fin (!t) d r)))
    rw [← sc_sum, Int.sub_eq_add_neg]; exact whole_sum hx (whole_negate hy)
  exact ⟨_, ⟨rfl, dq_nn q⟩, q⟩
theorem cmpQ {k : Nat} {i j : Int} {x y : UInt64} (hx : DQ k i x) (hy : DQ k j y) (o : ClassFile.CmpOp) : Op.cmpValue (FP.dcmp x y) o = sg i j := by
  have q : FP.dcmp x y = some (compare i j) := by
    obtain ⟨s, c, q, e⟩ := dq_fin hx
    obtain ⟨t, d, r, e'⟩ := dq_fin hy
    unfold DQ at hx hy
    have := order_whole hx hy
    show order (val64 x) (val64 y) = _
    rw [← this, e, e']
    show order _ _ = order (.fin s c (q + (k : Int))) (.fin t d (r + (k : Int)))
    unfold order inUnits
    have hm : min (q + (k : Int)) (r + (k : Int)) = min q r + (k : Int) := by omega
    dsimp only
    rw [hm, show q + (k : Int) - (min q r + (k : Int)) = q - min q r by omega, show r + (k : Int) - (min q r + (k : Int)) = r - min q r by omega]
  rw [q]; exact cmpV_sg i j o
/-- a quotient that comes out even: x / y = t / 2^n -/
theorem divQ {k m n : Nat} {i j t : Int} {x y : UInt64} (hx : DQ k i x) (hy : DQ m j y) (hj : 0 < j) (e : i * 2 ^ (m + n) = t * j * 2 ^ k) (hb : t.natAbs < 2 ^ 53) (hn : n ≤ 1000) : ∃ v, DDiv x y v ∧ DQ n t v := by
  have q : DQ n t (FP.ddiv x y) := by
    obtain ⟨s, c, q, ex⟩ := dq_fin hx
    obtain ⟨u, d, r, ey⟩ := dq_fin hy
    unfold DQ at hx hy ⊢
    rw [val64_ddiv, ex, ey]
    rw [ex] at hx; rw [ey] at hy
    have hx' : Whole i (.fin s c (q + (k : Int))) := hx
    have hy' : Whole j (.fin u d (r + (m : Int))) := hy
    have hd : d ≠ 0 := fun h0 => by have := (whole_zero hy').mp h0; omega
    have hu : u = false := by rw [whole_sign hy' (by omega)]; simp; omega
    show Whole t (sc n (if d = 0 then (if c = 0 then .nan else .inf (s != u)) else roundRatio b64 (s != u) c d (q - r)))
    rw [if_neg hd, hu, show (s != false) = s by cases s <;> rfl]
    have c1 := whole_natAbs hx'
    have c2 := whole_natAbs hy'
    have ea : i.natAbs * 2 ^ (m + n) = t.natAbs * j.natAbs * 2 ^ k := by
      have := congrArg Int.natAbs e
      simpa [Int.natAbs_mul, Int.natAbs_pow] using this
    have sgn : (t = 0 ↔ i = 0) ∧ (t < 0 ↔ i < 0) := by
      have p1 : (0 : Int) < 2 ^ (m + n) := Int.pow_pos (by decide)
      have p2 : (0 : Int) < 2 ^ k := Int.pow_pos (by decide)
      have p3 : (0 : Int) < j * 2 ^ k := Int.mul_pos hj p2
      have e' : i * 2 ^ (m + n) = t * (j * 2 ^ k) := by rw [e, Int.mul_assoc]
      constructor
      · constructor
        · intro h0; rw [h0, Int.zero_mul] at e'
          rcases Int.mul_eq_zero.mp e' with h | h
          · exact h
          · omega
        · intro h0; rw [h0, Int.zero_mul] at e'
          rcases Int.mul_eq_zero.mp e'.symm with h | h
          · exact h
          · omega
      · constructor
        · intro h0
          have : t * (j * 2 ^ k) < 0 := Int.mul_neg_of_neg_of_pos h0 p3
          rw [← e'] at this
          exact Int.lt_of_not_ge fun hh => Int.not_lt.mpr (Int.mul_nonneg hh (Int.le_of_lt p1)) this
        · intro h0
          have : i * 2 ^ (m + n) < 0 := Int.mul_neg_of_neg_of_pos h0 p1
          rw [e'] at this
          exact Int.lt_of_not_ge fun hh => Int.not_lt.mpr (Int.mul_nonneg hh (Int.le_of_lt p3)) this
    refine ratio_dy (Nat.pos_of_ne_zero hd) hb hn ?_ ?_
    · by_cases h0 : t = 0
      · exact Or.inl h0
      · refine Or.inr ?_
        rw [whole_sign hx' (fun h => h0 (sgn.1.mpr h))]
        exact decide_eq_decide.mpr sgn.2.symm
    · rw [Nat.mul_one, show q - r - -(n : Int) = q - r + (n : Int) by omega, show -(n : Int) - (q - r) = -(q - r + (n : Int)) by omega]
      obtain ⟨N1, h1⟩ : ∃ N : Nat, 0 ≤ q + (k : Int) + N ∧ 0 ≤ q + (N : Int) := ⟨(-q).toNat + (-(q + k)).toNat, by omega⟩
      obtain ⟨N2, h2⟩ : ∃ N : Nat, 0 ≤ r + (m : Int) + N ∧ 0 ≤ r + (N : Int) := ⟨(-r).toNat + (-(r + m)).toNat, by omega⟩
      obtain ⟨N3, h3⟩ : ∃ N : Nat, 0 ≤ q - r + (n : Int) + N := ⟨(-(q - r + n)).toNat, by omega⟩
      have b1 := (bal c i.natAbs (q + (k : Int)) N1 h1.1).mpr c1
      have b2 := (bal d j.natAbs (r + (m : Int)) N2 h2.1).mpr c2
      refine (bal c (t.natAbs * d) (q - r + (n : Int)) N3 h3).mp ?_
      obtain ⟨A, hA⟩ : ∃ A : Nat, (A : Int) = q + (k : Int) + N1 := ⟨(q + (k : Int) + N1).toNat, by omega⟩
      obtain ⟨D, hD⟩ : ∃ D : Nat, (D : Int) = r + (m : Int) + N2 := ⟨(r + (m : Int) + N2).toNat, by omega⟩
      obtain ⟨G, hG⟩ : ∃ G : Nat, (G : Int) = q - r + (n : Int) + N3 := ⟨(q - r + (n : Int) + N3).toNat, by omega⟩
      rw [show (q + (k : Int) + N1).toNat = A by omega] at b1
      rw [show (r + (m : Int) + N2).toNat = D by omega] at b2
      rw [show (q - r + (n : Int) + (N3 : Int)).toNat = G by omega]
      have hGD : G + D + (k + N1) = A + (m + n) + (N2 + N3) := by omega
      refine Nat.eq_of_mul_eq_mul_right (Nat.two_pow_pos (D + (k + N1))) ?_
      calc c * 2 ^ G * 2 ^ (D + (k + N1)) = c * 2 ^ (G + D + (k + N1)) := by rw [Nat.mul_assoc, ← Nat.pow_add, Nat.add_assoc]
        _ = c * 2 ^ A * (2 ^ (m + n) * 2 ^ (N2 + N3)) := by rw [hGD, Nat.pow_add, Nat.pow_add 2 A]; ac_rfl
        _ = i.natAbs * 2 ^ (m + n) * (2 ^ N1 * 2 ^ (N2 + N3)) := by rw [b1]; ac_rfl
        _ = t.natAbs * j.natAbs * 2 ^ k * (2 ^ N1 * 2 ^ (N2 + N3)) := by rw [ea]
        _ = t.natAbs * (j.natAbs * 2 ^ N2) * 2 ^ N3 * (2 ^ k * 2 ^ N1) := by rw [Nat.pow_add 2 N2]; ac_rfl
        _ = t.natAbs * d * 2 ^ N3 * 2 ^ (D + (k + N1)) := by rw [← b2, Nat.pow_add 2 D, Nat.pow_add 2 k]; ac_rfl
  exact ⟨_, ⟨rfl, dq_nn q⟩, q⟩
end Jvm.GoK
namespace Jvm.GoK
theorem dq_zero (k : Nat) : DQ k 0 0 := by
  have := dq_up k (dq_of_int dint_zero)
  exact dq_cast this (by omega) (by omega)
end Jvm.GoK
namespace Jvm.GoK
theorem sg_zero {i j : Int} (e : i = j) : sg i j = 0 := by subst e; simp [sg]
theorem cmpQ0 {k : Nat} {i j : Int} {x y : UInt64} (hx : DQ k i x) (hy : DQ k j y) (e : i = j) (o : ClassFile.CmpOp) : Op.cmpValue (FP.dcmp x y) o = 0 := (cmpQ hx hy o).trans (sg_zero e)
end Jvm.GoK
namespace Jvm.Pilot.@@N@@
open Jvm Jvm.ClassFile Sem Op Lib Jvm.Free Jvm.Stand Jvm.LawKit Jvm.RoadKit Bundle Jvm.GoK Jvm.Pilot.@@N@@.Jvm.D
theorem d1_0 : decode prog_19_method_1_code 0 = .ok (.aload_n 0, 1) := by decide +kernel
theorem d1_1 : decode prog_19_method_1_code 1 = .ok (.invokespecial 1, 3) := by decide +kernel
theorem d1_4 : decode prog_19_method_1_code 4 = .ok (.aload_n 0, 1) := by decide +kernel
theorem d1_5 : decode prog_19_method_1_code 5 = .ok (.ldc2_w 9, 3) := by decide +kernel
theorem d1_8 : decode prog_19_method_1_code 8 = .ok (.putfield 11, 3) := by decide +kernel
theorem d1_11 : decode prog_19_method_1_code 11 = .ok (.aload_n 0, 1) := by decide +kernel
theorem d1_12 : decode prog_19_method_1_code 12 = .ok (.iload_n 1, 1) := by decide +kernel
theorem d1_13 : decode prog_19_method_1_code 13 = .ok (.putfield 15, 3) := by decide +kernel
theorem d1_16 : decode prog_19_method_1_code 16 = .ok (.aload_n 0, 1) := by decide +kernel
theorem d1_17 : decode prog_19_method_1_code 17 = .ok (.iload_n 2, 1) := by decide +kernel
theorem d1_18 : decode prog_19_method_1_code 18 = .ok (.putfield 19, 3) := by decide +kernel
theorem d1_21 : decode prog_19_method_1_code 21 = .ok (.aload_n 0, 1) := by decide +kernel
theorem d1_22 : decode prog_19_method_1_code 22 = .ok (.dload_n 3, 1) := by decide +kernel
theorem d1_23 : decode prog_19_method_1_code 23 = .ok (.putfield 22, 3) := by decide +kernel
theorem d1_26 : decode prog_19_method_1_code 26 = .ok (.return_, 1) := by decide +kernel
theorem d3_0 : decode prog_19_method_8_code 0 = .ok (.dload_n 1, 1) := by decide +kernel
theorem d3_1 : decode prog_19_method_8_code 1 = .ok (.dload 6, 2) := by decide +kernel
theorem d3_3 : decode prog_19_method_8_code 3 = .ok (.dmul, 1) := by decide +kernel
theorem d3_4 : decode prog_19_method_8_code 4 = .ok (.dconst 1, 1) := by decide +kernel
theorem d3_5 : decode prog_19_method_8_code 5 = .ok (.dcmp .l, 1) := by decide +kernel
theorem d3_6 : decode prog_19_method_8_code 6 = .ok (.ifCond .lt 22, 3) := by decide +kernel
theorem d3_9 : decode prog_19_method_8_code 9 = .ok (.aload_n 0, 1) := by decide +kernel
theorem d3_10 : decode prog_19_method_8_code 10 = .ok (.getfield 22, 3) := by decide +kernel
theorem d3_13 : decode prog_19_method_8_code 13 = .ok (.dload_n 3, 1) := by decide +kernel
theorem d3_14 : decode prog_19_method_8_code 14 = .ok (.dsub, 1) := by decide +kernel
theorem d3_15 : decode prog_19_method_8_code 15 = .ok (.ldc2_w 40, 3) := by decide +kernel
theorem d3_18 : decode prog_19_method_8_code 18 = .ok (.dload_n 1, 1) := by decide +kernel
theorem d3_19 : decode prog_19_method_8_code 19 = .ok (.dmul, 1) := by decide +kernel
theorem d3_20 : decode prog_19_method_8_code 20 = .ok (.dcmp .l, 1) := by decide +kernel
theorem d3_21 : decode prog_19_method_8_code 21 = .ok (.ifCond .le 7, 3) := by decide +kernel
theorem d3_24 : decode prog_19_method_8_code 24 = .ok (.iconst 1, 1) := by decide +kernel
theorem d3_25 : decode prog_19_method_8_code 25 = .ok (.goto 4, 3) := by decide +kernel
theorem d3_28 : decode prog_19_method_8_code 28 = .ok (.iconst 0, 1) := by decide +kernel
theorem d3_29 : decode prog_19_method_8_code 29 = .ok (.istore 10, 2) := by decide +kernel
theorem d3_31 : decode prog_19_method_8_code 31 = .ok (.iload 10, 2) := by decide +kernel
theorem d3_33 : decode prog_19_method_8_code 33 = .ok (.ifCond .eq 16, 3) := by decide +kernel
theorem d3_36 : decode prog_19_method_8_code 36 = .ok (.aload_n 0, 1) := by decide +kernel
theorem d3_37 : decode prog_19_method_8_code 37 = .ok (.dup, 1) := by decide +kernel
theorem d3_38 : decode prog_19_method_8_code 38 = .ok (.getfield 42, 3) := by decide +kernel
theorem d3_41 : decode prog_19_method_8_code 41 = .ok (.lconst 1, 1) := by decide +kernel
theorem d3_42 : decode prog_19_method_8_code 42 = .ok (.ladd, 1) := by decide +kernel
theorem d3_43 : decode prog_19_method_8_code 43 = .ok (.putfield 42, 3) := by decide +kernel
theorem d3_46 : decode prog_19_method_8_code 46 = .ok (.goto 13, 3) := by decide +kernel
theorem d3_49 : decode prog_19_method_8_code 49 = .ok (.iload 5, 2) := by decide +kernel
theorem d3_51 : decode prog_19_method_8_code 51 = .ok (.ifCond .ne 8, 3) := by decide +kernel
theorem d3_54 : decode prog_19_method_8_code 54 = .ok (.aload_n 0, 1) := by decide +kernel
theorem d3_55 : decode prog_19_method_8_code 55 = .ok (.lconst 0, 1) := by decide +kernel
theorem d3_56 : decode prog_19_method_8_code 56 = .ok (.putfield 42, 3) := by decide +kernel
theorem d3_59 : decode prog_19_method_8_code 59 = .ok (.aload_n 0, 1) := by decide +kernel
theorem d3_60 : decode prog_19_method_8_code 60 = .ok (.getfield 42, 3) := by decide +kernel
theorem d3_63 : decode prog_19_method_8_code 63 = .ok (.aload_n 0, 1) := by decide +kernel
theorem d3_64 : decode prog_19_method_8_code 64 = .ok (.getfield 11, 3) := by decide +kernel
theorem d3_67 : decode prog_19_method_8_code 67 = .ok (.lcmp, 1) := by decide +kernel
theorem d3_68 : decode prog_19_method_8_code 68 = .ok (.ifCond .lt 18, 3) := by decide +kernel
theorem d3_71 : decode prog_19_method_8_code 71 = .ok (.aload_n 0, 1) := by decide +kernel
theorem d3_72 : decode prog_19_method_8_code 72 = .ok (.getfield 15, 3) := by decide +kernel
theorem d3_75 : decode prog_19_method_8_code 75 = .ok (.aload_n 0, 1) := by decide +kernel
theorem d3_76 : decode prog_19_method_8_code 76 = .ok (.getfield 19, 3) := by decide +kernel
theorem d3_79 : decode prog_19_method_8_code 79 = .ok (.if_icmp .gt 7, 3) := by decide +kernel
theorem d3_82 : decode prog_19_method_8_code 82 = .ok (.iconst 1, 1) := by decide +kernel
theorem d3_83 : decode prog_19_method_8_code 83 = .ok (.goto 4, 3) := by decide +kernel
theorem d3_86 : decode prog_19_method_8_code 86 = .ok (.iconst 0, 1) := by decide +kernel
theorem d3_87 : decode prog_19_method_8_code 87 = .ok (.istore 11, 2) := by decide +kernel
theorem d3_89 : decode prog_19_method_8_code 89 = .ok (.aload_n 0, 1) := by decide +kernel
theorem d3_90 : decode prog_19_method_8_code 90 = .ok (.aload_n 0, 1) := by decide +kernel
theorem d3_91 : decode prog_19_method_8_code 91 = .ok (.getfield 37, 3) := by decide +kernel
theorem d3_94 : decode prog_19_method_8_code 94 = .ok (.ifCond .ne 19, 3) := by decide +kernel
theorem d3_97 : decode prog_19_method_8_code 97 = .ok (.iload 10, 2) := by decide +kernel
theorem d3_99 : decode prog_19_method_8_code 99 = .ok (.ifCond .eq 18, 3) := by decide +kernel
theorem d3_102 : decode prog_19_method_8_code 102 = .ok (.aload_n 0, 1) := by decide +kernel
theorem d3_103 : decode prog_19_method_8_code 103 = .ok (.getfield 15, 3) := by decide +kernel
theorem d3_106 : decode prog_19_method_8_code 106 = .ok (.aload_n 0, 1) := by decide +kernel
theorem d3_107 : decode prog_19_method_8_code 107 = .ok (.getfield 19, 3) := by decide +kernel
theorem d3_110 : decode prog_19_method_8_code 110 = .ok (.if_icmp .le 7, 3) := by decide +kernel
theorem d3_113 : decode prog_19_method_8_code 113 = .ok (.iconst 1, 1) := by decide +kernel
theorem d3_114 : decode prog_19_method_8_code 114 = .ok (.goto 4, 3) := by decide +kernel
theorem d3_117 : decode prog_19_method_8_code 117 = .ok (.iconst 0, 1) := by decide +kernel
theorem d3_118 : decode prog_19_method_8_code 118 = .ok (.putfield 37, 3) := by decide +kernel
theorem d3_121 : decode prog_19_method_8_code 121 = .ok (.iload 11, 2) := by decide +kernel
theorem d3_123 : decode prog_19_method_8_code 123 = .ok (.ifCond .eq 17, 3) := by decide +kernel
theorem d3_126 : decode prog_19_method_8_code 126 = .ok (.aload_n 0, 1) := by decide +kernel
theorem d3_127 : decode prog_19_method_8_code 127 = .ok (.dload_n 1, 1) := by decide +kernel
theorem d3_128 : decode prog_19_method_8_code 128 = .ok (.putfield 32, 3) := by decide +kernel
theorem d3_131 : decode prog_19_method_8_code 131 = .ok (.aload_n 0, 1) := by decide +kernel
theorem d3_132 : decode prog_19_method_8_code 132 = .ok (.dload_n 1, 1) := by decide +kernel
theorem d3_133 : decode prog_19_method_8_code 133 = .ok (.lload 8, 2) := by decide +kernel
theorem d3_135 : decode prog_19_method_8_code 135 = .ok (.l2d, 1) := by decide +kernel
theorem d3_136 : decode prog_19_method_8_code 136 = .ok (.ddiv, 1) := by decide +kernel
theorem d3_137 : decode prog_19_method_8_code 137 = .ok (.putfield 45, 3) := by decide +kernel
theorem d3_140 : decode prog_19_method_8_code 140 = .ok (.iload 11, 2) := by decide +kernel
theorem d3_142 : decode prog_19_method_8_code 142 = .ok (.ireturn, 1) := by decide +kernel
theorem d4_0 : decode prog_19_method_7_code 0 = .ok (.aload_n 0, 1) := by decide +kernel
theorem d4_1 : decode prog_19_method_7_code 1 = .ok (.getfield 37, 3) := by decide +kernel
theorem d4_4 : decode prog_19_method_7_code 4 = .ok (.ireturn, 1) := by decide +kernel
theorem d5_0 : decode method_2_code 0 = .ok (.iload_n 0, 1) := by decide +kernel
theorem d5_1 : decode method_2_code 1 = .ok (.i2l, 1) := by decide +kernel
theorem d5_2 : decode method_2_code 2 = .ok (.iload_n 1, 1) := by decide +kernel
theorem d5_3 : decode method_2_code 3 = .ok (.i2l, 1) := by decide +kernel
theorem d5_4 : decode method_2_code 4 = .ok (.lmul, 1) := by decide +kernel
theorem d5_5 : decode method_2_code 5 = .ok (.ldc2_w 7, 3) := by decide +kernel
theorem d5_8 : decode method_2_code 8 = .ok (.lcmp, 1) := by decide +kernel
theorem d5_9 : decode method_2_code 9 = .ok (.ifCond .lt 22, 3) := by decide +kernel
theorem d5_12 : decode method_2_code 12 = .ok (.iload_n 2, 1) := by decide +kernel
theorem d5_13 : decode method_2_code 13 = .ok (.i2l, 1) := by decide +kernel
theorem d5_14 : decode method_2_code 14 = .ok (.iload_n 3, 1) := by decide +kernel
theorem d5_15 : decode method_2_code 15 = .ok (.i2l, 1) := by decide +kernel
theorem d5_16 : decode method_2_code 16 = .ok (.lsub, 1) := by decide +kernel
theorem d5_17 : decode method_2_code 17 = .ok (.ldc2_w 9, 3) := by decide +kernel
theorem d5_20 : decode method_2_code 20 = .ok (.iload_n 0, 1) := by decide +kernel
theorem d5_21 : decode method_2_code 21 = .ok (.i2l, 1) := by decide +kernel
theorem d5_22 : decode method_2_code 22 = .ok (.lmul, 1) := by decide +kernel
theorem d5_23 : decode method_2_code 23 = .ok (.lcmp, 1) := by decide +kernel
theorem d5_24 : decode method_2_code 24 = .ok (.ifCond .le 7, 3) := by decide +kernel
theorem d5_27 : decode method_2_code 27 = .ok (.iconst 1, 1) := by decide +kernel
theorem d5_28 : decode method_2_code 28 = .ok (.goto 4, 3) := by decide +kernel
theorem d5_31 : decode method_2_code 31 = .ok (.iconst 0, 1) := by decide +kernel
theorem d5_32 : decode method_2_code 32 = .ok (.ireturn, 1) := by decide +kernel
theorem d6_0 : decode prog_19_method_5_code 0 = .ok (.aload_n 0, 1) := by decide +kernel
theorem d6_1 : decode prog_19_method_5_code 1 = .ok (.getfield 32, 3) := by decide +kernel
theorem d6_4 : decode prog_19_method_5_code 4 = .ok (.dreturn, 1) := by decide +kernel
theorem d7_0 : decode prog_19_method_4_code 0 = .ok (.aload_n 0, 1) := by decide +kernel
theorem d7_1 : decode prog_19_method_4_code 1 = .ok (.getfield 28, 3) := by decide +kernel
theorem d7_4 : decode prog_19_method_4_code 4 = .ok (.ireturn, 1) := by decide +kernel
theorem ef_5_IIII (x0 : Int32) (x1 : Int32) (x2 : Int32) (x3 : Int32) (m : MethodId) : entryFrame m #[(.int x0), (.int x1), (.int x2), (.int x3)] 4 = mkF m 0 #[.val (.int x0), .val (.int x1), .val (.int x2), .val (.int x3)] [] := by first | (simp [entryFrame, mkF, argsToLocals, Value.category, maxLocals]; done) | rfl
theorem pn_1 : plainName "com/example/orderly_crowd/orderlycrowd/fluid/IntegratorChoiceHeldBackPinLaw" = true := by first | (simp [plainName, overriddenIn]; done) | decide +kernel
theorem pd_2 : parseMethodDescriptor "(IIII)Z" = some ⟨[.int, .int, .int, .int], some .boolean⟩ := by decide +kernel
theorem ef_6_A (x0 : Nat) (m : MethodId) : entryFrame m #[(.ref x0)] 1 = mkF m 0 #[.val (.ref x0)] [] := by first | (simp [entryFrame, mkF, argsToLocals, Value.category, maxLocals]; done) | rfl
theorem pn_4 : plainName "com/example/orderly_crowd/orderlycrowd/fluid/IntegratorChoice" = true := by first | (simp [plainName, overriddenIn]; done) | decide +kernel
theorem pd_5 : parseMethodDescriptor "()D" = some ⟨[], some .double⟩ := by decide +kernel
theorem ef_7_A (x0 : Nat) (m : MethodId) : entryFrame m #[(.ref x0)] 1 = mkF m 0 #[.val (.ref x0)] [] := by first | (simp [entryFrame, mkF, argsToLocals, Value.category, maxLocals]; done) | rfl
theorem pd_7 : parseMethodDescriptor "()Z" = some ⟨[], some .boolean⟩ := by decide +kernel
theorem ef_1_AIID (x0 : Nat) (x1 : Int32) (x2 : Int32) (x3 : UInt64) (m : MethodId) : entryFrame m #[(.ref x0), (.int x1), (.int x2), (.double x3)] 5 = mkF m 0 #[.val (.ref x0), .val (.int x1), .val (.int x2), .val (.double x3), .second] [] := by first | (simp [entryFrame, mkF, argsToLocals, Value.category, maxLocals]; done) | rfl
theorem pd_9 : parseMethodDescriptor "(IID)V" = some ⟨[.int, .int, .double], none⟩ := by decide +kernel
theorem ef_3_ADDIDJ (x0 : Nat) (x1 : UInt64) (x2 : UInt64) (x3 : Int32) (x4 : UInt64) (x5 : Int64) (m : MethodId) : entryFrame m #[(.ref x0), (.double x1), (.double x2), (.int x3), (.double x4), (.long x5)] 12 = mkF m 0 #[.val (.ref x0), .val (.double x1), .second, .val (.double x2), .second, .val (.int x3), .val (.double x4), .second, .val (.long x5), .second, .unset, .unset] [] := by first | (simp [entryFrame, mkF, argsToLocals, Value.category, maxLocals]; done) | rfl
theorem pd_11 : parseMethodDescriptor "(DDZDJ)Z" = some ⟨[.double, .double, .boolean, .double, .long], some .boolean⟩ := by decide +kernel
theorem ef_4_A (x0 : Nat) (m : MethodId) : entryFrame m #[(.ref x0)] 1 = mkF m 0 #[.val (.ref x0)] [] := by first | (simp [entryFrame, mkF, argsToLocals, Value.category, maxLocals]; done) | rfl
theorem ef_0_JIJJJJ (x0 : Int64) (x1 : Int32) (x2 : Int64) (x3 : Int64) (x4 : Int64) (x5 : Int64) (m : MethodId) : entryFrame m #[(.long x0), (.int x1), (.long x2), (.long x3), (.long x4), (.long x5)] maxLocals = mkF m 0 #[.val (.long x0), .second, .val (.int x1), .val (.long x2), .second, .val (.long x3), .second, .val (.long x4), .second, .val (.long x5), .second, .unset, .unset, .unset, .unset, .unset, .unset, .unset, .unset, .unset, .unset, .unset, .unset, .unset, .unset, .unset, .unset, .unset, .unset] [] := by first | (simp [entryFrame, mkF, argsToLocals, Value.category, maxLocals]; done) | rfl
theorem law_pn0 : plainName "com/example/orderly_crowd/orderlycrowd/fluid/IntegratorChoiceHeldBackPinLaw" = true := by first | (simp [plainName, overriddenIn]; done) | decide +kernel
theorem law_pn : plainName x.cls = true := law_pn0
def IC (Z : State) (h : Heap) (a : Nat) (pt : Int64) (un : Int32) (mu : Int32) (et : UInt64) (nh : Int64) (sb : Int32) (hs : UInt64) (sf : Int32) : Prop := Exa Z h a "com/example/orderly_crowd/orderlycrowd/fluid/IntegratorChoice" ∧ Fld Z h a "com/example/orderly_crowd/orderlycrowd/fluid/IntegratorChoice" "patience" "J" (.long pt) ∧ Fld Z h a "com/example/orderly_crowd/orderlycrowd/fluid/IntegratorChoice" "unknowns" "I" (.int un) ∧ Fld Z h a "com/example/orderly_crowd/orderlycrowd/fluid/IntegratorChoice" "mostStiffUnknowns" "I" (.int mu) ∧ Fld Z h a "com/example/orderly_crowd/orderlycrowd/fluid/IntegratorChoice" "endTime" "D" (.double et) ∧ Fld Z h a "com/example/orderly_crowd/orderlycrowd/fluid/IntegratorChoice" "heldBackSteps" "J" (.long nh) ∧ Fld Z h a "com/example/orderly_crowd/orderlycrowd/fluid/IntegratorChoice" "stiffButTooLarge" "Z" (.int sb) ∧ Fld Z h a "com/example/orderly_crowd/orderlycrowd/fluid/IntegratorChoice" "heldBackStep" "D" (.double hs) ∧ Fld Z h a "com/example/orderly_crowd/orderlycrowd/fluid/IntegratorChoice" "stiff" "Z" (.int sf)
theorem IC.ext {Z : State} {h h' : Heap} {a : Nat} {pt : Int64} {un : Int32} {mu : Int32} {et : UInt64} {nh : Int64} {sb : Int32} {hs : UInt64} {sf : Int32} (H : IC Z h a pt un mu et nh sb hs sf) (E : Ext h h') : IC Z h' a pt un mu et nh sb hs sf := ⟨H.1.ext E, (H.2.1).ext E, (H.2.2.1).ext E, (H.2.2.2.1).ext E, (H.2.2.2.2.1).ext E, (H.2.2.2.2.2.1).ext E, (H.2.2.2.2.2.2.1).ext E, (H.2.2.2.2.2.2.2.1).ext E, (H.2.2.2.2.2.2.2.2).ext E⟩
theorem IC.keep {Z : State} {h h' : Heap} {a : Nat} {pt : Int64} {un : Int32} {mu : Int32} {et : UInt64} {nh : Int64} {sb : Int32} {hs : UInt64} {sf : Int32} {ws : List Nat} (H : IC Z h a pt un mu et nh sb hs sf) (K : Keep h h' ws) (q : a ∉ ws) : IC Z h' a pt un mu et nh sb hs sf := ⟨H.1.keep K, (H.2.1).keep K q, (H.2.2.1).keep K q, (H.2.2.2.1).keep K q, (H.2.2.2.2.1).keep K q, (H.2.2.2.2.2.1).keep K q, (H.2.2.2.2.2.2.1).keep K q, (H.2.2.2.2.2.2.2.1).keep K q, (H.2.2.2.2.2.2.2.2).keep K q⟩
theorem IC.put_patience {Z : State} {h h' : Heap} {a : Nat} {pt : Int64} {un : Int32} {mu : Int32} {et : UInt64} {nh : Int64} {sb : Int32} {hs : UInt64} {sf : Int32} {w : Int64} (a0 : Array Value) (hw : ∀ d ∈ tables_1, d.before a0 Z = true) (H : IC Z h a pt un mu et nh sb hs sf) (W : Wr h h' a (Jvm.RoadKit.slotOf Z "com/example/orderly_crowd/orderlycrowd/fluid/IntegratorChoice" "patience" "J") (.long w)) : IC Z h' a w un mu et nh sb hs sf := ⟨H.1.wr W, (H.2.1).same W, (H.2.2.1).other W (Or.inr (slot_ne (a0 := a0) (C := "com/example/orderly_crowd/orderlycrowd/fluid/IntegratorChoice") (Or.inr (hw _ (List.mem_of_getElem? (i := 13) rfl))) (Or.inl (hw _ (List.mem_of_getElem? (i := 11) rfl))) (by decide) (t := .int) (t' := .long) (by decide) (by decide))), (H.2.2.2.1).other W (Or.inr (slot_ne (a0 := a0) (C := "com/example/orderly_crowd/orderlycrowd/fluid/IntegratorChoice") (Or.inr (hw _ (List.mem_of_getElem? (i := 15) rfl))) (Or.inl (hw _ (List.mem_of_getElem? (i := 11) rfl))) (by decide) (t := .int) (t' := .long) (by decide) (by decide))), (H.2.2.2.2.1).other W (Or.inr (slot_ne (a0 := a0) (C := "com/example/orderly_crowd/orderlycrowd/fluid/IntegratorChoice") (Or.inr (hw _ (List.mem_of_getElem? (i := 17) rfl))) (Or.inl (hw _ (List.mem_of_getElem? (i := 11) rfl))) (by decide) (t := .double) (t' := .long) (by decide) (by decide))), (H.2.2.2.2.2.1).other W (Or.inr (slot_ne (a0 := a0) (C := "com/example/orderly_crowd/orderlycrowd/fluid/IntegratorChoice") (Or.inl (hw _ (List.mem_of_getElem? (i := 25) rfl))) (Or.inl (hw _ (List.mem_of_getElem? (i := 11) rfl))) (by decide) (t := .long) (t' := .long) (by decide) (by decide))), (H.2.2.2.2.2.2.1).other W (Or.inr (slot_ne (a0 := a0) (C := "com/example/orderly_crowd/orderlycrowd/fluid/IntegratorChoice") (Or.inl (hw _ (List.mem_of_getElem? (i := 27) rfl))) (Or.inl (hw _ (List.mem_of_getElem? (i := 11) rfl))) (by decide) (t := .boolean) (t' := .long) (by decide) (by decide))), (H.2.2.2.2.2.2.2.1).other W (Or.inr (slot_ne (a0 := a0) (C := "com/example/orderly_crowd/orderlycrowd/fluid/IntegratorChoice") (Or.inl (hw _ (List.mem_of_getElem? (i := 44) rfl))) (Or.inl (hw _ (List.mem_of_getElem? (i := 11) rfl))) (by decide) (t := .double) (t' := .long) (by decide) (by decide))), (H.2.2.2.2.2.2.2.2).other W (Or.inr (slot_ne (a0 := a0) (C := "com/example/orderly_crowd/orderlycrowd/fluid/IntegratorChoice") (Or.inl (hw _ (List.mem_of_getElem? (i := 51) rfl))) (Or.inl (hw _ (List.mem_of_getElem? (i := 11) rfl))) (by decide) (t := .boolean) (t' := .long) (by decide) (by decide)))⟩
theorem IC.put_unknowns {Z : State} {h h' : Heap} {a : Nat} {pt : Int64} {un : Int32} {mu : Int32} {et : UInt64} {nh : Int64} {sb : Int32} {hs : UInt64} {sf : Int32} {w : Int32} (a0 : Array Value) (hw : ∀ d ∈ tables_1, d.before a0 Z = true) (H : IC Z h a pt un mu et nh sb hs sf) (W : Wr h h' a (Jvm.RoadKit.slotOf Z "com/example/orderly_crowd/orderlycrowd/fluid/IntegratorChoice" "unknowns" "I") (.int w)) : IC Z h' a pt w mu et nh sb hs sf := ⟨H.1.wr W, (H.2.1).other W (Or.inr (slot_ne (a0 := a0) (C := "com/example/orderly_crowd/orderlycrowd/fluid/IntegratorChoice") (Or.inl (hw _ (List.mem_of_getElem? (i := 11) rfl))) (Or.inr (hw _ (List.mem_of_getElem? (i := 13) rfl))) (by decide) (t := .long) (t' := .int) (by decide) (by decide))), (H.2.2.1).same W, (H.2.2.2.1).other W (Or.inr (slot_ne (a0 := a0) (C := "com/example/orderly_crowd/orderlycrowd/fluid/IntegratorChoice") (Or.inr (hw _ (List.mem_of_getElem? (i := 15) rfl))) (Or.inr (hw _ (List.mem_of_getElem? (i := 13) rfl))) (by decide) (t := .int) (t' := .int) (by decide) (by decide))), (H.2.2.2.2.1).other W (Or.inr (slot_ne (a0 := a0) (C := "com/example/orderly_crowd/orderlycrowd/fluid/IntegratorChoice") (Or.inr (hw _ (List.mem_of_getElem? (i := 17) rfl))) (Or.inr (hw _ (List.mem_of_getElem? (i := 13) rfl))) (by decide) (t := .double) (t' := .int) (by decide) (by decide))), (H.2.2.2.2.2.1).other W (Or.inr (slot_ne (a0 := a0) (C := "com/example/orderly_crowd/orderlycrowd/fluid/IntegratorChoice") (Or.inl (hw _ (List.mem_of_getElem? (i := 25) rfl))) (Or.inr (hw _ (List.mem_of_getElem? (i := 13) rfl))) (by decide) (t := .long) (t' := .int) (by decide) (by decide))), (H.2.2.2.2.2.2.1).other W (Or.inr (slot_ne (a0 := a0) (C := "com/example/orderly_crowd/orderlycrowd/fluid/IntegratorChoice") (Or.inl (hw _ (List.mem_of_getElem? (i := 27) rfl))) (Or.inr (hw _ (List.mem_of_getElem? (i := 13) rfl))) (by decide) (t := .boolean) (t' := .int) (by decide) (by decide))), (H.2.2.2.2.2.2.2.1).other W (Or.inr (slot_ne (a0 := a0) (C := "com/example/orderly_crowd/orderlycrowd/fluid/IntegratorChoice") (Or.inl (hw _ (List.mem_of_getElem? (i := 44) rfl))) (Or.inr (hw _ (List.mem_of_getElem? (i := 13) rfl))) (by decide) (t := .double) (t' := .int) (by decide) (by decide))), (H.2.2.2.2.2.2.2.2).other W (Or.inr (slot_ne (a0 := a0) (C := "com/example/orderly_crowd/orderlycrowd/fluid/IntegratorChoice") (Or.inl (hw _ (List.mem_of_getElem? (i := 51) rfl))) (Or.inr (hw _ (List.mem_of_getElem? (i := 13) rfl))) (by decide) (t := .boolean) (t' := .int) (by decide) (by decide)))⟩
theorem IC.put_mostStiffUnknowns {Z : State} {h h' : Heap} {a : Nat} {pt : Int64} {un : Int32} {mu : Int32} {et : UInt64} {nh : Int64} {sb : Int32} {hs : UInt64} {sf : Int32} {w : Int32} (a0 : Array Value) (hw : ∀ d ∈ tables_1, d.before a0 Z = true) (H : IC Z h a pt un mu et nh sb hs sf) (W : Wr h h' a (Jvm.RoadKit.slotOf Z "com/example/orderly_crowd/orderlycrowd/fluid/IntegratorChoice" "mostStiffUnknowns" "I") (.int w)) : IC Z h' a pt un w et nh sb hs sf := ⟨H.1.wr W, (H.2.1).other W (Or.inr (slot_ne (a0 := a0) (C := "com/example/orderly_crowd/orderlycrowd/fluid/IntegratorChoice") (Or.inl (hw _ (List.mem_of_getElem? (i := 11) rfl))) (Or.inr (hw _ (List.mem_of_getElem? (i := 15) rfl))) (by decide) (t := .long) (t' := .int) (by decide) (by decide))), (H.2.2.1).other W (Or.inr (slot_ne (a0 := a0) (C := "com/example/orderly_crowd/orderlycrowd/fluid/IntegratorChoice") (Or.inr (hw _ (List.mem_of_getElem? (i := 13) rfl))) (Or.inr (hw _ (List.mem_of_getElem? (i := 15) rfl))) (by decide) (t := .int) (t' := .int) (by decide) (by decide))), (H.2.2.2.1).same W, (H.2.2.2.2.1).other W (Or.inr (slot_ne (a0 := a0) (C := "com/example/orderly_crowd/orderlycrowd/fluid/IntegratorChoice") (Or.inr (hw _ (List.mem_of_getElem? (i := 17) rfl))) (Or.inr (hw _ (List.mem_of_getElem? (i := 15) rfl))) (by decide) (t := .double) (t' := .int) (by decide) (by decide))), (H.2.2.2.2.2.1).other W (Or.inr (slot_ne (a0 := a0) (C := "com/example/orderly_crowd/orderlycrowd/fluid/IntegratorChoice") (Or.inl (hw _ (List.mem_of_getElem? (i := 25) rfl))) (Or.inr (hw _ (List.mem_of_getElem? (i := 15) rfl))) (by decide) (t := .long) (t' := .int) (by decide) (by decide))), (H.2.2.2.2.2.2.1).other W (Or.inr (slot_ne (a0 := a0) (C := "com/example/orderly_crowd/orderlycrowd/fluid/IntegratorChoice") (Or.inl (hw _ (List.mem_of_getElem? (i := 27) rfl))) (Or.inr (hw _ (List.mem_of_getElem? (i := 15) rfl))) (by decide) (t := .boolean) (t' := .int) (by decide) (by decide))), (H.2.2.2.2.2.2.2.1).other W (Or.inr (slot_ne (a0 := a0) (C := "com/example/orderly_crowd/orderlycrowd/fluid/IntegratorChoice") (Or.inl (hw _ (List.mem_of_getElem? (i := 44) rfl))) (Or.inr (hw _ (List.mem_of_getElem? (i := 15) rfl))) (by decide) (t := .double) (t' := .int) (by decide) (by decide))), (H.2.2.2.2.2.2.2.2).other W (Or.inr (slot_ne (a0 := a0) (C := "com/example/orderly_crowd/orderlycrowd/fluid/IntegratorChoice") (Or.inl (hw _ (List.mem_of_getElem? (i := 51) rfl))) (Or.inr (hw _ (List.mem_of_getElem? (i := 15) rfl))) (by decide) (t := .boolean) (t' := .int) (by decide) (by decide)))⟩
theorem IC.put_endTime {Z : State} {h h' : Heap} {a : Nat} {pt : Int64} {un : Int32} {mu : Int32} {et : UInt64} {nh : Int64} {sb : Int32} {hs : UInt64} {sf : Int32} {w : UInt64} (a0 : Array Value) (hw : ∀ d ∈ tables_1, d.before a0 Z = true) (H : IC Z h a pt un mu et nh sb hs sf) (W : Wr h h' a (Jvm.RoadKit.slotOf Z "com/example/orderly_crowd/orderlycrowd/fluid/IntegratorChoice" "endTime" "D") (.double w)) : IC Z h' a pt un mu w nh sb hs sf := ⟨H.1.wr W, (H.2.1).other W (Or.inr (slot_ne (a0 := a0) (C := "com/example/orderly_crowd/orderlycrowd/fluid/IntegratorChoice") (Or.inl (hw _ (List.mem_of_getElem? (i := 11) rfl))) (Or.inr (hw _ (List.mem_of_getElem? (i := 17) rfl))) (by decide) (t := .long) (t' := .double) (by decide) (by decide))), (H.2.2.1).other W (Or.inr (slot_ne (a0 := a0) (C := "com/example/orderly_crowd/orderlycrowd/fluid/IntegratorChoice") (Or.inr (hw _ (List.mem_of_getElem? (i := 13) rfl))) (Or.inr (hw _ (List.mem_of_getElem? (i := 17) rfl))) (by decide) (t := .int) (t' := .double) (by decide) (by decide))), (H.2.2.2.1).other W (Or.inr (slot_ne (a0 := a0) (C := "com/example/orderly_crowd/orderlycrowd/fluid/IntegratorChoice") (Or.inr (hw _ (List.mem_of_getElem? (i := 15) rfl))) (Or.inr (hw _ (List.mem_of_getElem? (i := 17) rfl))) (by decide) (t := .int) (t' := .double) (by decide) (by decide))), (H.2.2.2.2.1).same W, (H.2.2.2.2.2.1).other W (Or.inr (slot_ne (a0 := a0) (C := "com/example/orderly_crowd/orderlycrowd/fluid/IntegratorChoice") (Or.inl (hw _ (List.mem_of_getElem? (i := 25) rfl))) (Or.inr (hw _ (List.mem_of_getElem? (i := 17) rfl))) (by decide) (t := .long) (t' := .double) (by decide) (by decide))), (H.2.2.2.2.2.2.1).other W (Or.inr (slot_ne (a0 := a0) (C := "com/example/orderly_crowd/orderlycrowd/fluid/IntegratorChoice") (Or.inl (hw _ (List.mem_of_getElem? (i := 27) rfl))) (Or.inr (hw _ (List.mem_of_getElem? (i := 17) rfl))) (by decide) (t := .boolean) (t' := .double) (by decide) (by decide))), (H.2.2.2.2.2.2.2.1).other W (Or.inr (slot_ne (a0 := a0) (C := "com/example/orderly_crowd/orderlycrowd/fluid/IntegratorChoice") (Or.inl (hw _ (List.mem_of_getElem? (i := 44) rfl))) (Or.inr (hw _ (List.mem_of_getElem? (i := 17) rfl))) (by decide) (t := .double) (t' := .double) (by decide) (by decide))), (H.2.2.2.2.2.2.2.2).other W (Or.inr (slot_ne (a0 := a0) (C := "com/example/orderly_crowd/orderlycrowd/fluid/IntegratorChoice") (Or.inl (hw _ (List.mem_of_getElem? (i := 51) rfl))) (Or.inr (hw _ (List.mem_of_getElem? (i := 17) rfl))) (by decide) (t := .boolean) (t' := .double) (by decide) (by decide)))⟩
theorem IC.put_heldBackSteps {Z : State} {h h' : Heap} {a : Nat} {pt : Int64} {un : Int32} {mu : Int32} {et : UInt64} {nh : Int64} {sb : Int32} {hs : UInt64} {sf : Int32} {w : Int64} (a0 : Array Value) (hw : ∀ d ∈ tables_1, d.before a0 Z = true) (H : IC Z h a pt un mu et nh sb hs sf) (W : Wr h h' a (Jvm.RoadKit.slotOf Z "com/example/orderly_crowd/orderlycrowd/fluid/IntegratorChoice" "heldBackSteps" "J") (.long w)) : IC Z h' a pt un mu et w sb hs sf := ⟨H.1.wr W, (H.2.1).other W (Or.inr (slot_ne (a0 := a0) (C := "com/example/orderly_crowd/orderlycrowd/fluid/IntegratorChoice") (Or.inl (hw _ (List.mem_of_getElem? (i := 11) rfl))) (Or.inl (hw _ (List.mem_of_getElem? (i := 25) rfl))) (by decide) (t := .long) (t' := .long) (by decide) (by decide))), (H.2.2.1).other W (Or.inr (slot_ne (a0 := a0) (C := "com/example/orderly_crowd/orderlycrowd/fluid/IntegratorChoice") (Or.inr (hw _ (List.mem_of_getElem? (i := 13) rfl))) (Or.inl (hw _ (List.mem_of_getElem? (i := 25) rfl))) (by decide) (t := .int) (t' := .long) (by decide) (by decide))), (H.2.2.2.1).other W (Or.inr (slot_ne (a0 := a0) (C := "com/example/orderly_crowd/orderlycrowd/fluid/IntegratorChoice") (Or.inr (hw _ (List.mem_of_getElem? (i := 15) rfl))) (Or.inl (hw _ (List.mem_of_getElem? (i := 25) rfl))) (by decide) (t := .int) (t' := .long) (by decide) (by decide))), (H.2.2.2.2.1).other W (Or.inr (slot_ne (a0 := a0) (C := "com/example/orderly_crowd/orderlycrowd/fluid/IntegratorChoice") (Or.inr (hw _ (List.mem_of_getElem? (i := 17) rfl))) (Or.inl (hw _ (List.mem_of_getElem? (i := 25) rfl))) (by decide) (t := .double) (t' := .long) (by decide) (by decide))), (H.2.2.2.2.2.1).same W, (H.2.2.2.2.2.2.1).other W (Or.inr (slot_ne (a0 := a0) (C := "com/example/orderly_crowd/orderlycrowd/fluid/IntegratorChoice") (Or.inl (hw _ (List.mem_of_getElem? (i := 27) rfl))) (Or.inl (hw _ (List.mem_of_getElem? (i := 25) rfl))) (by decide) (t := .boolean) (t' := .long) (by decide) (by decide))), (H.2.2.2.2.2.2.2.1).other W (Or.inr (slot_ne (a0 := a0) (C := "com/example/orderly_crowd/orderlycrowd/fluid/IntegratorChoice") (Or.inl (hw _ (List.mem_of_getElem? (i := 44) rfl))) (Or.inl (hw _ (List.mem_of_getElem? (i := 25) rfl))) (by decide) (t := .double) (t' := .long) (by decide) (by decide))), (H.2.2.2.2.2.2.2.2).other W (Or.inr (slot_ne (a0 := a0) (C := "com/example/orderly_crowd/orderlycrowd/fluid/IntegratorChoice") (Or.inl (hw _ (List.mem_of_getElem? (i := 51) rfl))) (Or.inl (hw _ (List.mem_of_getElem? (i := 25) rfl))) (by decide) (t := .boolean) (t' := .long) (by decide) (by decide)))⟩
theorem IC.put_stiffButTooLarge {Z : State} {h h' : Heap} {a : Nat} {pt : Int64} {un : Int32} {mu : Int32} {et : UInt64} {nh : Int64} {sb : Int32} {hs : UInt64} {sf : Int32} {w : Int32} (a0 : Array Value) (hw : ∀ d ∈ tables_1, d.before a0 Z = true) (H : IC Z h a pt un mu et nh sb hs sf) (W : Wr h h' a (Jvm.RoadKit.slotOf Z "com/example/orderly_crowd/orderlycrowd/fluid/IntegratorChoice" "stiffButTooLarge" "Z") (.int w)) : IC Z h' a pt un mu et nh w hs sf := ⟨H.1.wr W, (H.2.1).other W (Or.inr (slot_ne (a0 := a0) (C := "com/example/orderly_crowd/orderlycrowd/fluid/IntegratorChoice") (Or.inl (hw _ (List.mem_of_getElem? (i := 11) rfl))) (Or.inl (hw _ (List.mem_of_getElem? (i := 27) rfl))) (by decide) (t := .long) (t' := .boolean) (by decide) (by decide))), (H.2.2.1).other W (Or.inr (slot_ne (a0 := a0) (C := "com/example/orderly_crowd/orderlycrowd/fluid/IntegratorChoice") (Or.inr (hw _ (List.mem_of_getElem? (i := 13) rfl))) (Or.inl (hw _ (List.mem_of_getElem? (i := 27) rfl))) (by decide) (t := .int) (t' := .boolean) (by decide) (by decide))), (H.2.2.2.1).other W (Or.inr (slot_ne (a0 := a0) (C := "com/example/orderly_crowd/orderlycrowd/fluid/IntegratorChoice") (Or.inr (hw _ (List.mem_of_getElem? (i := 15) rfl))) (Or.inl (hw _ (List.mem_of_getElem? (i := 27) rfl))) (by decide) (t := .int) (t' := .boolean) (by decide) (by decide))), (H.2.2.2.2.1).other W (Or.inr (slot_ne (a0 := a0) (C := "com/example/orderly_crowd/orderlycrowd/fluid/IntegratorChoice") (Or.inr (hw _ (List.mem_of_getElem? (i := 17) rfl))) (Or.inl (hw _ (List.mem_of_getElem? (i := 27) rfl))) (by decide) (t := .double) (t' := .boolean) (by decide) (by decide))), (H.2.2.2.2.2.1).other W (Or.inr (slot_ne (a0 := a0) (C := "com/example/orderly_crowd/orderlycrowd/fluid/IntegratorChoice") (Or.inl (hw _ (List.mem_of_getElem? (i := 25) rfl))) (Or.inl (hw _ (List.mem_of_getElem? (i := 27) rfl))) (by decide) (t := .long) (t' := .boolean) (by decide) (by decide))), (H.2.2.2.2.2.2.1).same W, (H.2.2.2.2.2.2.2.1).other W (Or.inr (slot_ne (a0 := a0) (C := "com/example/orderly_crowd/orderlycrowd/fluid/IntegratorChoice") (Or.inl (hw _ (List.mem_of_getElem? (i := 44) rfl))) (Or.inl (hw _ (List.mem_of_getElem? (i := 27) rfl))) (by decide) (t := .double) (t' := .boolean) (by decide) (by decide))), (H.2.2.2.2.2.2.2.2).other W (Or.inr (slot_ne (a0 := a0) (C := "com/example/orderly_crowd/orderlycrowd/fluid/IntegratorChoice") (Or.inl (hw _ (List.mem_of_getElem? (i := 51) rfl))) (Or.inl (hw _ (List.mem_of_getElem? (i := 27) rfl))) (by decide) (t := .boolean) (t' := .boolean) (by decide) (by decide)))⟩
theorem IC.put_heldBackStep {Z : State} {h h' : Heap} {a : Nat} {pt : Int64} {un : Int32} {mu : Int32} {et : UInt64} {nh : Int64} {sb : Int32} {hs : UInt64} {sf : Int32} {w : UInt64} (a0 : Array Value) (hw : ∀ d ∈ tables_1, d.before a0 Z = true) (H : IC Z h a pt un mu et nh sb hs sf) (W : Wr h h' a (Jvm.RoadKit.slotOf Z "com/example/orderly_crowd/orderlycrowd/fluid/IntegratorChoice" "heldBackStep" "D") (.double w)) : IC Z h' a pt un mu et nh sb w sf := ⟨H.1.wr W, (H.2.1).other W (Or.inr (slot_ne (a0 := a0) (C := "com/example/orderly_crowd/orderlycrowd/fluid/IntegratorChoice") (Or.inl (hw _ (List.mem_of_getElem? (i := 11) rfl))) (Or.inl (hw _ (List.mem_of_getElem? (i := 44) rfl))) (by decide) (t := .long) (t' := .double) (by decide) (by decide))), (H.2.2.1).other W (Or.inr (slot_ne (a0 := a0) (C := "com/example/orderly_crowd/orderlycrowd/fluid/IntegratorChoice") (Or.inr (hw _ (List.mem_of_getElem? (i := 13) rfl))) (Or.inl (hw _ (List.mem_of_getElem? (i := 44) rfl))) (by decide) (t := .int) (t' := .double) (by decide) (by decide))), (H.2.2.2.1).other W (Or.inr (slot_ne (a0 := a0) (C := "com/example/orderly_crowd/orderlycrowd/fluid/IntegratorChoice") (Or.inr (hw _ (List.mem_of_getElem? (i := 15) rfl))) (Or.inl (hw _ (List.mem_of_getElem? (i := 44) rfl))) (by decide) (t := .int) (t' := .double) (by decide) (by decide))), (H.2.2.2.2.1).other W (Or.inr (slot_ne (a0 := a0) (C := "com/example/orderly_crowd/orderlycrowd/fluid/IntegratorChoice") (Or.inr (hw _ (List.mem_of_getElem? (i := 17) rfl))) (Or.inl (hw _ (List.mem_of_getElem? (i := 44) rfl))) (by decide) (t := .double) (t' := .double) (by decide) (by decide))), (H.2.2.2.2.2.1).other W (Or.inr (slot_ne (a0 := a0) (C := "com/example/orderly_crowd/orderlycrowd/fluid/IntegratorChoice") (Or.inl (hw _ (List.mem_of_getElem? (i := 25) rfl))) (Or.inl (hw _ (List.mem_of_getElem? (i := 44) rfl))) (by decide) (t := .long) (t' := .double) (by decide) (by decide))), (H.2.2.2.2.2.2.1).other W (Or.inr (slot_ne (a0 := a0) (C := "com/example/orderly_crowd/orderlycrowd/fluid/IntegratorChoice") (Or.inl (hw _ (List.mem_of_getElem? (i := 27) rfl))) (Or.inl (hw _ (List.mem_of_getElem? (i := 44) rfl))) (by decide) (t := .boolean) (t' := .double) (by decide) (by decide))), (H.2.2.2.2.2.2.2.1).same W, (H.2.2.2.2.2.2.2.2).other W (Or.inr (slot_ne (a0 := a0) (C := "com/example/orderly_crowd/orderlycrowd/fluid/IntegratorChoice") (Or.inl (hw _ (List.mem_of_getElem? (i := 51) rfl))) (Or.inl (hw _ (List.mem_of_getElem? (i := 44) rfl))) (by decide) (t := .boolean) (t' := .double) (by decide) (by decide)))⟩
theorem IC.put_stiff {Z : State} {h h' : Heap} {a : Nat} {pt : Int64} {un : Int32} {mu : Int32} {et : UInt64} {nh : Int64} {sb : Int32} {hs : UInt64} {sf : Int32} {w : Int32} (a0 : Array Value) (hw : ∀ d ∈ tables_1, d.before a0 Z = true) (H : IC Z h a pt un mu et nh sb hs sf) (W : Wr h h' a (Jvm.RoadKit.slotOf Z "com/example/orderly_crowd/orderlycrowd/fluid/IntegratorChoice" "stiff" "Z") (.int w)) : IC Z h' a pt un mu et nh sb hs w := ⟨H.1.wr W, (H.2.1).other W (Or.inr (slot_ne (a0 := a0) (C := "com/example/orderly_crowd/orderlycrowd/fluid/IntegratorChoice") (Or.inl (hw _ (List.mem_of_getElem? (i := 11) rfl))) (Or.inl (hw _ (List.mem_of_getElem? (i := 51) rfl))) (by decide) (t := .long) (t' := .boolean) (by decide) (by decide))), (H.2.2.1).other W (Or.inr (slot_ne (a0 := a0) (C := "com/example/orderly_crowd/orderlycrowd/fluid/IntegratorChoice") (Or.inr (hw _ (List.mem_of_getElem? (i := 13) rfl))) (Or.inl (hw _ (List.mem_of_getElem? (i := 51) rfl))) (by decide) (t := .int) (t' := .boolean) (by decide) (by decide))), (H.2.2.2.1).other W (Or.inr (slot_ne (a0 := a0) (C := "com/example/orderly_crowd/orderlycrowd/fluid/IntegratorChoice") (Or.inr (hw _ (List.mem_of_getElem? (i := 15) rfl))) (Or.inl (hw _ (List.mem_of_getElem? (i := 51) rfl))) (by decide) (t := .int) (t' := .boolean) (by decide) (by decide))), (H.2.2.2.2.1).other W (Or.inr (slot_ne (a0 := a0) (C := "com/example/orderly_crowd/orderlycrowd/fluid/IntegratorChoice") (Or.inr (hw _ (List.mem_of_getElem? (i := 17) rfl))) (Or.inl (hw _ (List.mem_of_getElem? (i := 51) rfl))) (by decide) (t := .double) (t' := .boolean) (by decide) (by decide))), (H.2.2.2.2.2.1).other W (Or.inr (slot_ne (a0 := a0) (C := "com/example/orderly_crowd/orderlycrowd/fluid/IntegratorChoice") (Or.inl (hw _ (List.mem_of_getElem? (i := 25) rfl))) (Or.inl (hw _ (List.mem_of_getElem? (i := 51) rfl))) (by decide) (t := .long) (t' := .boolean) (by decide) (by decide))), (H.2.2.2.2.2.2.1).other W (Or.inr (slot_ne (a0 := a0) (C := "com/example/orderly_crowd/orderlycrowd/fluid/IntegratorChoice") (Or.inl (hw _ (List.mem_of_getElem? (i := 27) rfl))) (Or.inl (hw _ (List.mem_of_getElem? (i := 51) rfl))) (by decide) (t := .boolean) (t' := .boolean) (by decide) (by decide))), (H.2.2.2.2.2.2.2.1).other W (Or.inr (slot_ne (a0 := a0) (C := "com/example/orderly_crowd/orderlycrowd/fluid/IntegratorChoice") (Or.inl (hw _ (List.mem_of_getElem? (i := 44) rfl))) (Or.inl (hw _ (List.mem_of_getElem? (i := 51) rfl))) (by decide) (t := .double) (t' := .boolean) (by decide) (by decide))), (H.2.2.2.2.2.2.2.2).same W⟩
def b2i (p : Prop) [Decidable p] : Int32 := if p then 1 else 0
theorem b2i_cases (p : Prop) [Decidable p] : (b2i p = 1 ∧ (b2i p).toInt = 1 ∧ p) ∨ (b2i p = 0 ∧ (b2i p).toInt = 0 ∧ ¬ p) := by
  unfold b2i
  by_cases h : p
  · rw [if_pos h]; exact Or.inl ⟨rfl, by decide, h⟩
  · rw [if_neg h]; exact Or.inr ⟨rfl, by decide, h⟩
theorem b2i_01 (p : Prop) [Decidable p] : b2i p = 0 ∨ b2i p = 1 := by rcases b2i_cases p with h | h; exact Or.inr h.1; exact Or.inl h.1
theorem b2i_t {p : Prop} [Decidable p] (h : p) : (1 : Int32) = b2i p := (if_pos h).symm
theorem b2i_f {p : Prop} [Decidable p] (h : ¬ p) : (0 : Int32) = b2i p := (if_neg h).symm
theorem fits_bool {z : Int32} (h : z = 0 ∨ z = 1) : fits .boolean (.int z) = true := by rcases h with rfl | rfl <;> rfl
theorem narrow_bool {z : Int32} (h : z = 0 ∨ z = 1) : narrow .boolean (.int z) = .int z := by rcases h with rfl | rfl <;> rfl
theorem cmpL_cases (x y : Int64) : ((XT.cmpL x y).toInt = -1 ∧ x.toInt < y.toInt) ∨ ((XT.cmpL x y).toInt = 0 ∧ x.toInt = y.toInt) ∨ ((XT.cmpL x y).toInt = 1 ∧ y.toInt < x.toInt) := by
  unfold XT.cmpL
  by_cases h1 : y < x
  · rw [if_pos h1]; exact Or.inr (Or.inr ⟨by decide, Int64.lt_iff_toInt_lt.mp h1⟩)
  · rw [if_neg h1]
    by_cases h2 : x = y
    · rw [if_pos h2]; exact Or.inr (Or.inl ⟨by decide, by rw [h2]⟩)
    · rw [if_neg h2]; refine Or.inl ⟨by decide, ?_⟩
      have a1 : ¬ y.toInt < x.toInt := fun q => h1 (Int64.lt_iff_toInt_lt.mpr q)
      have a2 : ¬ x.toInt = y.toInt := fun q => h2 (Int64.toInt_inj.mp q)
      omega
def Q1 (v : Option Value) (_ : Heap) : Prop := v = some (.int 1)
/-- a step is held back -/
def Hd (s f E e : Int) : Prop := 64 ≤ s * f ∧ 125 * s < E - e
instance (s f E e : Int) : Decidable (Hd s f E e) := by unfold Hd; exact inferInstance
set_option maxRecDepth 65536 in
set_option maxHeartbeats 40000000 in
theorem init_go (l : Launch) (Z : State) (a0 : Array Value) (hw : ∀ d ∈ tables_1, d.before a0 Z = true) {n0 : Nat} {h : Heap} {a : Nat} {u m : Int32} {et : UInt64} (H0 : IC Z h a 0 0 0 0 0 0 0 0) (na : n0 ≤ a) :
    Go l Z ({ frames := 1, cells := 0, slots := 0, locals := 16 } : Room) ((⟨"com/example/orderly_crowd/orderlycrowd/fluid/IntegratorChoice", "<init>", "(IID)V"⟩ : MethodName), prog_19_method_1_code, 5, none) n0 (fun v h' => v = none ∧ IC Z h' a 32 u m et 0 0 0 0) h 0 0 0 #[.val (.ref a), .val (.int u), .val (.int m), .val (.double et), .second] [] := by
  refine Go.aloadN 1 d1_0 rfl rfl rfl ?_
  refine Go.initO 4 (hw _ (List.mem_of_getElem? (i := 6) rfl)) (hw _ (List.mem_of_getElem? (i := 7) rfl)) (hw _ (List.mem_of_getElem? (i := 8) rfl)) rfl d1_1 rfl (by decide) (leB rfl) ?_
  refine Go.aloadN 5 d1_4 rfl rfl rfl ?_
  refine Go.ldc2J 8 32 (hw _ (List.mem_of_getElem? (i := 9) rfl)) d1_5 rfl ?_
  refine Go.putF 11 (hw _ (List.mem_of_getElem? (i := 10) rfl)) H0.2.1 H0.1 (Or.inl (hw _ (List.mem_of_getElem? (i := 11) rfl))) (hw _ (List.mem_of_getElem? (i := 1) rfl)) (ty := .long) (by decide) rfl rfl na d1_8 rfl ?_
  intro h1 W1
  have H1 := H0.put_patience a0 hw W1
  refine Go.aloadN 12 d1_11 rfl rfl rfl ?_
  refine Go.iloadN 13 d1_12 rfl rfl ?_
  refine Go.putF 16 (hw _ (List.mem_of_getElem? (i := 12) rfl)) H1.2.2.1 H1.1 (Or.inr ⟨(hw _ (List.mem_of_getElem? (i := 13) rfl)), rfl, rfl⟩) (hw _ (List.mem_of_getElem? (i := 1) rfl)) (ty := .int) (by decide) rfl rfl na d1_13 rfl ?_
  intro h2 W2
  have H2 := H1.put_unknowns a0 hw W2
  refine Go.aloadN 17 d1_16 rfl rfl rfl ?_
  refine Go.iloadN 18 d1_17 rfl rfl ?_
  refine Go.putF 21 (hw _ (List.mem_of_getElem? (i := 14) rfl)) H2.2.2.2.1 H2.1 (Or.inr ⟨(hw _ (List.mem_of_getElem? (i := 15) rfl)), rfl, rfl⟩) (hw _ (List.mem_of_getElem? (i := 1) rfl)) (ty := .int) (by decide) rfl rfl na d1_18 rfl ?_
  intro h3 W3
  have H3 := H2.put_mostStiffUnknowns a0 hw W3
  refine Go.aloadN 22 d1_21 rfl rfl rfl ?_
  refine Go.dloadN 23 d1_22 rfl rfl ?_
  refine Go.putF 26 (hw _ (List.mem_of_getElem? (i := 16) rfl)) H3.2.2.2.2.1 H3.1 (Or.inr ⟨(hw _ (List.mem_of_getElem? (i := 17) rfl)), rfl, rfl⟩) (hw _ (List.mem_of_getElem? (i := 1) rfl)) (ty := .double) (by decide) rfl rfl na d1_23 rfl ?_
  intro h4 W4
  have H4 := H3.put_endTime a0 hw W4
  exact Go.ret d1_26 rfl (by decide) (by decide) ⟨rfl, H4⟩
theorem d1000 : FP.Core.DInt 1000 4652007308841189376 := by
  unfold FP.Core.DInt
  have : FP.Core.val64 4652007308841189376 = .fin false 8796093022208000 (-43) := by decide +kernel
  rw [this]
  show FP.Core.signed false _ = _
  decide +kernel
set_option maxRecDepth 65536 in
set_option maxHeartbeats 40000000 in
theorem held_back_go (l : Launch) (Z : State) (a0 : Array Value) (hw : ∀ d ∈ tables_1, d.before a0 Z = true) {n0 : Nat} {h : Heap} {a : Nat} {un mu la : Int32} {et st en fa hs : UInt64} {sf : Int32} {nh ef : Int64} {B : Prop} [Decidable B] {s f E e : Int} (H : IC Z h a 32 un mu et nh (b2i B) hs sf) (na : n0 ≤ a) (b0 : 0 ≤ nh.toInt) (b9 : nh.toInt ≤ 5)
    (ds : DQ 3 s st) (df : DQ 3 f fa) (dE : FP.Core.DInt E et) (de : FP.Core.DInt e en) (bs : -32768 ≤ s ∧ s ≤ 32767) (bf : -2147483648 ≤ f ∧ f ≤ 2147483647) (bp : (s * f).natAbs < 2 ^ 53) (bE : -2147483648 ≤ E ∧ E ≤ 2147483647) (be : -2147483648 ≤ e ∧ e ≤ 2147483647) :
    Go l Z ({ frames := 0, cells := 0, slots := 0, locals := 0 } : Room) ((⟨"com/example/orderly_crowd/orderlycrowd/fluid/IntegratorChoice", "heldBack", "(DDZDJ)Z"⟩ : MethodName), prog_19_method_8_code, 12, some .boolean) n0 (fun v h' => v = some (.int 0) ∧ ∃ nh' : Int64, 0 ≤ nh'.toInt ∧ nh'.toInt ≤ nh.toInt + 1 ∧ IC Z h' a 32 un mu et nh' (b2i (B ∨ (Hd s f E e ∧ mu.toInt < un.toInt))) hs sf) h 0 0 0 #[.val (.ref a), .val (.double st), .second, .val (.double en), .second, .val (.int la), .val (.double fa), .second, .val (.long ef), .second, .unset, .unset] [] := by
  obtain ⟨p, q1, d1⟩ := mulQ ds df (by omega) (by decide)
  obtain ⟨d, q2, d2⟩ := subI dE de (by omega) (by omega)
  obtain ⟨t, q3, d3⟩ := mulQ (dq_of_int d1000) ds (by omega) (by decide)
  have d2' := dq_up 3 (dq_of_int d2)
  have d1' := dq_up 6 (dq_of_int FP.Core.dint_one)
  have c1 := cmpQ d1 (dq_cast d1' rfl rfl) .l
  have c2 := cmpQ (dq_cast d2' rfl rfl) (dq_cast d3 rfl rfl) .l
  have g118 : ∀ (h1 : Heap) (n' : Int64) (fl z : Int32), IC Z h1 a 32 un mu et n' (b2i B) hs sf → 0 ≤ n'.toInt → n'.toInt ≤ nh.toInt + 1 → z = b2i (B ∨ (Hd s f E e ∧ mu.toInt < un.toInt)) → Go l Z ({ frames := 0, cells := 0, slots := 0, locals := 0 } : Room) ((⟨"com/example/orderly_crowd/orderlycrowd/fluid/IntegratorChoice", "heldBack", "(DDZDJ)Z"⟩ : MethodName), prog_19_method_8_code, 12, some .boolean) n0 (fun v h' => v = some (.int 0) ∧ ∃ nh' : Int64, 0 ≤ nh'.toInt ∧ nh'.toInt ≤ nh.toInt + 1 ∧ IC Z h' a 32 un mu et nh' (b2i (B ∨ (Hd s f E e ∧ mu.toInt < un.toInt))) hs sf) h1 0 0 118 #[.val (.ref a), .val (.double st), .second, .val (.double en), .second, .val (.int la), .val (.double fa), .second, .val (.long ef), .second, .val (.int fl), .val (.int (0 : Int32))] [(.int z), (.ref a)] := by
    intro h1 n' fl z H1 b1 b2 hz
    subst hz
    refine Go.putF 121 (hw _ (List.mem_of_getElem? (i := 26) rfl)) H1.2.2.2.2.2.2.1 H1.1 (Or.inl (hw _ (List.mem_of_getElem? (i := 27) rfl))) (hw _ (List.mem_of_getElem? (i := 1) rfl)) (ty := .boolean) (by decide) (narrow_bool (b2i_01 _)) (fits_bool (b2i_01 _)) na d3_118 rfl ?_
    intro h2 W2
    have H2 := H1.put_stiffButTooLarge a0 hw W2
    refine Go.iload 123 d3_121 rfl rfl ?_
    refine Go.ifCT 140 d3_123 (by decide) (by decide) (show (0 : Int) = 0 from by decide) ?_
    refine Go.iload 142 d3_140 rfl rfl ?_
    exact Go.zret d3_142 rfl (Or.inl rfl) (by decide) (by decide) ⟨rfl, n', b1, b2, H2⟩
  have g59 : ∀ (h1 : Heap) (n' : Int64), IC Z h1 a 32 un mu et n' (b2i B) hs sf → 0 ≤ n'.toInt → n'.toInt ≤ nh.toInt + 1 → Go l Z ({ frames := 0, cells := 0, slots := 0, locals := 0 } : Room) ((⟨"com/example/orderly_crowd/orderlycrowd/fluid/IntegratorChoice", "heldBack", "(DDZDJ)Z"⟩ : MethodName), prog_19_method_8_code, 12, some .boolean) n0 (fun v h' => v = some (.int 0) ∧ ∃ nh' : Int64, 0 ≤ nh'.toInt ∧ nh'.toInt ≤ nh.toInt + 1 ∧ IC Z h' a 32 un mu et nh' (b2i (B ∨ (Hd s f E e ∧ mu.toInt < un.toInt))) hs sf) h1 0 0 59 #[.val (.ref a), .val (.double st), .second, .val (.double en), .second, .val (.int la), .val (.double fa), .second, .val (.long ef), .second, .val (.int (b2i (Hd s f E e))), .unset] [] := by
    intro h1 n' H1 b1 b2
    refine Go.aloadN 60 d3_59 rfl rfl rfl ?_
    refine Go.getf 63 (hw _ (List.mem_of_getElem? (i := 24) rfl)) H1.2.2.2.2.2.1 d3_60 rfl ?_
    refine Go.aloadN 64 d3_63 rfl rfl rfl ?_
    refine Go.getf 67 (hw _ (List.mem_of_getElem? (i := 10) rfl)) H1.2.1 d3_64 rfl ?_
    refine Go.lcmp 68 (XT.cmpL n' (32 : Int64)) d3_67 rfl rfl ?_
    refine Go.ifCT 86 d3_68 (by decide) (by decide) (show ((XT.cmpL n' (32 : Int64))).toInt < 0 from by have := cmpL_cases n' 32; have : (32 : Int64).toInt = 32 := (by decide); omega) ?_
    refine Go.iconst 87 (0 : Int32) d3_86 rfl (by decide) ?_
    refine Go.istore 89 #[.val (.ref a), .val (.double st), .second, .val (.double en), .second, .val (.int la), .val (.double fa), .second, .val (.long ef), .second, .val (.int (b2i (Hd s f E e))), .val (.int (0 : Int32))] d3_87 rfl rfl ?_
    refine Go.aloadN 90 d3_89 rfl rfl rfl ?_
    refine Go.aloadN 91 d3_90 rfl rfl rfl ?_
    refine Go.getf 94 (hw _ (List.mem_of_getElem? (i := 26) rfl)) H1.2.2.2.2.2.2.1 d3_91 rfl ?_
    refine Go.ifCB 113 97 d3_94 (by decide) (by decide) rfl (fun (hc : ((b2i B)).toInt ≠ 0) => ?_) (fun (hc : ((b2i B)).toInt = 0) => ?_)
    · have hB : B := by rcases b2i_cases B with q | q; exact q.2.2; omega
      refine Go.iconst 114 (1 : Int32) d3_113 rfl (by decide) ?_
      refine Go.goto 118 d3_114 (by decide) (by decide) ?_
      exact g118 h1 n' _ _ H1 b1 b2 (b2i_t (Or.inl hB))
    · have hB : ¬ B := by rcases b2i_cases B with q | q; omega; exact q.2.2
      refine Go.iload 99 d3_97 rfl rfl ?_
      refine Go.ifCB 117 102 d3_99 (by decide) (by decide) rfl (fun (hc2 : ((b2i (Hd s f E e))).toInt = 0) => ?_) (fun (hc2 : ((b2i (Hd s f E e))).toInt ≠ 0) => ?_)
      · have hH : ¬ Hd s f E e := by rcases b2i_cases (Hd s f E e) with q | q; omega; exact q.2.2
        refine Go.iconst 118 (0 : Int32) d3_117 rfl (by decide) ?_
        exact g118 h1 n' _ _ H1 b1 b2 (b2i_f (fun q => q.elim hB (fun r => hH r.1)))
      · have hH : Hd s f E e := by rcases b2i_cases (Hd s f E e) with q | q; exact q.2.2; omega
        refine Go.aloadN 103 d3_102 rfl rfl rfl ?_
        refine Go.getf 106 (hw _ (List.mem_of_getElem? (i := 12) rfl)) H1.2.2.1 d3_103 rfl ?_
        refine Go.aloadN 107 d3_106 rfl rfl rfl ?_
        refine Go.getf 110 (hw _ (List.mem_of_getElem? (i := 14) rfl)) H1.2.2.2.1 d3_107 rfl ?_
        refine Go.icmpB 117 113 d3_110 (by decide) (by decide) rfl (fun (hc3 : (un).toInt ≤ (mu).toInt) => ?_) (fun (hc3 : (mu).toInt < (un).toInt) => ?_)
        · refine Go.iconst 118 (0 : Int32) d3_117 rfl (by decide) ?_
          exact g118 h1 n' _ _ H1 b1 b2 (b2i_f (fun q => q.elim hB (fun r => absurd r.2 (by omega))))
        · refine Go.iconst 114 (1 : Int32) d3_113 rfl (by decide) ?_
          refine Go.goto 118 d3_114 (by decide) (by decide) ?_
          exact g118 h1 n' _ _ H1 b1 b2 (b2i_t (Or.inr ⟨hH, by omega⟩))
  have g29 : ∀ z : Int32, z = b2i (Hd s f E e) → Go l Z ({ frames := 0, cells := 0, slots := 0, locals := 0 } : Room) ((⟨"com/example/orderly_crowd/orderlycrowd/fluid/IntegratorChoice", "heldBack", "(DDZDJ)Z"⟩ : MethodName), prog_19_method_8_code, 12, some .boolean) n0 (fun v h' => v = some (.int 0) ∧ ∃ nh' : Int64, 0 ≤ nh'.toInt ∧ nh'.toInt ≤ nh.toInt + 1 ∧ IC Z h' a 32 un mu et nh' (b2i (B ∨ (Hd s f E e ∧ mu.toInt < un.toInt))) hs sf) h 0 0 29 #[.val (.ref a), .val (.double st), .second, .val (.double en), .second, .val (.int la), .val (.double fa), .second, .val (.long ef), .second, .unset, .unset] [(.int z)] := by
    intro z hz
    subst hz
    refine Go.istore 31 #[.val (.ref a), .val (.double st), .second, .val (.double en), .second, .val (.int la), .val (.double fa), .second, .val (.long ef), .second, .val (.int (b2i (Hd s f E e))), .unset] d3_29 rfl rfl ?_
    refine Go.iload 33 d3_31 rfl rfl ?_
    refine Go.ifCB 49 36 d3_33 (by decide) (by decide) rfl (fun (hc : ((b2i (Hd s f E e))).toInt = 0) => ?_) (fun (hc : ((b2i (Hd s f E e))).toInt ≠ 0) => ?_)
    · refine Go.iload 51 d3_49 rfl rfl ?_
      refine Go.ifCB 59 54 d3_51 (by decide) (by decide) rfl (fun (hc2 : (la).toInt ≠ 0) => ?_) (fun (hc2 : (la).toInt = 0) => ?_)
      · exact g59 h nh H b0 (by omega)
      · refine Go.aloadN 55 d3_54 rfl rfl rfl ?_
        refine Go.lconst 56 (0 : Int64) d3_55 rfl (by decide) ?_
        refine Go.putF 59 (hw _ (List.mem_of_getElem? (i := 24) rfl)) H.2.2.2.2.2.1 H.1 (Or.inl (hw _ (List.mem_of_getElem? (i := 25) rfl))) (hw _ (List.mem_of_getElem? (i := 1) rfl)) (ty := .long) (by decide) rfl rfl na d3_56 rfl ?_
        intro h1 W1
        exact g59 h1 0 (H.put_heldBackSteps a0 hw W1) (by decide) (by have : (0 : Int64).toInt = 0 := (by decide); omega)
    · refine Go.aloadN 37 d3_36 rfl rfl rfl ?_
      refine Go.dup 38 d3_37 rfl rfl ?_
      refine Go.getf 41 (hw _ (List.mem_of_getElem? (i := 24) rfl)) H.2.2.2.2.2.1 d3_38 rfl ?_
      refine Go.lconst 42 (1 : Int64) d3_41 rfl (by decide) ?_
      refine Go.ladd 43 (nh + (1 : Int64)) d3_42 rfl rfl ?_
      refine Go.putF 46 (hw _ (List.mem_of_getElem? (i := 24) rfl)) H.2.2.2.2.2.1 H.1 (Or.inl (hw _ (List.mem_of_getElem? (i := 25) rfl))) (hw _ (List.mem_of_getElem? (i := 1) rfl)) (ty := .long) (by decide) rfl rfl na d3_43 rfl ?_
      intro h1 W1
      have i1 : (nh + 1).toInt = nh.toInt + 1 := toInt_ladd rfl (show (1 : Int64).toInt = 1 by decide) (by omega) (by omega) rfl
      refine Go.goto 59 d3_46 (by decide) (by decide) ?_
      exact g59 h1 (nh + 1) (H.put_heldBackSteps a0 hw W1) (by omega) (by omega)
  refine Go.dloadN 1 d3_0 rfl rfl ?_
  refine Go.dload 3 d3_1 rfl rfl ?_
  refine Go.dmul 4 p d3_3 rfl q1.1 q1.2 ?_
  refine Go.dconst1 5 (4607182418800017408 : UInt64) d3_4 rfl rfl ?_
  refine Go.dcmp 6 (sg (s * f) (1 * 2 ^ 6)) d3_5 rfl c1 ?_
  refine Go.ifCB 28 9 d3_6 (by decide) (by decide) rfl (fun (hc : ((sg (s * f) (1 * 2 ^ 6))).toInt < 0) => ?_) (fun (hc : 0 ≤ ((sg (s * f) (1 * 2 ^ 6))).toInt) => ?_)
  · refine Go.iconst 29 (0 : Int32) d3_28 rfl (by decide) ?_
    exact g29 _ (b2i_f (fun q => by have := sg_cases (s * f) (1 * 2 ^ 6); have := q.1; omega))
  · refine Go.aloadN 10 d3_9 rfl rfl rfl ?_
    refine Go.getf 13 (hw _ (List.mem_of_getElem? (i := 16) rfl)) H.2.2.2.2.1 d3_10 rfl ?_
    refine Go.dloadN 14 d3_13 rfl rfl ?_
    refine Go.dsub 15 d d3_14 rfl q2.1 q2.2 ?_
    refine Go.ldc2D 18 4652007308841189376 (hw _ (List.mem_of_getElem? (i := 52) rfl)) d3_15 rfl ?_
    refine Go.dloadN 19 d3_18 rfl rfl ?_
    refine Go.dmul 20 t d3_19 rfl q3.1 q3.2 ?_
    refine Go.dcmp 21 (sg ((E - e) * 2 ^ 3) (1000 * s)) d3_20 rfl c2 ?_
    refine Go.ifCB 28 24 d3_21 (by decide) (by decide) rfl (fun (hc2 : ((sg ((E - e) * 2 ^ 3) (1000 * s))).toInt ≤ 0) => ?_) (fun (hc2 : 0 < ((sg ((E - e) * 2 ^ 3) (1000 * s))).toInt) => ?_)
    · refine Go.iconst 29 (0 : Int32) d3_28 rfl (by decide) ?_
      exact g29 _ (b2i_f (fun q => by have := sg_cases ((E - e) * 2 ^ 3) (1000 * s); have := q.2; omega))
    · refine Go.iconst 25 (1 : Int32) d3_24 rfl (by decide) ?_
      refine Go.goto 29 d3_25 (by decide) (by decide) ?_
      exact g29 _ (b2i_t ⟨by have := sg_cases (s * f) (1 * 2 ^ 6); omega, by have := sg_cases ((E - e) * 2 ^ 3) (1000 * s); omega⟩)
set_option maxRecDepth 65536 in
set_option maxHeartbeats 40000000 in
theorem stiffButTooLarge_go (l : Launch) (Z : State) (a0 : Array Value) (hw : ∀ d ∈ tables_1, d.before a0 Z = true) {n0 : Nat} {h : Heap} {a : Nat} {pt : Int64} {un : Int32} {mu : Int32} {et : UInt64} {nh : Int64} {sb : Int32} {hs : UInt64} {sf : Int32} (H : IC Z h a pt un mu et nh sb hs sf) (hz : sb = 0 ∨ sb = 1) :
    Go l Z ({ frames := 0, cells := 0, slots := 0, locals := 0 } : Room) ((⟨"com/example/orderly_crowd/orderlycrowd/fluid/IntegratorChoice", "stiffButTooLarge", "()Z"⟩ : MethodName), prog_19_method_7_code, 1, some .boolean) n0 (fun v h' => v = some (.int sb) ∧ h' = h) h 0 0 0 #[.val (.ref a)] [] := by
  refine Go.aloadN 1 d4_0 rfl rfl rfl ?_
  refine Go.getf 4 (hw _ (List.mem_of_getElem? (i := 26) rfl)) H.2.2.2.2.2.2.1 d4_1 rfl ?_
  exact Go.zret d4_4 rfl hz (by decide) (by decide) ⟨rfl, rfl⟩
set_option maxRecDepth 65536 in
set_option maxHeartbeats 40000000 in
theorem heldBackStep_go (l : Launch) (Z : State) (a0 : Array Value) (hw : ∀ d ∈ tables_1, d.before a0 Z = true) {n0 : Nat} {h : Heap} {a : Nat} {pt : Int64} {un : Int32} {mu : Int32} {et : UInt64} {nh : Int64} {sb : Int32} {hs : UInt64} {sf : Int32} (H : IC Z h a pt un mu et nh sb hs sf) :
    Go l Z ({ frames := 0, cells := 0, slots := 0, locals := 0 } : Room) ((⟨"com/example/orderly_crowd/orderlycrowd/fluid/IntegratorChoice", "heldBackStep", "()D"⟩ : MethodName), prog_19_method_5_code, 1, some .double) n0 (fun v h' => v = some (.double hs) ∧ h' = h) h 0 0 0 #[.val (.ref a)] [] := by
  refine Go.aloadN 1 d6_0 rfl rfl rfl ?_
  refine Go.getf 4 (hw _ (List.mem_of_getElem? (i := 43) rfl)) H.2.2.2.2.2.2.2.1 d6_1 rfl ?_
  exact Go.dret d6_4 rfl (by decide) (by decide) ⟨rfl, rfl⟩
set_option maxRecDepth 65536 in
set_option maxHeartbeats 40000000 in
theorem stiff_go (l : Launch) (Z : State) (a0 : Array Value) (hw : ∀ d ∈ tables_1, d.before a0 Z = true) {n0 : Nat} {h : Heap} {a : Nat} {pt : Int64} {un : Int32} {mu : Int32} {et : UInt64} {nh : Int64} {sb : Int32} {hs : UInt64} {sf : Int32} (H : IC Z h a pt un mu et nh sb hs sf) (hz : sf = 0 ∨ sf = 1) :
    Go l Z ({ frames := 0, cells := 0, slots := 0, locals := 0 } : Room) ((⟨"com/example/orderly_crowd/orderlycrowd/fluid/IntegratorChoice", "stiff", "()Z"⟩ : MethodName), prog_19_method_4_code, 1, some .boolean) n0 (fun v h' => v = some (.int sf) ∧ h' = h) h 0 0 0 #[.val (.ref a)] [] := by
  refine Go.aloadN 1 d7_0 rfl rfl rfl ?_
  refine Go.getf 4 (hw _ (List.mem_of_getElem? (i := 50) rfl)) H.2.2.2.2.2.2.2.2 d7_1 rfl ?_
  exact Go.zret d7_4 rfl hz (by decide) (by decide) ⟨rfl, rfl⟩
set_option maxRecDepth 65536 in
set_option maxHeartbeats 40000000 in
theorem held_go (l : Launch) (Z : State) (a0 : Array Value) (hw : ∀ d ∈ tables_1, d.before a0 Z = true) {n0 : Nat} {h : Heap} (s f t e : Int32) :
    Go l Z ({ frames := 0, cells := 0, slots := 0, locals := 0 } : Room) ((⟨"com/example/orderly_crowd/orderlycrowd/fluid/IntegratorChoiceHeldBackPinLaw", "held", "(IIII)Z"⟩ : MethodName), method_2_code, 4, some .boolean) n0 (fun v h' => v = some (.int (b2i (Hd s.toInt f.toInt t.toInt e.toInt))) ∧ h' = h) h 0 0 0 #[.val (.int s), .val (.int f), .val (.int t), .val (.int e)] [] := by
  have bs := b32 s
  have bf := b32 f
  have bt := b32 t
  have be := b32 e
  have i1 : (s.toInt64 * f.toInt64).toInt = s.toInt * f.toInt := XT.wideMul s f
  have i2 : (t.toInt64 - e.toInt64).toInt = t.toInt - e.toInt := toInt_lsub (Int32.toInt_toInt64 _) (Int32.toInt_toInt64 _) (by omega) (by omega) rfl
  have i3 : ((125 : Int64) * s.toInt64).toInt = 125 * s.toInt := toInt_lmul (show (125 : Int64).toInt = 125 by decide) (Int32.toInt_toInt64 _) (by omega) (by omega) rfl
  have i4 : (64 : Int64).toInt = 64 := by decide
  have k1 := cmpL_cases (s.toInt64 * f.toInt64) 64
  have k2 := cmpL_cases (t.toInt64 - e.toInt64) ((125 : Int64) * s.toInt64)
  have g32 : ∀ z : Int32, z = b2i (Hd s.toInt f.toInt t.toInt e.toInt) → Go l Z ({ frames := 0, cells := 0, slots := 0, locals := 0 } : Room) ((⟨"com/example/orderly_crowd/orderlycrowd/fluid/IntegratorChoiceHeldBackPinLaw", "held", "(IIII)Z"⟩ : MethodName), method_2_code, 4, some .boolean) n0 (fun v h' => v = some (.int (b2i (Hd s.toInt f.toInt t.toInt e.toInt))) ∧ h' = h) h 0 0 32 #[.val (.int s), .val (.int f), .val (.int t), .val (.int e)] [.int z] := by
    intro z hz
    subst hz
    exact Go.zret d5_32 rfl (b2i_01 _) (by decide) (by decide) ⟨rfl, rfl⟩
  refine Go.iloadN 1 d5_0 rfl rfl ?_
  refine Go.i2l 2 s.toInt64 d5_1 rfl rfl ?_
  refine Go.iloadN 3 d5_2 rfl rfl ?_
  refine Go.i2l 4 f.toInt64 d5_3 rfl rfl ?_
  refine Go.lmul 5 (s.toInt64 * f.toInt64) d5_4 rfl rfl ?_
  refine Go.ldc2J 8 64 (hw _ (List.mem_of_getElem? (i := 37) rfl)) d5_5 rfl ?_
  refine Go.lcmp 9 (XT.cmpL (s.toInt64 * f.toInt64) 64) d5_8 rfl rfl ?_
  refine Go.ifCB 31 12 d5_9 (by decide) (by decide) rfl (fun (hc : ((XT.cmpL (s.toInt64 * f.toInt64) 64)).toInt < 0) => ?_) (fun (hc : 0 ≤ ((XT.cmpL (s.toInt64 * f.toInt64) 64)).toInt) => ?_)
  · refine Go.iconst 32 (0 : Int32) d5_31 rfl (by decide) ?_
    exact g32 _ (b2i_f (fun q => by have := q.1; omega))
  · refine Go.iloadN 13 d5_12 rfl rfl ?_
    refine Go.i2l 14 t.toInt64 d5_13 rfl rfl ?_
    refine Go.iloadN 15 d5_14 rfl rfl ?_
    refine Go.i2l 16 e.toInt64 d5_15 rfl rfl ?_
    refine Go.lsub 17 (t.toInt64 - e.toInt64) d5_16 rfl rfl ?_
    refine Go.ldc2J 20 125 (hw _ (List.mem_of_getElem? (i := 53) rfl)) d5_17 rfl ?_
    refine Go.iloadN 21 d5_20 rfl rfl ?_
    refine Go.i2l 22 s.toInt64 d5_21 rfl rfl ?_
    refine Go.lmul 23 ((125 : Int64) * s.toInt64) d5_22 rfl rfl ?_
    refine Go.lcmp 24 (XT.cmpL (t.toInt64 - e.toInt64) ((125 : Int64) * s.toInt64)) d5_23 rfl rfl ?_
    refine Go.ifCB 31 27 d5_24 (by decide) (by decide) rfl (fun (hc2 : ((XT.cmpL (t.toInt64 - e.toInt64) ((125 : Int64) * s.toInt64))).toInt ≤ 0) => ?_) (fun (hc2 : 0 < ((XT.cmpL (t.toInt64 - e.toInt64) ((125 : Int64) * s.toInt64))).toInt) => ?_)
    · refine Go.iconst 32 (0 : Int32) d5_31 rfl (by decide) ?_
      exact g32 _ (b2i_f (fun q => by have := q.2; omega))
    · refine Go.iconst 28 (1 : Int32) d5_27 rfl (by decide) ?_
      refine Go.goto 32 d5_28 (by decide) (by decide) ?_
      exact g32 _ (b2i_t ⟨by omega, by omega⟩)
set_option maxRecDepth 65536 in
set_option maxHeartbeats 40000000 in
theorem tail_000 (l : Launch) (Z : State) (a0 : Array Value) (hw : ∀ d ∈ tables_1, d.before a0 Z = true) {um ends steps fast eff : Int64} {endT u m e1 e2 s1 s2 l1 l2 f1 f2 : Int32} {o : Nat} {et : UInt64} {nh : Int64} {sb : Int32} {h : Heap} {n0 : Nat} (H : IC Z h o 32 u m et nh sb 0 0) (h1 : ¬ Hd s1.toInt f1.toInt endT.toInt e1.toInt) (h2 : ¬ Hd s2.toInt f2.toInt endT.toInt e2.toInt) (ht : u.toInt ≤ m.toInt) :
    Go l Z room_1 (x, code, maxLocals, ret) n0 Q1 h 1 12 173 #[.val (.long um), .second, .val (.int endT), .val (.long ends), .second, .val (.long steps), .second, .val (.long fast), .second, .val (.long eff), .second, .val (.int u), .val (.int m), .val (.int e1), .val (.int e2), .val (.int s1), .val (.int s2), .val (.int l1), .val (.int l2), .val (.int f1), .val (.int f2), .val (.ref o), .val (.int (0 : Int32)), .val (.int (0 : Int32)), .val (.int (0 : Int32)), .val (.int (0 : Int32)), .unset, .unset, .unset] [] := by
  have hh1 : b2i (Hd s1.toInt f1.toInt endT.toInt e1.toInt) = 0 := if_neg h1
  have hh2 : b2i (Hd s2.toInt f2.toInt endT.toInt e2.toInt) = 0 := if_neg h2
  refine Go.iload 175 at_173 rfl rfl ?_
  refine Go.iload 177 at_175 rfl rfl ?_
  refine Go.icmpT 184 at_177 (by decide) (by decide) (show (u).toInt ≤ (m).toInt from by omega) ?_
  refine Go.iconst 185 (0 : Int32) at_184 rfl (by decide) ?_
  refine Go.istore 187 #[.val (.long um), .second, .val (.int endT), .val (.long ends), .second, .val (.long steps), .second, .val (.long fast), .second, .val (.long eff), .second, .val (.int u), .val (.int m), .val (.int e1), .val (.int e2), .val (.int s1), .val (.int s2), .val (.int l1), .val (.int l2), .val (.int f1), .val (.int f2), .val (.ref o), .val (.int (0 : Int32)), .val (.int (0 : Int32)), .val (.int (0 : Int32)), .val (.int (0 : Int32)), .val (.int (0 : Int32)), .unset, .unset] at_185 rfl rfl ?_
  refine Go.iload 189 at_187 rfl rfl ?_
  refine Go.iload 191 at_189 rfl rfl ?_
  refine Go.iloadN 192 at_191 rfl rfl ?_
  refine Go.iload 194 at_192 rfl rfl ?_
  refine Go.callS 197 [(.int s1), (.int f1), (.int endT), (.int e1)] [] (hw _ (List.mem_of_getElem? (i := 33) rfl)) (hw _ (List.mem_of_getElem? (i := 34) rfl)) (hw _ (List.mem_of_getElem? (i := 36) rfl)) (hw _ (List.mem_of_getElem? (i := 35) rfl)) (by decide) pn_1 pd_2 rfl (ef_5_IIII s1 f1 endT e1) (held_go l Z a0 hw s1 f1 endT e1) rfl rfl (by decide) (leB rfl) (by decide) (by decide) at_194 rfl ?_
  rintro _ _ ⟨rfl, rfl⟩
  rw [hh1]
  refine Go.ifCT 209 at_197 (by decide) (by decide) (show (0 : Int) = 0 from by decide) ?_
  refine Go.iconst 210 (0 : Int32) at_209 rfl (by decide) ?_
  refine Go.istore 212 #[.val (.long um), .second, .val (.int endT), .val (.long ends), .second, .val (.long steps), .second, .val (.long fast), .second, .val (.long eff), .second, .val (.int u), .val (.int m), .val (.int e1), .val (.int e2), .val (.int s1), .val (.int s2), .val (.int l1), .val (.int l2), .val (.int f1), .val (.int f2), .val (.ref o), .val (.int (0 : Int32)), .val (.int (0 : Int32)), .val (.int (0 : Int32)), .val (.int (0 : Int32)), .val (.int (0 : Int32)), .val (.int (0 : Int32)), .unset] at_210 rfl rfl ?_
  refine Go.iload 214 at_212 rfl rfl ?_
  refine Go.ifCF 217 at_214 rfl (show (0 : Int) = 0 from by decide) ?_
  refine Go.iload 219 at_217 rfl rfl ?_
  refine Go.iload 221 at_219 rfl rfl ?_
  refine Go.iloadN 222 at_221 rfl rfl ?_
  refine Go.iload 224 at_222 rfl rfl ?_
  refine Go.callS 227 [(.int s2), (.int f2), (.int endT), (.int e2)] [] (hw _ (List.mem_of_getElem? (i := 33) rfl)) (hw _ (List.mem_of_getElem? (i := 34) rfl)) (hw _ (List.mem_of_getElem? (i := 36) rfl)) (hw _ (List.mem_of_getElem? (i := 35) rfl)) (by decide) pn_1 pd_2 rfl (ef_5_IIII s2 f2 endT e2) (held_go l Z a0 hw s2 f2 endT e2) rfl rfl (by decide) (leB rfl) (by decide) (by decide) at_224 rfl ?_
  rintro _ _ ⟨rfl, rfl⟩
  rw [hh2]
  refine Go.ifCT 239 at_227 (by decide) (by decide) (show (0 : Int) = 0 from by decide) ?_
  refine Go.iconst 240 (0 : Int32) at_239 rfl (by decide) ?_
  refine Go.istore 242 #[.val (.long um), .second, .val (.int endT), .val (.long ends), .second, .val (.long steps), .second, .val (.long fast), .second, .val (.long eff), .second, .val (.int u), .val (.int m), .val (.int e1), .val (.int e2), .val (.int s1), .val (.int s2), .val (.int l1), .val (.int l2), .val (.int f1), .val (.int f2), .val (.ref o), .val (.int (0 : Int32)), .val (.int (0 : Int32)), .val (.int (0 : Int32)), .val (.int (0 : Int32)), .val (.int (0 : Int32)), .val (.int (0 : Int32)), .val (.int (0 : Int32))] at_240 rfl rfl ?_
  refine Go.iload 244 at_242 rfl rfl ?_
  refine Go.ifCF 247 at_244 rfl (show (0 : Int) = 0 from by decide) ?_
  refine Go.iload 249 at_247 rfl rfl ?_
  refine Go.ifCF 252 at_249 rfl (show (0 : Int) = 0 from by decide) ?_
  refine Go.iload 254 at_252 rfl rfl ?_
  refine Go.iload 256 at_254 rfl rfl ?_
  refine Go.icmpF 259 at_256 rfl (show (0 : Int) = (0 : Int) from by decide) ?_
  refine Go.iload 261 at_259 rfl rfl ?_
  refine Go.iload 263 at_261 rfl rfl ?_
  refine Go.icmpF 266 at_263 rfl (show (0 : Int) = (0 : Int) from by decide) ?_
  refine Go.aload 268 at_266 rfl rfl rfl ?_
  refine Go.callV 271 [] [] (hw _ (List.mem_of_getElem? (i := 38) rfl)) (hw _ (List.mem_of_getElem? (i := 39) rfl)) (hw _ (List.mem_of_getElem? (i := 41) rfl)) (hw _ (List.mem_of_getElem? (i := 40) rfl)) (hw _ (List.mem_of_getElem? (i := 42) rfl)) (hw _ (List.mem_of_getElem? (i := 2) rfl)) (by decide) pn_4 pd_5 rfl H.1 (ef_6_A o) (heldBackStep_go l Z a0 hw H) rfl rfl (by decide) (leB rfl) (by decide) (by decide) at_268 rfl ?_
  rintro _ _ ⟨rfl, rfl⟩
  refine Go.dconst0 272 (0 : UInt64) at_271 rfl rfl ?_
  refine Go.dcmp 273 (sg 0 0) at_272 rfl (cmpI dint_zero dint_zero _) ?_
  refine Go.ifCF 276 at_273 rfl (sg_self rfl) ?_
  refine Go.aload 278 at_276 rfl rfl rfl ?_
  refine Go.callV 281 [] [] (hw _ (List.mem_of_getElem? (i := 45) rfl)) (hw _ (List.mem_of_getElem? (i := 46) rfl)) (hw _ (List.mem_of_getElem? (i := 48) rfl)) (hw _ (List.mem_of_getElem? (i := 47) rfl)) (hw _ (List.mem_of_getElem? (i := 49) rfl)) (hw _ (List.mem_of_getElem? (i := 2) rfl)) (by decide) pn_4 pd_7 rfl H.1 (ef_7_A o) (stiff_go l Z a0 hw H (Or.inl rfl)) rfl rfl (by decide) (leB rfl) (by decide) (by decide) at_278 rfl ?_
  rintro _ _ ⟨rfl, rfl⟩
  refine Go.ifCF 284 at_281 rfl (show (0 : Int) = 0 from by decide) ?_
  refine Go.iconst 285 (1 : Int32) at_284 rfl (by decide) ?_
  refine Go.goto 289 at_285 (by decide) (by decide) ?_
  exact Go.zret at_289 rfl (Or.inr rfl) (by decide) (by decide) rfl
set_option maxRecDepth 65536 in
set_option maxHeartbeats 40000000 in
theorem tail_001 (l : Launch) (Z : State) (a0 : Array Value) (hw : ∀ d ∈ tables_1, d.before a0 Z = true) {um ends steps fast eff : Int64} {endT u m e1 e2 s1 s2 l1 l2 f1 f2 : Int32} {o : Nat} {et : UInt64} {nh : Int64} {sb : Int32} {h : Heap} {n0 : Nat} (H : IC Z h o 32 u m et nh sb 0 0) (h1 : ¬ Hd s1.toInt f1.toInt endT.toInt e1.toInt) (h2 : ¬ Hd s2.toInt f2.toInt endT.toInt e2.toInt) (ht : m.toInt < u.toInt) :
    Go l Z room_1 (x, code, maxLocals, ret) n0 Q1 h 1 12 173 #[.val (.long um), .second, .val (.int endT), .val (.long ends), .second, .val (.long steps), .second, .val (.long fast), .second, .val (.long eff), .second, .val (.int u), .val (.int m), .val (.int e1), .val (.int e2), .val (.int s1), .val (.int s2), .val (.int l1), .val (.int l2), .val (.int f1), .val (.int f2), .val (.ref o), .val (.int (0 : Int32)), .val (.int (0 : Int32)), .val (.int (0 : Int32)), .val (.int (0 : Int32)), .unset, .unset, .unset] [] := by
  have hh1 : b2i (Hd s1.toInt f1.toInt endT.toInt e1.toInt) = 0 := if_neg h1
  have hh2 : b2i (Hd s2.toInt f2.toInt endT.toInt e2.toInt) = 0 := if_neg h2
  refine Go.iload 175 at_173 rfl rfl ?_
  refine Go.iload 177 at_175 rfl rfl ?_
  refine Go.icmpF 180 at_177 rfl (show (m).toInt < (u).toInt from by omega) ?_
  refine Go.iconst 181 (1 : Int32) at_180 rfl (by decide) ?_
  refine Go.goto 185 at_181 (by decide) (by decide) ?_
  refine Go.istore 187 #[.val (.long um), .second, .val (.int endT), .val (.long ends), .second, .val (.long steps), .second, .val (.long fast), .second, .val (.long eff), .second, .val (.int u), .val (.int m), .val (.int e1), .val (.int e2), .val (.int s1), .val (.int s2), .val (.int l1), .val (.int l2), .val (.int f1), .val (.int f2), .val (.ref o), .val (.int (0 : Int32)), .val (.int (0 : Int32)), .val (.int (0 : Int32)), .val (.int (0 : Int32)), .val (.int (1 : Int32)), .unset, .unset] at_185 rfl rfl ?_
  refine Go.iload 189 at_187 rfl rfl ?_
  refine Go.iload 191 at_189 rfl rfl ?_
  refine Go.iloadN 192 at_191 rfl rfl ?_
  refine Go.iload 194 at_192 rfl rfl ?_
  refine Go.callS 197 [(.int s1), (.int f1), (.int endT), (.int e1)] [] (hw _ (List.mem_of_getElem? (i := 33) rfl)) (hw _ (List.mem_of_getElem? (i := 34) rfl)) (hw _ (List.mem_of_getElem? (i := 36) rfl)) (hw _ (List.mem_of_getElem? (i := 35) rfl)) (by decide) pn_1 pd_2 rfl (ef_5_IIII s1 f1 endT e1) (held_go l Z a0 hw s1 f1 endT e1) rfl rfl (by decide) (leB rfl) (by decide) (by decide) at_194 rfl ?_
  rintro _ _ ⟨rfl, rfl⟩
  rw [hh1]
  refine Go.ifCT 209 at_197 (by decide) (by decide) (show (0 : Int) = 0 from by decide) ?_
  refine Go.iconst 210 (0 : Int32) at_209 rfl (by decide) ?_
  refine Go.istore 212 #[.val (.long um), .second, .val (.int endT), .val (.long ends), .second, .val (.long steps), .second, .val (.long fast), .second, .val (.long eff), .second, .val (.int u), .val (.int m), .val (.int e1), .val (.int e2), .val (.int s1), .val (.int s2), .val (.int l1), .val (.int l2), .val (.int f1), .val (.int f2), .val (.ref o), .val (.int (0 : Int32)), .val (.int (0 : Int32)), .val (.int (0 : Int32)), .val (.int (0 : Int32)), .val (.int (1 : Int32)), .val (.int (0 : Int32)), .unset] at_210 rfl rfl ?_
  refine Go.iload 214 at_212 rfl rfl ?_
  refine Go.ifCF 217 at_214 rfl (show (0 : Int) = 0 from by decide) ?_
  refine Go.iload 219 at_217 rfl rfl ?_
  refine Go.iload 221 at_219 rfl rfl ?_
  refine Go.iloadN 222 at_221 rfl rfl ?_
  refine Go.iload 224 at_222 rfl rfl ?_
  refine Go.callS 227 [(.int s2), (.int f2), (.int endT), (.int e2)] [] (hw _ (List.mem_of_getElem? (i := 33) rfl)) (hw _ (List.mem_of_getElem? (i := 34) rfl)) (hw _ (List.mem_of_getElem? (i := 36) rfl)) (hw _ (List.mem_of_getElem? (i := 35) rfl)) (by decide) pn_1 pd_2 rfl (ef_5_IIII s2 f2 endT e2) (held_go l Z a0 hw s2 f2 endT e2) rfl rfl (by decide) (leB rfl) (by decide) (by decide) at_224 rfl ?_
  rintro _ _ ⟨rfl, rfl⟩
  rw [hh2]
  refine Go.ifCT 239 at_227 (by decide) (by decide) (show (0 : Int) = 0 from by decide) ?_
  refine Go.iconst 240 (0 : Int32) at_239 rfl (by decide) ?_
  refine Go.istore 242 #[.val (.long um), .second, .val (.int endT), .val (.long ends), .second, .val (.long steps), .second, .val (.long fast), .second, .val (.long eff), .second, .val (.int u), .val (.int m), .val (.int e1), .val (.int e2), .val (.int s1), .val (.int s2), .val (.int l1), .val (.int l2), .val (.int f1), .val (.int f2), .val (.ref o), .val (.int (0 : Int32)), .val (.int (0 : Int32)), .val (.int (0 : Int32)), .val (.int (0 : Int32)), .val (.int (1 : Int32)), .val (.int (0 : Int32)), .val (.int (0 : Int32))] at_240 rfl rfl ?_
  refine Go.iload 244 at_242 rfl rfl ?_
  refine Go.ifCF 247 at_244 rfl (show (0 : Int) = 0 from by decide) ?_
  refine Go.iload 249 at_247 rfl rfl ?_
  refine Go.ifCF 252 at_249 rfl (show (0 : Int) = 0 from by decide) ?_
  refine Go.iload 254 at_252 rfl rfl ?_
  refine Go.iload 256 at_254 rfl rfl ?_
  refine Go.icmpF 259 at_256 rfl (show (0 : Int) = (0 : Int) from by decide) ?_
  refine Go.iload 261 at_259 rfl rfl ?_
  refine Go.iload 263 at_261 rfl rfl ?_
  refine Go.icmpF 266 at_263 rfl (show (0 : Int) = (0 : Int) from by decide) ?_
  refine Go.aload 268 at_266 rfl rfl rfl ?_
  refine Go.callV 271 [] [] (hw _ (List.mem_of_getElem? (i := 38) rfl)) (hw _ (List.mem_of_getElem? (i := 39) rfl)) (hw _ (List.mem_of_getElem? (i := 41) rfl)) (hw _ (List.mem_of_getElem? (i := 40) rfl)) (hw _ (List.mem_of_getElem? (i := 42) rfl)) (hw _ (List.mem_of_getElem? (i := 2) rfl)) (by decide) pn_4 pd_5 rfl H.1 (ef_6_A o) (heldBackStep_go l Z a0 hw H) rfl rfl (by decide) (leB rfl) (by decide) (by decide) at_268 rfl ?_
  rintro _ _ ⟨rfl, rfl⟩
  refine Go.dconst0 272 (0 : UInt64) at_271 rfl rfl ?_
  refine Go.dcmp 273 (sg 0 0) at_272 rfl (cmpI dint_zero dint_zero _) ?_
  refine Go.ifCF 276 at_273 rfl (sg_self rfl) ?_
  refine Go.aload 278 at_276 rfl rfl rfl ?_
  refine Go.callV 281 [] [] (hw _ (List.mem_of_getElem? (i := 45) rfl)) (hw _ (List.mem_of_getElem? (i := 46) rfl)) (hw _ (List.mem_of_getElem? (i := 48) rfl)) (hw _ (List.mem_of_getElem? (i := 47) rfl)) (hw _ (List.mem_of_getElem? (i := 49) rfl)) (hw _ (List.mem_of_getElem? (i := 2) rfl)) (by decide) pn_4 pd_7 rfl H.1 (ef_7_A o) (stiff_go l Z a0 hw H (Or.inl rfl)) rfl rfl (by decide) (leB rfl) (by decide) (by decide) at_278 rfl ?_
  rintro _ _ ⟨rfl, rfl⟩
  refine Go.ifCF 284 at_281 rfl (show (0 : Int) = 0 from by decide) ?_
  refine Go.iconst 285 (1 : Int32) at_284 rfl (by decide) ?_
  refine Go.goto 289 at_285 (by decide) (by decide) ?_
  exact Go.zret at_289 rfl (Or.inr rfl) (by decide) (by decide) rfl
set_option maxRecDepth 65536 in
set_option maxHeartbeats 40000000 in
theorem tail_010 (l : Launch) (Z : State) (a0 : Array Value) (hw : ∀ d ∈ tables_1, d.before a0 Z = true) {um ends steps fast eff : Int64} {endT u m e1 e2 s1 s2 l1 l2 f1 f2 : Int32} {o : Nat} {et : UInt64} {nh : Int64} {sb : Int32} {h : Heap} {n0 : Nat} (H : IC Z h o 32 u m et nh sb 0 0) (h1 : ¬ Hd s1.toInt f1.toInt endT.toInt e1.toInt) (h2 : Hd s2.toInt f2.toInt endT.toInt e2.toInt) (ht : u.toInt ≤ m.toInt) :
    Go l Z room_1 (x, code, maxLocals, ret) n0 Q1 h 1 12 173 #[.val (.long um), .second, .val (.int endT), .val (.long ends), .second, .val (.long steps), .second, .val (.long fast), .second, .val (.long eff), .second, .val (.int u), .val (.int m), .val (.int e1), .val (.int e2), .val (.int s1), .val (.int s2), .val (.int l1), .val (.int l2), .val (.int f1), .val (.int f2), .val (.ref o), .val (.int (0 : Int32)), .val (.int (0 : Int32)), .val (.int (0 : Int32)), .val (.int (0 : Int32)), .unset, .unset, .unset] [] := by
  have hh1 : b2i (Hd s1.toInt f1.toInt endT.toInt e1.toInt) = 0 := if_neg h1
  have hh2 : b2i (Hd s2.toInt f2.toInt endT.toInt e2.toInt) = 1 := if_pos h2
  refine Go.iload 175 at_173 rfl rfl ?_
  refine Go.iload 177 at_175 rfl rfl ?_
  refine Go.icmpT 184 at_177 (by decide) (by decide) (show (u).toInt ≤ (m).toInt from by omega) ?_
  refine Go.iconst 185 (0 : Int32) at_184 rfl (by decide) ?_
  refine Go.istore 187 #[.val (.long um), .second, .val (.int endT), .val (.long ends), .second, .val (.long steps), .second, .val (.long fast), .second, .val (.long eff), .second, .val (.int u), .val (.int m), .val (.int e1), .val (.int e2), .val (.int s1), .val (.int s2), .val (.int l1), .val (.int l2), .val (.int f1), .val (.int f2), .val (.ref o), .val (.int (0 : Int32)), .val (.int (0 : Int32)), .val (.int (0 : Int32)), .val (.int (0 : Int32)), .val (.int (0 : Int32)), .unset, .unset] at_185 rfl rfl ?_
  refine Go.iload 189 at_187 rfl rfl ?_
  refine Go.iload 191 at_189 rfl rfl ?_
  refine Go.iloadN 192 at_191 rfl rfl ?_
  refine Go.iload 194 at_192 rfl rfl ?_
  refine Go.callS 197 [(.int s1), (.int f1), (.int endT), (.int e1)] [] (hw _ (List.mem_of_getElem? (i := 33) rfl)) (hw _ (List.mem_of_getElem? (i := 34) rfl)) (hw _ (List.mem_of_getElem? (i := 36) rfl)) (hw _ (List.mem_of_getElem? (i := 35) rfl)) (by decide) pn_1 pd_2 rfl (ef_5_IIII s1 f1 endT e1) (held_go l Z a0 hw s1 f1 endT e1) rfl rfl (by decide) (leB rfl) (by decide) (by decide) at_194 rfl ?_
  rintro _ _ ⟨rfl, rfl⟩
  rw [hh1]
  refine Go.ifCT 209 at_197 (by decide) (by decide) (show (0 : Int) = 0 from by decide) ?_
  refine Go.iconst 210 (0 : Int32) at_209 rfl (by decide) ?_
  refine Go.istore 212 #[.val (.long um), .second, .val (.int endT), .val (.long ends), .second, .val (.long steps), .second, .val (.long fast), .second, .val (.long eff), .second, .val (.int u), .val (.int m), .val (.int e1), .val (.int e2), .val (.int s1), .val (.int s2), .val (.int l1), .val (.int l2), .val (.int f1), .val (.int f2), .val (.ref o), .val (.int (0 : Int32)), .val (.int (0 : Int32)), .val (.int (0 : Int32)), .val (.int (0 : Int32)), .val (.int (0 : Int32)), .val (.int (0 : Int32)), .unset] at_210 rfl rfl ?_
  refine Go.iload 214 at_212 rfl rfl ?_
  refine Go.ifCF 217 at_214 rfl (show (0 : Int) = 0 from by decide) ?_
  refine Go.iload 219 at_217 rfl rfl ?_
  refine Go.iload 221 at_219 rfl rfl ?_
  refine Go.iloadN 222 at_221 rfl rfl ?_
  refine Go.iload 224 at_222 rfl rfl ?_
  refine Go.callS 227 [(.int s2), (.int f2), (.int endT), (.int e2)] [] (hw _ (List.mem_of_getElem? (i := 33) rfl)) (hw _ (List.mem_of_getElem? (i := 34) rfl)) (hw _ (List.mem_of_getElem? (i := 36) rfl)) (hw _ (List.mem_of_getElem? (i := 35) rfl)) (by decide) pn_1 pd_2 rfl (ef_5_IIII s2 f2 endT e2) (held_go l Z a0 hw s2 f2 endT e2) rfl rfl (by decide) (leB rfl) (by decide) (by decide) at_224 rfl ?_
  rintro _ _ ⟨rfl, rfl⟩
  rw [hh2]
  refine Go.ifCF 230 at_227 rfl (show (1 : Int) ≠ 0 from by decide) ?_
  refine Go.iload 232 at_230 rfl rfl ?_
  refine Go.ifCT 239 at_232 (by decide) (by decide) (show (0 : Int) = 0 from by decide) ?_
  refine Go.iconst 240 (0 : Int32) at_239 rfl (by decide) ?_
  refine Go.istore 242 #[.val (.long um), .second, .val (.int endT), .val (.long ends), .second, .val (.long steps), .second, .val (.long fast), .second, .val (.long eff), .second, .val (.int u), .val (.int m), .val (.int e1), .val (.int e2), .val (.int s1), .val (.int s2), .val (.int l1), .val (.int l2), .val (.int f1), .val (.int f2), .val (.ref o), .val (.int (0 : Int32)), .val (.int (0 : Int32)), .val (.int (0 : Int32)), .val (.int (0 : Int32)), .val (.int (0 : Int32)), .val (.int (0 : Int32)), .val (.int (0 : Int32))] at_240 rfl rfl ?_
  refine Go.iload 244 at_242 rfl rfl ?_
  refine Go.ifCF 247 at_244 rfl (show (0 : Int) = 0 from by decide) ?_
  refine Go.iload 249 at_247 rfl rfl ?_
  refine Go.ifCF 252 at_249 rfl (show (0 : Int) = 0 from by decide) ?_
  refine Go.iload 254 at_252 rfl rfl ?_
  refine Go.iload 256 at_254 rfl rfl ?_
  refine Go.icmpF 259 at_256 rfl (show (0 : Int) = (0 : Int) from by decide) ?_
  refine Go.iload 261 at_259 rfl rfl ?_
  refine Go.iload 263 at_261 rfl rfl ?_
  refine Go.icmpF 266 at_263 rfl (show (0 : Int) = (0 : Int) from by decide) ?_
  refine Go.aload 268 at_266 rfl rfl rfl ?_
  refine Go.callV 271 [] [] (hw _ (List.mem_of_getElem? (i := 38) rfl)) (hw _ (List.mem_of_getElem? (i := 39) rfl)) (hw _ (List.mem_of_getElem? (i := 41) rfl)) (hw _ (List.mem_of_getElem? (i := 40) rfl)) (hw _ (List.mem_of_getElem? (i := 42) rfl)) (hw _ (List.mem_of_getElem? (i := 2) rfl)) (by decide) pn_4 pd_5 rfl H.1 (ef_6_A o) (heldBackStep_go l Z a0 hw H) rfl rfl (by decide) (leB rfl) (by decide) (by decide) at_268 rfl ?_
  rintro _ _ ⟨rfl, rfl⟩
  refine Go.dconst0 272 (0 : UInt64) at_271 rfl rfl ?_
  refine Go.dcmp 273 (sg 0 0) at_272 rfl (cmpI dint_zero dint_zero _) ?_
  refine Go.ifCF 276 at_273 rfl (sg_self rfl) ?_
  refine Go.aload 278 at_276 rfl rfl rfl ?_
  refine Go.callV 281 [] [] (hw _ (List.mem_of_getElem? (i := 45) rfl)) (hw _ (List.mem_of_getElem? (i := 46) rfl)) (hw _ (List.mem_of_getElem? (i := 48) rfl)) (hw _ (List.mem_of_getElem? (i := 47) rfl)) (hw _ (List.mem_of_getElem? (i := 49) rfl)) (hw _ (List.mem_of_getElem? (i := 2) rfl)) (by decide) pn_4 pd_7 rfl H.1 (ef_7_A o) (stiff_go l Z a0 hw H (Or.inl rfl)) rfl rfl (by decide) (leB rfl) (by decide) (by decide) at_278 rfl ?_
  rintro _ _ ⟨rfl, rfl⟩
  refine Go.ifCF 284 at_281 rfl (show (0 : Int) = 0 from by decide) ?_
  refine Go.iconst 285 (1 : Int32) at_284 rfl (by decide) ?_
  refine Go.goto 289 at_285 (by decide) (by decide) ?_
  exact Go.zret at_289 rfl (Or.inr rfl) (by decide) (by decide) rfl
set_option maxRecDepth 65536 in
set_option maxHeartbeats 40000000 in
theorem tail_011 (l : Launch) (Z : State) (a0 : Array Value) (hw : ∀ d ∈ tables_1, d.before a0 Z = true) {um ends steps fast eff : Int64} {endT u m e1 e2 s1 s2 l1 l2 f1 f2 : Int32} {o : Nat} {et : UInt64} {nh : Int64} {sb : Int32} {h : Heap} {n0 : Nat} (H : IC Z h o 32 u m et nh sb 0 0) (h1 : ¬ Hd s1.toInt f1.toInt endT.toInt e1.toInt) (h2 : Hd s2.toInt f2.toInt endT.toInt e2.toInt) (ht : m.toInt < u.toInt) :
    Go l Z room_1 (x, code, maxLocals, ret) n0 Q1 h 1 12 173 #[.val (.long um), .second, .val (.int endT), .val (.long ends), .second, .val (.long steps), .second, .val (.long fast), .second, .val (.long eff), .second, .val (.int u), .val (.int m), .val (.int e1), .val (.int e2), .val (.int s1), .val (.int s2), .val (.int l1), .val (.int l2), .val (.int f1), .val (.int f2), .val (.ref o), .val (.int (0 : Int32)), .val (.int (0 : Int32)), .val (.int (0 : Int32)), .val (.int (1 : Int32)), .unset, .unset, .unset] [] := by
  have hh1 : b2i (Hd s1.toInt f1.toInt endT.toInt e1.toInt) = 0 := if_neg h1
  have hh2 : b2i (Hd s2.toInt f2.toInt endT.toInt e2.toInt) = 1 := if_pos h2
  refine Go.iload 175 at_173 rfl rfl ?_
  refine Go.iload 177 at_175 rfl rfl ?_
  refine Go.icmpF 180 at_177 rfl (show (m).toInt < (u).toInt from by omega) ?_
  refine Go.iconst 181 (1 : Int32) at_180 rfl (by decide) ?_
  refine Go.goto 185 at_181 (by decide) (by decide) ?_
  refine Go.istore 187 #[.val (.long um), .second, .val (.int endT), .val (.long ends), .second, .val (.long steps), .second, .val (.long fast), .second, .val (.long eff), .second, .val (.int u), .val (.int m), .val (.int e1), .val (.int e2), .val (.int s1), .val (.int s2), .val (.int l1), .val (.int l2), .val (.int f1), .val (.int f2), .val (.ref o), .val (.int (0 : Int32)), .val (.int (0 : Int32)), .val (.int (0 : Int32)), .val (.int (1 : Int32)), .val (.int (1 : Int32)), .unset, .unset] at_185 rfl rfl ?_
  refine Go.iload 189 at_187 rfl rfl ?_
  refine Go.iload 191 at_189 rfl rfl ?_
  refine Go.iloadN 192 at_191 rfl rfl ?_
  refine Go.iload 194 at_192 rfl rfl ?_
  refine Go.callS 197 [(.int s1), (.int f1), (.int endT), (.int e1)] [] (hw _ (List.mem_of_getElem? (i := 33) rfl)) (hw _ (List.mem_of_getElem? (i := 34) rfl)) (hw _ (List.mem_of_getElem? (i := 36) rfl)) (hw _ (List.mem_of_getElem? (i := 35) rfl)) (by decide) pn_1 pd_2 rfl (ef_5_IIII s1 f1 endT e1) (held_go l Z a0 hw s1 f1 endT e1) rfl rfl (by decide) (leB rfl) (by decide) (by decide) at_194 rfl ?_
  rintro _ _ ⟨rfl, rfl⟩
  rw [hh1]
  refine Go.ifCT 209 at_197 (by decide) (by decide) (show (0 : Int) = 0 from by decide) ?_
  refine Go.iconst 210 (0 : Int32) at_209 rfl (by decide) ?_
  refine Go.istore 212 #[.val (.long um), .second, .val (.int endT), .val (.long ends), .second, .val (.long steps), .second, .val (.long fast), .second, .val (.long eff), .second, .val (.int u), .val (.int m), .val (.int e1), .val (.int e2), .val (.int s1), .val (.int s2), .val (.int l1), .val (.int l2), .val (.int f1), .val (.int f2), .val (.ref o), .val (.int (0 : Int32)), .val (.int (0 : Int32)), .val (.int (0 : Int32)), .val (.int (1 : Int32)), .val (.int (1 : Int32)), .val (.int (0 : Int32)), .unset] at_210 rfl rfl ?_
  refine Go.iload 214 at_212 rfl rfl ?_
  refine Go.ifCF 217 at_214 rfl (show (0 : Int) = 0 from by decide) ?_
  refine Go.iload 219 at_217 rfl rfl ?_
  refine Go.iload 221 at_219 rfl rfl ?_
  refine Go.iloadN 222 at_221 rfl rfl ?_
  refine Go.iload 224 at_222 rfl rfl ?_
  refine Go.callS 227 [(.int s2), (.int f2), (.int endT), (.int e2)] [] (hw _ (List.mem_of_getElem? (i := 33) rfl)) (hw _ (List.mem_of_getElem? (i := 34) rfl)) (hw _ (List.mem_of_getElem? (i := 36) rfl)) (hw _ (List.mem_of_getElem? (i := 35) rfl)) (by decide) pn_1 pd_2 rfl (ef_5_IIII s2 f2 endT e2) (held_go l Z a0 hw s2 f2 endT e2) rfl rfl (by decide) (leB rfl) (by decide) (by decide) at_224 rfl ?_
  rintro _ _ ⟨rfl, rfl⟩
  rw [hh2]
  refine Go.ifCF 230 at_227 rfl (show (1 : Int) ≠ 0 from by decide) ?_
  refine Go.iload 232 at_230 rfl rfl ?_
  refine Go.ifCF 235 at_232 rfl (show (1 : Int) ≠ 0 from by decide) ?_
  refine Go.iconst 236 (1 : Int32) at_235 rfl (by decide) ?_
  refine Go.goto 240 at_236 (by decide) (by decide) ?_
  refine Go.istore 242 #[.val (.long um), .second, .val (.int endT), .val (.long ends), .second, .val (.long steps), .second, .val (.long fast), .second, .val (.long eff), .second, .val (.int u), .val (.int m), .val (.int e1), .val (.int e2), .val (.int s1), .val (.int s2), .val (.int l1), .val (.int l2), .val (.int f1), .val (.int f2), .val (.ref o), .val (.int (0 : Int32)), .val (.int (0 : Int32)), .val (.int (0 : Int32)), .val (.int (1 : Int32)), .val (.int (1 : Int32)), .val (.int (0 : Int32)), .val (.int (1 : Int32))] at_240 rfl rfl ?_
  refine Go.iload 244 at_242 rfl rfl ?_
  refine Go.ifCF 247 at_244 rfl (show (0 : Int) = 0 from by decide) ?_
  refine Go.iload 249 at_247 rfl rfl ?_
  refine Go.ifCF 252 at_249 rfl (show (0 : Int) = 0 from by decide) ?_
  refine Go.iload 254 at_252 rfl rfl ?_
  refine Go.iload 256 at_254 rfl rfl ?_
  refine Go.icmpF 259 at_256 rfl (show (0 : Int) = (0 : Int) from by decide) ?_
  refine Go.iload 261 at_259 rfl rfl ?_
  refine Go.iload 263 at_261 rfl rfl ?_
  refine Go.icmpF 266 at_263 rfl (show (1 : Int) = (1 : Int) from by decide) ?_
  refine Go.aload 268 at_266 rfl rfl rfl ?_
  refine Go.callV 271 [] [] (hw _ (List.mem_of_getElem? (i := 38) rfl)) (hw _ (List.mem_of_getElem? (i := 39) rfl)) (hw _ (List.mem_of_getElem? (i := 41) rfl)) (hw _ (List.mem_of_getElem? (i := 40) rfl)) (hw _ (List.mem_of_getElem? (i := 42) rfl)) (hw _ (List.mem_of_getElem? (i := 2) rfl)) (by decide) pn_4 pd_5 rfl H.1 (ef_6_A o) (heldBackStep_go l Z a0 hw H) rfl rfl (by decide) (leB rfl) (by decide) (by decide) at_268 rfl ?_
  rintro _ _ ⟨rfl, rfl⟩
  refine Go.dconst0 272 (0 : UInt64) at_271 rfl rfl ?_
  refine Go.dcmp 273 (sg 0 0) at_272 rfl (cmpI dint_zero dint_zero _) ?_
  refine Go.ifCF 276 at_273 rfl (sg_self rfl) ?_
  refine Go.aload 278 at_276 rfl rfl rfl ?_
  refine Go.callV 281 [] [] (hw _ (List.mem_of_getElem? (i := 45) rfl)) (hw _ (List.mem_of_getElem? (i := 46) rfl)) (hw _ (List.mem_of_getElem? (i := 48) rfl)) (hw _ (List.mem_of_getElem? (i := 47) rfl)) (hw _ (List.mem_of_getElem? (i := 49) rfl)) (hw _ (List.mem_of_getElem? (i := 2) rfl)) (by decide) pn_4 pd_7 rfl H.1 (ef_7_A o) (stiff_go l Z a0 hw H (Or.inl rfl)) rfl rfl (by decide) (leB rfl) (by decide) (by decide) at_278 rfl ?_
  rintro _ _ ⟨rfl, rfl⟩
  refine Go.ifCF 284 at_281 rfl (show (0 : Int) = 0 from by decide) ?_
  refine Go.iconst 285 (1 : Int32) at_284 rfl (by decide) ?_
  refine Go.goto 289 at_285 (by decide) (by decide) ?_
  exact Go.zret at_289 rfl (Or.inr rfl) (by decide) (by decide) rfl
set_option maxRecDepth 65536 in
set_option maxHeartbeats 40000000 in
theorem tail_100 (l : Launch) (Z : State) (a0 : Array Value) (hw : ∀ d ∈ tables_1, d.before a0 Z = true) {um ends steps fast eff : Int64} {endT u m e1 e2 s1 s2 l1 l2 f1 f2 : Int32} {o : Nat} {et : UInt64} {nh : Int64} {sb : Int32} {h : Heap} {n0 : Nat} (H : IC Z h o 32 u m et nh sb 0 0) (h1 : Hd s1.toInt f1.toInt endT.toInt e1.toInt) (h2 : ¬ Hd s2.toInt f2.toInt endT.toInt e2.toInt) (ht : u.toInt ≤ m.toInt) :
    Go l Z room_1 (x, code, maxLocals, ret) n0 Q1 h 1 12 173 #[.val (.long um), .second, .val (.int endT), .val (.long ends), .second, .val (.long steps), .second, .val (.long fast), .second, .val (.long eff), .second, .val (.int u), .val (.int m), .val (.int e1), .val (.int e2), .val (.int s1), .val (.int s2), .val (.int l1), .val (.int l2), .val (.int f1), .val (.int f2), .val (.ref o), .val (.int (0 : Int32)), .val (.int (0 : Int32)), .val (.int (0 : Int32)), .val (.int (0 : Int32)), .unset, .unset, .unset] [] := by
  have hh1 : b2i (Hd s1.toInt f1.toInt endT.toInt e1.toInt) = 1 := if_pos h1
  have hh2 : b2i (Hd s2.toInt f2.toInt endT.toInt e2.toInt) = 0 := if_neg h2
  refine Go.iload 175 at_173 rfl rfl ?_
  refine Go.iload 177 at_175 rfl rfl ?_
  refine Go.icmpT 184 at_177 (by decide) (by decide) (show (u).toInt ≤ (m).toInt from by omega) ?_
  refine Go.iconst 185 (0 : Int32) at_184 rfl (by decide) ?_
  refine Go.istore 187 #[.val (.long um), .second, .val (.int endT), .val (.long ends), .second, .val (.long steps), .second, .val (.long fast), .second, .val (.long eff), .second, .val (.int u), .val (.int m), .val (.int e1), .val (.int e2), .val (.int s1), .val (.int s2), .val (.int l1), .val (.int l2), .val (.int f1), .val (.int f2), .val (.ref o), .val (.int (0 : Int32)), .val (.int (0 : Int32)), .val (.int (0 : Int32)), .val (.int (0 : Int32)), .val (.int (0 : Int32)), .unset, .unset] at_185 rfl rfl ?_
  refine Go.iload 189 at_187 rfl rfl ?_
  refine Go.iload 191 at_189 rfl rfl ?_
  refine Go.iloadN 192 at_191 rfl rfl ?_
  refine Go.iload 194 at_192 rfl rfl ?_
  refine Go.callS 197 [(.int s1), (.int f1), (.int endT), (.int e1)] [] (hw _ (List.mem_of_getElem? (i := 33) rfl)) (hw _ (List.mem_of_getElem? (i := 34) rfl)) (hw _ (List.mem_of_getElem? (i := 36) rfl)) (hw _ (List.mem_of_getElem? (i := 35) rfl)) (by decide) pn_1 pd_2 rfl (ef_5_IIII s1 f1 endT e1) (held_go l Z a0 hw s1 f1 endT e1) rfl rfl (by decide) (leB rfl) (by decide) (by decide) at_194 rfl ?_
  rintro _ _ ⟨rfl, rfl⟩
  rw [hh1]
  refine Go.ifCF 200 at_197 rfl (show (1 : Int) ≠ 0 from by decide) ?_
  refine Go.iload 202 at_200 rfl rfl ?_
  refine Go.ifCT 209 at_202 (by decide) (by decide) (show (0 : Int) = 0 from by decide) ?_
  refine Go.iconst 210 (0 : Int32) at_209 rfl (by decide) ?_
  refine Go.istore 212 #[.val (.long um), .second, .val (.int endT), .val (.long ends), .second, .val (.long steps), .second, .val (.long fast), .second, .val (.long eff), .second, .val (.int u), .val (.int m), .val (.int e1), .val (.int e2), .val (.int s1), .val (.int s2), .val (.int l1), .val (.int l2), .val (.int f1), .val (.int f2), .val (.ref o), .val (.int (0 : Int32)), .val (.int (0 : Int32)), .val (.int (0 : Int32)), .val (.int (0 : Int32)), .val (.int (0 : Int32)), .val (.int (0 : Int32)), .unset] at_210 rfl rfl ?_
  refine Go.iload 214 at_212 rfl rfl ?_
  refine Go.ifCF 217 at_214 rfl (show (0 : Int) = 0 from by decide) ?_
  refine Go.iload 219 at_217 rfl rfl ?_
  refine Go.iload 221 at_219 rfl rfl ?_
  refine Go.iloadN 222 at_221 rfl rfl ?_
  refine Go.iload 224 at_222 rfl rfl ?_
  refine Go.callS 227 [(.int s2), (.int f2), (.int endT), (.int e2)] [] (hw _ (List.mem_of_getElem? (i := 33) rfl)) (hw _ (List.mem_of_getElem? (i := 34) rfl)) (hw _ (List.mem_of_getElem? (i := 36) rfl)) (hw _ (List.mem_of_getElem? (i := 35) rfl)) (by decide) pn_1 pd_2 rfl (ef_5_IIII s2 f2 endT e2) (held_go l Z a0 hw s2 f2 endT e2) rfl rfl (by decide) (leB rfl) (by decide) (by decide) at_224 rfl ?_
  rintro _ _ ⟨rfl, rfl⟩
  rw [hh2]
  refine Go.ifCT 239 at_227 (by decide) (by decide) (show (0 : Int) = 0 from by decide) ?_
  refine Go.iconst 240 (0 : Int32) at_239 rfl (by decide) ?_
  refine Go.istore 242 #[.val (.long um), .second, .val (.int endT), .val (.long ends), .second, .val (.long steps), .second, .val (.long fast), .second, .val (.long eff), .second, .val (.int u), .val (.int m), .val (.int e1), .val (.int e2), .val (.int s1), .val (.int s2), .val (.int l1), .val (.int l2), .val (.int f1), .val (.int f2), .val (.ref o), .val (.int (0 : Int32)), .val (.int (0 : Int32)), .val (.int (0 : Int32)), .val (.int (0 : Int32)), .val (.int (0 : Int32)), .val (.int (0 : Int32)), .val (.int (0 : Int32))] at_240 rfl rfl ?_
  refine Go.iload 244 at_242 rfl rfl ?_
  refine Go.ifCF 247 at_244 rfl (show (0 : Int) = 0 from by decide) ?_
  refine Go.iload 249 at_247 rfl rfl ?_
  refine Go.ifCF 252 at_249 rfl (show (0 : Int) = 0 from by decide) ?_
  refine Go.iload 254 at_252 rfl rfl ?_
  refine Go.iload 256 at_254 rfl rfl ?_
  refine Go.icmpF 259 at_256 rfl (show (0 : Int) = (0 : Int) from by decide) ?_
  refine Go.iload 261 at_259 rfl rfl ?_
  refine Go.iload 263 at_261 rfl rfl ?_
  refine Go.icmpF 266 at_263 rfl (show (0 : Int) = (0 : Int) from by decide) ?_
  refine Go.aload 268 at_266 rfl rfl rfl ?_
  refine Go.callV 271 [] [] (hw _ (List.mem_of_getElem? (i := 38) rfl)) (hw _ (List.mem_of_getElem? (i := 39) rfl)) (hw _ (List.mem_of_getElem? (i := 41) rfl)) (hw _ (List.mem_of_getElem? (i := 40) rfl)) (hw _ (List.mem_of_getElem? (i := 42) rfl)) (hw _ (List.mem_of_getElem? (i := 2) rfl)) (by decide) pn_4 pd_5 rfl H.1 (ef_6_A o) (heldBackStep_go l Z a0 hw H) rfl rfl (by decide) (leB rfl) (by decide) (by decide) at_268 rfl ?_
  rintro _ _ ⟨rfl, rfl⟩
  refine Go.dconst0 272 (0 : UInt64) at_271 rfl rfl ?_
  refine Go.dcmp 273 (sg 0 0) at_272 rfl (cmpI dint_zero dint_zero _) ?_
  refine Go.ifCF 276 at_273 rfl (sg_self rfl) ?_
  refine Go.aload 278 at_276 rfl rfl rfl ?_
  refine Go.callV 281 [] [] (hw _ (List.mem_of_getElem? (i := 45) rfl)) (hw _ (List.mem_of_getElem? (i := 46) rfl)) (hw _ (List.mem_of_getElem? (i := 48) rfl)) (hw _ (List.mem_of_getElem? (i := 47) rfl)) (hw _ (List.mem_of_getElem? (i := 49) rfl)) (hw _ (List.mem_of_getElem? (i := 2) rfl)) (by decide) pn_4 pd_7 rfl H.1 (ef_7_A o) (stiff_go l Z a0 hw H (Or.inl rfl)) rfl rfl (by decide) (leB rfl) (by decide) (by decide) at_278 rfl ?_
  rintro _ _ ⟨rfl, rfl⟩
  refine Go.ifCF 284 at_281 rfl (show (0 : Int) = 0 from by decide) ?_
  refine Go.iconst 285 (1 : Int32) at_284 rfl (by decide) ?_
  refine Go.goto 289 at_285 (by decide) (by decide) ?_
  exact Go.zret at_289 rfl (Or.inr rfl) (by decide) (by decide) rfl
set_option maxRecDepth 65536 in
set_option maxHeartbeats 40000000 in
theorem tail_101 (l : Launch) (Z : State) (a0 : Array Value) (hw : ∀ d ∈ tables_1, d.before a0 Z = true) {um ends steps fast eff : Int64} {endT u m e1 e2 s1 s2 l1 l2 f1 f2 : Int32} {o : Nat} {et : UInt64} {nh : Int64} {sb : Int32} {h : Heap} {n0 : Nat} (H : IC Z h o 32 u m et nh sb 0 0) (h1 : Hd s1.toInt f1.toInt endT.toInt e1.toInt) (h2 : ¬ Hd s2.toInt f2.toInt endT.toInt e2.toInt) (ht : m.toInt < u.toInt) :
    Go l Z room_1 (x, code, maxLocals, ret) n0 Q1 h 1 12 173 #[.val (.long um), .second, .val (.int endT), .val (.long ends), .second, .val (.long steps), .second, .val (.long fast), .second, .val (.long eff), .second, .val (.int u), .val (.int m), .val (.int e1), .val (.int e2), .val (.int s1), .val (.int s2), .val (.int l1), .val (.int l2), .val (.int f1), .val (.int f2), .val (.ref o), .val (.int (0 : Int32)), .val (.int (1 : Int32)), .val (.int (0 : Int32)), .val (.int (1 : Int32)), .unset, .unset, .unset] [] := by
  have hh1 : b2i (Hd s1.toInt f1.toInt endT.toInt e1.toInt) = 1 := if_pos h1
  have hh2 : b2i (Hd s2.toInt f2.toInt endT.toInt e2.toInt) = 0 := if_neg h2
  refine Go.iload 175 at_173 rfl rfl ?_
  refine Go.iload 177 at_175 rfl rfl ?_
  refine Go.icmpF 180 at_177 rfl (show (m).toInt < (u).toInt from by omega) ?_
  refine Go.iconst 181 (1 : Int32) at_180 rfl (by decide) ?_
  refine Go.goto 185 at_181 (by decide) (by decide) ?_
  refine Go.istore 187 #[.val (.long um), .second, .val (.int endT), .val (.long ends), .second, .val (.long steps), .second, .val (.long fast), .second, .val (.long eff), .second, .val (.int u), .val (.int m), .val (.int e1), .val (.int e2), .val (.int s1), .val (.int s2), .val (.int l1), .val (.int l2), .val (.int f1), .val (.int f2), .val (.ref o), .val (.int (0 : Int32)), .val (.int (1 : Int32)), .val (.int (0 : Int32)), .val (.int (1 : Int32)), .val (.int (1 : Int32)), .unset, .unset] at_185 rfl rfl ?_
  refine Go.iload 189 at_187 rfl rfl ?_
  refine Go.iload 191 at_189 rfl rfl ?_
  refine Go.iloadN 192 at_191 rfl rfl ?_
  refine Go.iload 194 at_192 rfl rfl ?_
  refine Go.callS 197 [(.int s1), (.int f1), (.int endT), (.int e1)] [] (hw _ (List.mem_of_getElem? (i := 33) rfl)) (hw _ (List.mem_of_getElem? (i := 34) rfl)) (hw _ (List.mem_of_getElem? (i := 36) rfl)) (hw _ (List.mem_of_getElem? (i := 35) rfl)) (by decide) pn_1 pd_2 rfl (ef_5_IIII s1 f1 endT e1) (held_go l Z a0 hw s1 f1 endT e1) rfl rfl (by decide) (leB rfl) (by decide) (by decide) at_194 rfl ?_
  rintro _ _ ⟨rfl, rfl⟩
  rw [hh1]
  refine Go.ifCF 200 at_197 rfl (show (1 : Int) ≠ 0 from by decide) ?_
  refine Go.iload 202 at_200 rfl rfl ?_
  refine Go.ifCF 205 at_202 rfl (show (1 : Int) ≠ 0 from by decide) ?_
  refine Go.iconst 206 (1 : Int32) at_205 rfl (by decide) ?_
  refine Go.goto 210 at_206 (by decide) (by decide) ?_
  refine Go.istore 212 #[.val (.long um), .second, .val (.int endT), .val (.long ends), .second, .val (.long steps), .second, .val (.long fast), .second, .val (.long eff), .second, .val (.int u), .val (.int m), .val (.int e1), .val (.int e2), .val (.int s1), .val (.int s2), .val (.int l1), .val (.int l2), .val (.int f1), .val (.int f2), .val (.ref o), .val (.int (0 : Int32)), .val (.int (1 : Int32)), .val (.int (0 : Int32)), .val (.int (1 : Int32)), .val (.int (1 : Int32)), .val (.int (1 : Int32)), .unset] at_210 rfl rfl ?_
  refine Go.iload 214 at_212 rfl rfl ?_
  refine Go.ifCT 235 at_214 (by decide) (by decide) (show (1 : Int) ≠ 0 from by decide) ?_
  refine Go.iconst 236 (1 : Int32) at_235 rfl (by decide) ?_
  refine Go.goto 240 at_236 (by decide) (by decide) ?_
  refine Go.istore 242 #[.val (.long um), .second, .val (.int endT), .val (.long ends), .second, .val (.long steps), .second, .val (.long fast), .second, .val (.long eff), .second, .val (.int u), .val (.int m), .val (.int e1), .val (.int e2), .val (.int s1), .val (.int s2), .val (.int l1), .val (.int l2), .val (.int f1), .val (.int f2), .val (.ref o), .val (.int (0 : Int32)), .val (.int (1 : Int32)), .val (.int (0 : Int32)), .val (.int (1 : Int32)), .val (.int (1 : Int32)), .val (.int (1 : Int32)), .val (.int (1 : Int32))] at_240 rfl rfl ?_
  refine Go.iload 244 at_242 rfl rfl ?_
  refine Go.ifCF 247 at_244 rfl (show (0 : Int) = 0 from by decide) ?_
  refine Go.iload 249 at_247 rfl rfl ?_
  refine Go.ifCF 252 at_249 rfl (show (0 : Int) = 0 from by decide) ?_
  refine Go.iload 254 at_252 rfl rfl ?_
  refine Go.iload 256 at_254 rfl rfl ?_
  refine Go.icmpF 259 at_256 rfl (show (1 : Int) = (1 : Int) from by decide) ?_
  refine Go.iload 261 at_259 rfl rfl ?_
  refine Go.iload 263 at_261 rfl rfl ?_
  refine Go.icmpF 266 at_263 rfl (show (1 : Int) = (1 : Int) from by decide) ?_
  refine Go.aload 268 at_266 rfl rfl rfl ?_
  refine Go.callV 271 [] [] (hw _ (List.mem_of_getElem? (i := 38) rfl)) (hw _ (List.mem_of_getElem? (i := 39) rfl)) (hw _ (List.mem_of_getElem? (i := 41) rfl)) (hw _ (List.mem_of_getElem? (i := 40) rfl)) (hw _ (List.mem_of_getElem? (i := 42) rfl)) (hw _ (List.mem_of_getElem? (i := 2) rfl)) (by decide) pn_4 pd_5 rfl H.1 (ef_6_A o) (heldBackStep_go l Z a0 hw H) rfl rfl (by decide) (leB rfl) (by decide) (by decide) at_268 rfl ?_
  rintro _ _ ⟨rfl, rfl⟩
  refine Go.dconst0 272 (0 : UInt64) at_271 rfl rfl ?_
  refine Go.dcmp 273 (sg 0 0) at_272 rfl (cmpI dint_zero dint_zero _) ?_
  refine Go.ifCF 276 at_273 rfl (sg_self rfl) ?_
  refine Go.aload 278 at_276 rfl rfl rfl ?_
  refine Go.callV 281 [] [] (hw _ (List.mem_of_getElem? (i := 45) rfl)) (hw _ (List.mem_of_getElem? (i := 46) rfl)) (hw _ (List.mem_of_getElem? (i := 48) rfl)) (hw _ (List.mem_of_getElem? (i := 47) rfl)) (hw _ (List.mem_of_getElem? (i := 49) rfl)) (hw _ (List.mem_of_getElem? (i := 2) rfl)) (by decide) pn_4 pd_7 rfl H.1 (ef_7_A o) (stiff_go l Z a0 hw H (Or.inl rfl)) rfl rfl (by decide) (leB rfl) (by decide) (by decide) at_278 rfl ?_
  rintro _ _ ⟨rfl, rfl⟩
  refine Go.ifCF 284 at_281 rfl (show (0 : Int) = 0 from by decide) ?_
  refine Go.iconst 285 (1 : Int32) at_284 rfl (by decide) ?_
  refine Go.goto 289 at_285 (by decide) (by decide) ?_
  exact Go.zret at_289 rfl (Or.inr rfl) (by decide) (by decide) rfl
set_option maxRecDepth 65536 in
set_option maxHeartbeats 40000000 in
theorem tail_110 (l : Launch) (Z : State) (a0 : Array Value) (hw : ∀ d ∈ tables_1, d.before a0 Z = true) {um ends steps fast eff : Int64} {endT u m e1 e2 s1 s2 l1 l2 f1 f2 : Int32} {o : Nat} {et : UInt64} {nh : Int64} {sb : Int32} {h : Heap} {n0 : Nat} (H : IC Z h o 32 u m et nh sb 0 0) (h1 : Hd s1.toInt f1.toInt endT.toInt e1.toInt) (h2 : Hd s2.toInt f2.toInt endT.toInt e2.toInt) (ht : u.toInt ≤ m.toInt) :
    Go l Z room_1 (x, code, maxLocals, ret) n0 Q1 h 1 12 173 #[.val (.long um), .second, .val (.int endT), .val (.long ends), .second, .val (.long steps), .second, .val (.long fast), .second, .val (.long eff), .second, .val (.int u), .val (.int m), .val (.int e1), .val (.int e2), .val (.int s1), .val (.int s2), .val (.int l1), .val (.int l2), .val (.int f1), .val (.int f2), .val (.ref o), .val (.int (0 : Int32)), .val (.int (0 : Int32)), .val (.int (0 : Int32)), .val (.int (0 : Int32)), .unset, .unset, .unset] [] := by
  have hh1 : b2i (Hd s1.toInt f1.toInt endT.toInt e1.toInt) = 1 := if_pos h1
  have hh2 : b2i (Hd s2.toInt f2.toInt endT.toInt e2.toInt) = 1 := if_pos h2
  refine Go.iload 175 at_173 rfl rfl ?_
  refine Go.iload 177 at_175 rfl rfl ?_
  refine Go.icmpT 184 at_177 (by decide) (by decide) (show (u).toInt ≤ (m).toInt from by omega) ?_
  refine Go.iconst 185 (0 : Int32) at_184 rfl (by decide) ?_
  refine Go.istore 187 #[.val (.long um), .second, .val (.int endT), .val (.long ends), .second, .val (.long steps), .second, .val (.long fast), .second, .val (.long eff), .second, .val (.int u), .val (.int m), .val (.int e1), .val (.int e2), .val (.int s1), .val (.int s2), .val (.int l1), .val (.int l2), .val (.int f1), .val (.int f2), .val (.ref o), .val (.int (0 : Int32)), .val (.int (0 : Int32)), .val (.int (0 : Int32)), .val (.int (0 : Int32)), .val (.int (0 : Int32)), .unset, .unset] at_185 rfl rfl ?_
  refine Go.iload 189 at_187 rfl rfl ?_
  refine Go.iload 191 at_189 rfl rfl ?_
  refine Go.iloadN 192 at_191 rfl rfl ?_
  refine Go.iload 194 at_192 rfl rfl ?_
  refine Go.callS 197 [(.int s1), (.int f1), (.int endT), (.int e1)] [] (hw _ (List.mem_of_getElem? (i := 33) rfl)) (hw _ (List.mem_of_getElem? (i := 34) rfl)) (hw _ (List.mem_of_getElem? (i := 36) rfl)) (hw _ (List.mem_of_getElem? (i := 35) rfl)) (by decide) pn_1 pd_2 rfl (ef_5_IIII s1 f1 endT e1) (held_go l Z a0 hw s1 f1 endT e1) rfl rfl (by decide) (leB rfl) (by decide) (by decide) at_194 rfl ?_
  rintro _ _ ⟨rfl, rfl⟩
  rw [hh1]
  refine Go.ifCF 200 at_197 rfl (show (1 : Int) ≠ 0 from by decide) ?_
  refine Go.iload 202 at_200 rfl rfl ?_
  refine Go.ifCT 209 at_202 (by decide) (by decide) (show (0 : Int) = 0 from by decide) ?_
  refine Go.iconst 210 (0 : Int32) at_209 rfl (by decide) ?_
  refine Go.istore 212 #[.val (.long um), .second, .val (.int endT), .val (.long ends), .second, .val (.long steps), .second, .val (.long fast), .second, .val (.long eff), .second, .val (.int u), .val (.int m), .val (.int e1), .val (.int e2), .val (.int s1), .val (.int s2), .val (.int l1), .val (.int l2), .val (.int f1), .val (.int f2), .val (.ref o), .val (.int (0 : Int32)), .val (.int (0 : Int32)), .val (.int (0 : Int32)), .val (.int (0 : Int32)), .val (.int (0 : Int32)), .val (.int (0 : Int32)), .unset] at_210 rfl rfl ?_
  refine Go.iload 214 at_212 rfl rfl ?_
  refine Go.ifCF 217 at_214 rfl (show (0 : Int) = 0 from by decide) ?_
  refine Go.iload 219 at_217 rfl rfl ?_
  refine Go.iload 221 at_219 rfl rfl ?_
  refine Go.iloadN 222 at_221 rfl rfl ?_
  refine Go.iload 224 at_222 rfl rfl ?_
  refine Go.callS 227 [(.int s2), (.int f2), (.int endT), (.int e2)] [] (hw _ (List.mem_of_getElem? (i := 33) rfl)) (hw _ (List.mem_of_getElem? (i := 34) rfl)) (hw _ (List.mem_of_getElem? (i := 36) rfl)) (hw _ (List.mem_of_getElem? (i := 35) rfl)) (by decide) pn_1 pd_2 rfl (ef_5_IIII s2 f2 endT e2) (held_go l Z a0 hw s2 f2 endT e2) rfl rfl (by decide) (leB rfl) (by decide) (by decide) at_224 rfl ?_
  rintro _ _ ⟨rfl, rfl⟩
  rw [hh2]
  refine Go.ifCF 230 at_227 rfl (show (1 : Int) ≠ 0 from by decide) ?_
  refine Go.iload 232 at_230 rfl rfl ?_
  refine Go.ifCT 239 at_232 (by decide) (by decide) (show (0 : Int) = 0 from by decide) ?_
  refine Go.iconst 240 (0 : Int32) at_239 rfl (by decide) ?_
  refine Go.istore 242 #[.val (.long um), .second, .val (.int endT), .val (.long ends), .second, .val (.long steps), .second, .val (.long fast), .second, .val (.long eff), .second, .val (.int u), .val (.int m), .val (.int e1), .val (.int e2), .val (.int s1), .val (.int s2), .val (.int l1), .val (.int l2), .val (.int f1), .val (.int f2), .val (.ref o), .val (.int (0 : Int32)), .val (.int (0 : Int32)), .val (.int (0 : Int32)), .val (.int (0 : Int32)), .val (.int (0 : Int32)), .val (.int (0 : Int32)), .val (.int (0 : Int32))] at_240 rfl rfl ?_
  refine Go.iload 244 at_242 rfl rfl ?_
  refine Go.ifCF 247 at_244 rfl (show (0 : Int) = 0 from by decide) ?_
  refine Go.iload 249 at_247 rfl rfl ?_
  refine Go.ifCF 252 at_249 rfl (show (0 : Int) = 0 from by decide) ?_
  refine Go.iload 254 at_252 rfl rfl ?_
  refine Go.iload 256 at_254 rfl rfl ?_
  refine Go.icmpF 259 at_256 rfl (show (0 : Int) = (0 : Int) from by decide) ?_
  refine Go.iload 261 at_259 rfl rfl ?_
  refine Go.iload 263 at_261 rfl rfl ?_
  refine Go.icmpF 266 at_263 rfl (show (0 : Int) = (0 : Int) from by decide) ?_
  refine Go.aload 268 at_266 rfl rfl rfl ?_
  refine Go.callV 271 [] [] (hw _ (List.mem_of_getElem? (i := 38) rfl)) (hw _ (List.mem_of_getElem? (i := 39) rfl)) (hw _ (List.mem_of_getElem? (i := 41) rfl)) (hw _ (List.mem_of_getElem? (i := 40) rfl)) (hw _ (List.mem_of_getElem? (i := 42) rfl)) (hw _ (List.mem_of_getElem? (i := 2) rfl)) (by decide) pn_4 pd_5 rfl H.1 (ef_6_A o) (heldBackStep_go l Z a0 hw H) rfl rfl (by decide) (leB rfl) (by decide) (by decide) at_268 rfl ?_
  rintro _ _ ⟨rfl, rfl⟩
  refine Go.dconst0 272 (0 : UInt64) at_271 rfl rfl ?_
  refine Go.dcmp 273 (sg 0 0) at_272 rfl (cmpI dint_zero dint_zero _) ?_
  refine Go.ifCF 276 at_273 rfl (sg_self rfl) ?_
  refine Go.aload 278 at_276 rfl rfl rfl ?_
  refine Go.callV 281 [] [] (hw _ (List.mem_of_getElem? (i := 45) rfl)) (hw _ (List.mem_of_getElem? (i := 46) rfl)) (hw _ (List.mem_of_getElem? (i := 48) rfl)) (hw _ (List.mem_of_getElem? (i := 47) rfl)) (hw _ (List.mem_of_getElem? (i := 49) rfl)) (hw _ (List.mem_of_getElem? (i := 2) rfl)) (by decide) pn_4 pd_7 rfl H.1 (ef_7_A o) (stiff_go l Z a0 hw H (Or.inl rfl)) rfl rfl (by decide) (leB rfl) (by decide) (by decide) at_278 rfl ?_
  rintro _ _ ⟨rfl, rfl⟩
  refine Go.ifCF 284 at_281 rfl (show (0 : Int) = 0 from by decide) ?_
  refine Go.iconst 285 (1 : Int32) at_284 rfl (by decide) ?_
  refine Go.goto 289 at_285 (by decide) (by decide) ?_
  exact Go.zret at_289 rfl (Or.inr rfl) (by decide) (by decide) rfl
set_option maxRecDepth 65536 in
set_option maxHeartbeats 40000000 in
theorem tail_111 (l : Launch) (Z : State) (a0 : Array Value) (hw : ∀ d ∈ tables_1, d.before a0 Z = true) {um ends steps fast eff : Int64} {endT u m e1 e2 s1 s2 l1 l2 f1 f2 : Int32} {o : Nat} {et : UInt64} {nh : Int64} {sb : Int32} {h : Heap} {n0 : Nat} (H : IC Z h o 32 u m et nh sb 0 0) (h1 : Hd s1.toInt f1.toInt endT.toInt e1.toInt) (h2 : Hd s2.toInt f2.toInt endT.toInt e2.toInt) (ht : m.toInt < u.toInt) :
    Go l Z room_1 (x, code, maxLocals, ret) n0 Q1 h 1 12 173 #[.val (.long um), .second, .val (.int endT), .val (.long ends), .second, .val (.long steps), .second, .val (.long fast), .second, .val (.long eff), .second, .val (.int u), .val (.int m), .val (.int e1), .val (.int e2), .val (.int s1), .val (.int s2), .val (.int l1), .val (.int l2), .val (.int f1), .val (.int f2), .val (.ref o), .val (.int (0 : Int32)), .val (.int (1 : Int32)), .val (.int (0 : Int32)), .val (.int (1 : Int32)), .unset, .unset, .unset] [] := by
  have hh1 : b2i (Hd s1.toInt f1.toInt endT.toInt e1.toInt) = 1 := if_pos h1
  have hh2 : b2i (Hd s2.toInt f2.toInt endT.toInt e2.toInt) = 1 := if_pos h2
  refine Go.iload 175 at_173 rfl rfl ?_
  refine Go.iload 177 at_175 rfl rfl ?_
  refine Go.icmpF 180 at_177 rfl (show (m).toInt < (u).toInt from by omega) ?_
  refine Go.iconst 181 (1 : Int32) at_180 rfl (by decide) ?_
  refine Go.goto 185 at_181 (by decide) (by decide) ?_
  refine Go.istore 187 #[.val (.long um), .second, .val (.int endT), .val (.long ends), .second, .val (.long steps), .second, .val (.long fast), .second, .val (.long eff), .second, .val (.int u), .val (.int m), .val (.int e1), .val (.int e2), .val (.int s1), .val (.int s2), .val (.int l1), .val (.int l2), .val (.int f1), .val (.int f2), .val (.ref o), .val (.int (0 : Int32)), .val (.int (1 : Int32)), .val (.int (0 : Int32)), .val (.int (1 : Int32)), .val (.int (1 : Int32)), .unset, .unset] at_185 rfl rfl ?_
  refine Go.iload 189 at_187 rfl rfl ?_
  refine Go.iload 191 at_189 rfl rfl ?_
  refine Go.iloadN 192 at_191 rfl rfl ?_
  refine Go.iload 194 at_192 rfl rfl ?_
  refine Go.callS 197 [(.int s1), (.int f1), (.int endT), (.int e1)] [] (hw _ (List.mem_of_getElem? (i := 33) rfl)) (hw _ (List.mem_of_getElem? (i := 34) rfl)) (hw _ (List.mem_of_getElem? (i := 36) rfl)) (hw _ (List.mem_of_getElem? (i := 35) rfl)) (by decide) pn_1 pd_2 rfl (ef_5_IIII s1 f1 endT e1) (held_go l Z a0 hw s1 f1 endT e1) rfl rfl (by decide) (leB rfl) (by decide) (by decide) at_194 rfl ?_
  rintro _ _ ⟨rfl, rfl⟩
  rw [hh1]
  refine Go.ifCF 200 at_197 rfl (show (1 : Int) ≠ 0 from by decide) ?_
  refine Go.iload 202 at_200 rfl rfl ?_
  refine Go.ifCF 205 at_202 rfl (show (1 : Int) ≠ 0 from by decide) ?_
  refine Go.iconst 206 (1 : Int32) at_205 rfl (by decide) ?_
  refine Go.goto 210 at_206 (by decide) (by decide) ?_
  refine Go.istore 212 #[.val (.long um), .second, .val (.int endT), .val (.long ends), .second, .val (.long steps), .second, .val (.long fast), .second, .val (.long eff), .second, .val (.int u), .val (.int m), .val (.int e1), .val (.int e2), .val (.int s1), .val (.int s2), .val (.int l1), .val (.int l2), .val (.int f1), .val (.int f2), .val (.ref o), .val (.int (0 : Int32)), .val (.int (1 : Int32)), .val (.int (0 : Int32)), .val (.int (1 : Int32)), .val (.int (1 : Int32)), .val (.int (1 : Int32)), .unset] at_210 rfl rfl ?_
  refine Go.iload 214 at_212 rfl rfl ?_
  refine Go.ifCT 235 at_214 (by decide) (by decide) (show (1 : Int) ≠ 0 from by decide) ?_
  refine Go.iconst 236 (1 : Int32) at_235 rfl (by decide) ?_
  refine Go.goto 240 at_236 (by decide) (by decide) ?_
  refine Go.istore 242 #[.val (.long um), .second, .val (.int endT), .val (.long ends), .second, .val (.long steps), .second, .val (.long fast), .second, .val (.long eff), .second, .val (.int u), .val (.int m), .val (.int e1), .val (.int e2), .val (.int s1), .val (.int s2), .val (.int l1), .val (.int l2), .val (.int f1), .val (.int f2), .val (.ref o), .val (.int (0 : Int32)), .val (.int (1 : Int32)), .val (.int (0 : Int32)), .val (.int (1 : Int32)), .val (.int (1 : Int32)), .val (.int (1 : Int32)), .val (.int (1 : Int32))] at_240 rfl rfl ?_
  refine Go.iload 244 at_242 rfl rfl ?_
  refine Go.ifCF 247 at_244 rfl (show (0 : Int) = 0 from by decide) ?_
  refine Go.iload 249 at_247 rfl rfl ?_
  refine Go.ifCF 252 at_249 rfl (show (0 : Int) = 0 from by decide) ?_
  refine Go.iload 254 at_252 rfl rfl ?_
  refine Go.iload 256 at_254 rfl rfl ?_
  refine Go.icmpF 259 at_256 rfl (show (1 : Int) = (1 : Int) from by decide) ?_
  refine Go.iload 261 at_259 rfl rfl ?_
  refine Go.iload 263 at_261 rfl rfl ?_
  refine Go.icmpF 266 at_263 rfl (show (1 : Int) = (1 : Int) from by decide) ?_
  refine Go.aload 268 at_266 rfl rfl rfl ?_
  refine Go.callV 271 [] [] (hw _ (List.mem_of_getElem? (i := 38) rfl)) (hw _ (List.mem_of_getElem? (i := 39) rfl)) (hw _ (List.mem_of_getElem? (i := 41) rfl)) (hw _ (List.mem_of_getElem? (i := 40) rfl)) (hw _ (List.mem_of_getElem? (i := 42) rfl)) (hw _ (List.mem_of_getElem? (i := 2) rfl)) (by decide) pn_4 pd_5 rfl H.1 (ef_6_A o) (heldBackStep_go l Z a0 hw H) rfl rfl (by decide) (leB rfl) (by decide) (by decide) at_268 rfl ?_
  rintro _ _ ⟨rfl, rfl⟩
  refine Go.dconst0 272 (0 : UInt64) at_271 rfl rfl ?_
  refine Go.dcmp 273 (sg 0 0) at_272 rfl (cmpI dint_zero dint_zero _) ?_
  refine Go.ifCF 276 at_273 rfl (sg_self rfl) ?_
  refine Go.aload 278 at_276 rfl rfl rfl ?_
  refine Go.callV 281 [] [] (hw _ (List.mem_of_getElem? (i := 45) rfl)) (hw _ (List.mem_of_getElem? (i := 46) rfl)) (hw _ (List.mem_of_getElem? (i := 48) rfl)) (hw _ (List.mem_of_getElem? (i := 47) rfl)) (hw _ (List.mem_of_getElem? (i := 49) rfl)) (hw _ (List.mem_of_getElem? (i := 2) rfl)) (by decide) pn_4 pd_7 rfl H.1 (ef_7_A o) (stiff_go l Z a0 hw H (Or.inl rfl)) rfl rfl (by decide) (leB rfl) (by decide) (by decide) at_278 rfl ?_
  rintro _ _ ⟨rfl, rfl⟩
  refine Go.ifCF 284 at_281 rfl (show (0 : Int) = 0 from by decide) ?_
  refine Go.iconst 285 (1 : Int32) at_284 rfl (by decide) ?_
  refine Go.goto 289 at_285 (by decide) (by decide) ?_
  exact Go.zret at_289 rfl (Or.inr rfl) (by decide) (by decide) rfl
theorem d8 : FP.Core.DInt 8 4620693217682128896 := by
  unfold FP.Core.DInt
  have : FP.Core.val64 4620693217682128896 = .fin false (2 ^ 52) (-49) := by decide +kernel
  rw [this]
  show FP.Core.signed false _ = _
  decide +kernel
theorem short_b (x : Int16) : -32768 ≤ x.toInt32.toInt ∧ x.toInt32.toInt ≤ 32767 := by
  rw [Int16.toInt_toInt32]; have := x.toInt_lt; have := x.le_toInt; omega
set_option maxRecDepth 65536 in
set_option maxHeartbeats 40000000 in
theorem law_go (l : Launch) (Z : State) (a0 : Array Value) (hw : ∀ d ∈ tables_1, d.before a0 Z = true) (um : Int64) (endT : Int32) (ends steps fast eff : Int64) {h : Heap} {n0 : Nat} : Go l Z room_1 (x, code, maxLocals, ret) n0 Q1 h 0 0 0 #[.val (.long um), .second, .val (.int endT), .val (.long ends), .second, .val (.long steps), .second, .val (.long fast), .second, .val (.long eff), .second, .unset, .unset, .unset, .unset, .unset, .unset, .unset, .unset, .unset, .unset, .unset, .unset, .unset, .unset, .unset, .unset, .unset, .unset] [] := by
  obtain ⟨u, h_u⟩ : ∃ z : Int32, ((um >>> (((32 : Int32)).toInt64 &&& 63))).toInt32 = z := ⟨_, rfl⟩
  obtain ⟨m, h_m⟩ : ∃ z : Int32, um.toInt32 = z := ⟨_, rfl⟩
  obtain ⟨e1, h_e1⟩ : ∃ z : Int32, ((ends >>> (((32 : Int32)).toInt64 &&& 63))).toInt32 = z := ⟨_, rfl⟩
  obtain ⟨e2, h_e2⟩ : ∃ z : Int32, ends.toInt32 = z := ⟨_, rfl⟩
  obtain ⟨s1, h_s1⟩ : ∃ z : Int32, (steps.toInt32).toInt16.toInt32 = z := ⟨_, rfl⟩
  obtain ⟨s2, h_s2⟩ : ∃ z : Int32, ((XT.ushrL steps (16 : Int32)).toInt32).toInt16.toInt32 = z := ⟨_, rfl⟩
  obtain ⟨f1, h_f1⟩ : ∃ z : Int32, ((fast >>> (((32 : Int32)).toInt64 &&& 63))).toInt32 = z := ⟨_, rfl⟩
  obtain ⟨f2, h_f2⟩ : ∃ z : Int32, fast.toInt32 = z := ⟨_, rfl⟩
  have B_u := b32 u
  have B_m := b32 m
  have B_e1 := b32 e1
  have B_e2 := b32 e2
  have B_s1 := b32 s1
  have B_s2 := b32 s2
  have B_f1 := b32 f1
  have B_f2 := b32 f2
  have B_t := b32 endT
  have S_1 : -32768 ≤ s1.toInt ∧ s1.toInt ≤ 32767 := by rw [← h_s1]; exact short_b _
  have S_2 : -32768 ≤ s2.toInt ∧ s2.toInt ≤ 32767 := by rw [← h_s2]; exact short_b _
  obtain ⟨v1, qv1, dv1⟩ := divQ (n := 3) (t := s1.toInt) (dq_of_int (FP.Core.i2d_int s1)) (dq_of_int d8) (by decide) (by omega) (by omega) (by decide)
  obtain ⟨g1, qg1, dg1⟩ := divQ (n := 3) (t := f1.toInt) (dq_of_int (FP.Core.i2d_int f1)) (dq_of_int d8) (by decide) (by omega) (by omega) (by decide)
  have bp1 : (s1.toInt * f1.toInt).natAbs < 2 ^ 53 := by
    rw [Int.natAbs_mul]
    have : s1.toInt.natAbs * f1.toInt.natAbs ≤ 32768 * 2147483648 := Nat.mul_le_mul (by omega) (by omega)
    omega
  obtain ⟨v2, qv2, dv2⟩ := divQ (n := 3) (t := s2.toInt) (dq_of_int (FP.Core.i2d_int s2)) (dq_of_int d8) (by decide) (by omega) (by omega) (by decide)
  obtain ⟨g2, qg2, dg2⟩ := divQ (n := 3) (t := f2.toInt) (dq_of_int (FP.Core.i2d_int f2)) (dq_of_int d8) (by decide) (by omega) (by omega) (by decide)
  have bp2 : (s2.toInt * f2.toInt).natAbs < 2 ^ 53 := by
    rw [Int.natAbs_mul]
    have : s2.toInt.natAbs * f2.toInt.natAbs ≤ 32768 * 2147483648 := Nat.mul_le_mul (by omega) (by omega)
    omega
  have g75 : ∀ l1 l2 : Int32, Go l Z room_1 (x, code, maxLocals, ret) n0 Q1 h 0 0 75 #[.val (.long um), .second, .val (.int endT), .val (.long ends), .second, .val (.long steps), .second, .val (.long fast), .second, .val (.long eff), .second, .val (.int u), .val (.int m), .val (.int e1), .val (.int e2), .val (.int s1), .val (.int s2), .val (.int l1), .val (.int l2), .unset, .unset, .unset, .unset, .unset, .unset, .unset, .unset, .unset, .unset] [] := by
    intro l1 l2
    refine Go.lload 77 at_75 rfl rfl ?_
    refine Go.bipush 79 (32 : Int32) at_77 rfl (by decide) ?_
    refine Go.lshr 80 (fast >>> (((32 : Int32)).toInt64 &&& 63)) at_79 rfl rfl ?_
    refine Go.l2i 81 f1 at_80 rfl h_f1 ?_
    refine Go.istore 83 #[.val (.long um), .second, .val (.int endT), .val (.long ends), .second, .val (.long steps), .second, .val (.long fast), .second, .val (.long eff), .second, .val (.int u), .val (.int m), .val (.int e1), .val (.int e2), .val (.int s1), .val (.int s2), .val (.int l1), .val (.int l2), .val (.int f1), .unset, .unset, .unset, .unset, .unset, .unset, .unset, .unset, .unset] at_81 rfl rfl ?_
    refine Go.lload 85 at_83 rfl rfl ?_
    refine Go.l2i 86 f2 at_85 rfl h_f2 ?_
    refine Go.istore 88 #[.val (.long um), .second, .val (.int endT), .val (.long ends), .second, .val (.long steps), .second, .val (.long fast), .second, .val (.long eff), .second, .val (.int u), .val (.int m), .val (.int e1), .val (.int e2), .val (.int s1), .val (.int s2), .val (.int l1), .val (.int l2), .val (.int f1), .val (.int f2), .unset, .unset, .unset, .unset, .unset, .unset, .unset, .unset] at_86 rfl rfl ?_
    refine Go.new 91 (hw _ (List.mem_of_getElem? (i := 0) rfl)) (hw _ (List.mem_of_getElem? (i := 1) rfl)) (hw _ (List.mem_of_getElem? (i := 2) rfl)) at_88 rfl (by decide) (by decide) ?_
    intro h1 o E1 gN1 gN2 na X1 D1
    have H1 : IC Z h1 o 0 0 0 0 0 0 0 0 := ⟨X1, D1 (Or.inl (hw _ (List.mem_of_getElem? (i := 11) rfl))) (ty := .long) (by decide), D1 (Or.inr (hw _ (List.mem_of_getElem? (i := 13) rfl))) (ty := .int) (by decide), D1 (Or.inr (hw _ (List.mem_of_getElem? (i := 15) rfl))) (ty := .int) (by decide), D1 (Or.inr (hw _ (List.mem_of_getElem? (i := 17) rfl))) (ty := .double) (by decide), D1 (Or.inl (hw _ (List.mem_of_getElem? (i := 25) rfl))) (ty := .long) (by decide), D1 (Or.inl (hw _ (List.mem_of_getElem? (i := 27) rfl))) (ty := .boolean) (by decide), D1 (Or.inl (hw _ (List.mem_of_getElem? (i := 44) rfl))) (ty := .double) (by decide), D1 (Or.inl (hw _ (List.mem_of_getElem? (i := 51) rfl))) (ty := .boolean) (by decide)⟩
    refine Go.dup 92 at_91 rfl rfl ?_
    refine Go.iload 94 at_92 rfl rfl ?_
    refine Go.iload 96 at_94 rfl rfl ?_
    refine Go.iloadN 97 at_96 rfl rfl ?_
    refine Go.i2d 98 (FP.i2d endT) at_97 rfl rfl ?_
    refine Go.callN 101 [(.int u), (.int m), (.double (FP.i2d endT))] [(.ref o)] rfl (hw _ (List.mem_of_getElem? (i := 3) rfl)) (hw _ (List.mem_of_getElem? (i := 4) rfl)) (hw _ (List.mem_of_getElem? (i := 5) rfl)) (hw _ (List.mem_of_getElem? (i := 2) rfl)) (by decide) pn_4 pd_9 rfl (ef_1_AIID o u m (FP.i2d endT)) (init_go l Z a0 hw H1 na) rfl rfl (by decide) (leB rfl) (by decide) (by decide) at_98 rfl ?_
    rintro v h2 ⟨rfl, H2⟩
    have H2 : IC Z h2 o 32 u m (FP.i2d endT) 0 (b2i False) 0 0 := H2
    refine Go.astore 103 #[.val (.long um), .second, .val (.int endT), .val (.long ends), .second, .val (.long steps), .second, .val (.long fast), .second, .val (.long eff), .second, .val (.int u), .val (.int m), .val (.int e1), .val (.int e2), .val (.int s1), .val (.int s2), .val (.int l1), .val (.int l2), .val (.int f1), .val (.int f2), .val (.ref o), .unset, .unset, .unset, .unset, .unset, .unset, .unset] at_101 rfl rfl rfl ?_
    refine Go.aload 105 at_103 rfl rfl rfl ?_
    refine Go.iload 107 at_105 rfl rfl ?_
    refine Go.i2d 108 (FP.i2d s1) at_107 rfl rfl ?_
    refine Go.ldc2D 111 4620693217682128896 (hw _ (List.mem_of_getElem? (i := 18) rfl)) at_108 rfl ?_
    refine Go.ddiv 112 v1 at_111 rfl qv1.1 qv1.2 ?_
    refine Go.iload 114 at_112 rfl rfl ?_
    refine Go.i2d 115 (FP.i2d e1) at_114 rfl rfl ?_
    refine Go.iload 117 at_115 rfl rfl ?_
    refine Go.iload 119 at_117 rfl rfl ?_
    refine Go.i2d 120 (FP.i2d f1) at_119 rfl rfl ?_
    refine Go.ldc2D 123 4620693217682128896 (hw _ (List.mem_of_getElem? (i := 18) rfl)) at_120 rfl ?_
    refine Go.ddiv 124 g1 at_123 rfl qg1.1 qg1.2 ?_
    refine Go.lload 126 at_124 rfl rfl ?_
    refine Go.callV 129 [(.double v1), (.double (FP.i2d e1)), (.int l1), (.double g1), (.long eff)] [] (hw _ (List.mem_of_getElem? (i := 19) rfl)) (hw _ (List.mem_of_getElem? (i := 20) rfl)) (hw _ (List.mem_of_getElem? (i := 22) rfl)) (hw _ (List.mem_of_getElem? (i := 21) rfl)) (hw _ (List.mem_of_getElem? (i := 23) rfl)) (hw _ (List.mem_of_getElem? (i := 2) rfl)) (by decide) pn_4 pd_11 rfl H2.1 (ef_3_ADDIDJ o v1 (FP.i2d e1) l1 g1 eff) (held_back_go l Z a0 hw (B := False) H2 na (by decide) (by decide) dv1 dg1 (FP.Core.i2d_int endT) (FP.Core.i2d_int e1) S_1 (by omega) bp1 (by omega) (by omega)) rfl rfl (by decide) (leB rfl) (by decide) (by decide) at_126 rfl ?_
    rintro _ h3 ⟨rfl, nh1, lo1, hi1, H3⟩
    have lo1 : 0 ≤ nh1.toInt := lo1
    have hi1 : nh1.toInt ≤ 1 := hi1
    refine Go.istore 131 #[.val (.long um), .second, .val (.int endT), .val (.long ends), .second, .val (.long steps), .second, .val (.long fast), .second, .val (.long eff), .second, .val (.int u), .val (.int m), .val (.int e1), .val (.int e2), .val (.int s1), .val (.int s2), .val (.int l1), .val (.int l2), .val (.int f1), .val (.int f2), .val (.ref o), .val (.int (0 : Int32)), .unset, .unset, .unset, .unset, .unset, .unset] at_129 rfl rfl ?_
    refine Go.aload 133 at_131 rfl rfl rfl ?_
    refine Go.callV 136 [] [] (hw _ (List.mem_of_getElem? (i := 28) rfl)) (hw _ (List.mem_of_getElem? (i := 29) rfl)) (hw _ (List.mem_of_getElem? (i := 31) rfl)) (hw _ (List.mem_of_getElem? (i := 30) rfl)) (hw _ (List.mem_of_getElem? (i := 32) rfl)) (hw _ (List.mem_of_getElem? (i := 2) rfl)) (by decide) pn_4 pd_7 rfl H3.1 (ef_4_A o) (stiffButTooLarge_go l Z a0 hw H3 (b2i_01 _)) rfl rfl (by decide) (leB rfl) (by decide) (by decide) at_133 rfl ?_
    rintro _ _ ⟨rfl, rfl⟩
    refine Go.istore 138 #[.val (.long um), .second, .val (.int endT), .val (.long ends), .second, .val (.long steps), .second, .val (.long fast), .second, .val (.long eff), .second, .val (.int u), .val (.int m), .val (.int e1), .val (.int e2), .val (.int s1), .val (.int s2), .val (.int l1), .val (.int l2), .val (.int f1), .val (.int f2), .val (.ref o), .val (.int (0 : Int32)), .val (.int (b2i (False ∨ (Hd s1.toInt f1.toInt endT.toInt e1.toInt ∧ m.toInt < u.toInt)))), .unset, .unset, .unset, .unset, .unset] at_136 rfl rfl ?_
    refine Go.aload 140 at_138 rfl rfl rfl ?_
    refine Go.iload 142 at_140 rfl rfl ?_
    refine Go.i2d 143 (FP.i2d s2) at_142 rfl rfl ?_
    refine Go.ldc2D 146 4620693217682128896 (hw _ (List.mem_of_getElem? (i := 18) rfl)) at_143 rfl ?_
    refine Go.ddiv 147 v2 at_146 rfl qv2.1 qv2.2 ?_
    refine Go.iload 149 at_147 rfl rfl ?_
    refine Go.i2d 150 (FP.i2d e2) at_149 rfl rfl ?_
    refine Go.iload 152 at_150 rfl rfl ?_
    refine Go.iload 154 at_152 rfl rfl ?_
    refine Go.i2d 155 (FP.i2d f2) at_154 rfl rfl ?_
    refine Go.ldc2D 158 4620693217682128896 (hw _ (List.mem_of_getElem? (i := 18) rfl)) at_155 rfl ?_
    refine Go.ddiv 159 g2 at_158 rfl qg2.1 qg2.2 ?_
    refine Go.lload 161 at_159 rfl rfl ?_
    refine Go.callV 164 [(.double v2), (.double (FP.i2d e2)), (.int l2), (.double g2), (.long eff)] [] (hw _ (List.mem_of_getElem? (i := 19) rfl)) (hw _ (List.mem_of_getElem? (i := 20) rfl)) (hw _ (List.mem_of_getElem? (i := 22) rfl)) (hw _ (List.mem_of_getElem? (i := 21) rfl)) (hw _ (List.mem_of_getElem? (i := 23) rfl)) (hw _ (List.mem_of_getElem? (i := 2) rfl)) (by decide) pn_4 pd_11 rfl H3.1 (ef_3_ADDIDJ o v2 (FP.i2d e2) l2 g2 eff) (held_back_go l Z a0 hw (B := (False ∨ (Hd s1.toInt f1.toInt endT.toInt e1.toInt ∧ m.toInt < u.toInt))) H3 na (by omega) (by omega) dv2 dg2 (FP.Core.i2d_int endT) (FP.Core.i2d_int e2) S_2 (by omega) bp2 (by omega) (by omega)) rfl rfl (by decide) (leB rfl) (by decide) (by decide) at_161 rfl ?_
    rintro _ h4 ⟨rfl, nh2, lo2, hi2, H4⟩
    refine Go.istore 166 #[.val (.long um), .second, .val (.int endT), .val (.long ends), .second, .val (.long steps), .second, .val (.long fast), .second, .val (.long eff), .second, .val (.int u), .val (.int m), .val (.int e1), .val (.int e2), .val (.int s1), .val (.int s2), .val (.int l1), .val (.int l2), .val (.int f1), .val (.int f2), .val (.ref o), .val (.int (0 : Int32)), .val (.int (b2i (False ∨ (Hd s1.toInt f1.toInt endT.toInt e1.toInt ∧ m.toInt < u.toInt)))), .val (.int (0 : Int32)), .unset, .unset, .unset, .unset] at_164 rfl rfl ?_
    refine Go.aload 168 at_166 rfl rfl rfl ?_
    refine Go.callV 171 [] [] (hw _ (List.mem_of_getElem? (i := 28) rfl)) (hw _ (List.mem_of_getElem? (i := 29) rfl)) (hw _ (List.mem_of_getElem? (i := 31) rfl)) (hw _ (List.mem_of_getElem? (i := 30) rfl)) (hw _ (List.mem_of_getElem? (i := 32) rfl)) (hw _ (List.mem_of_getElem? (i := 2) rfl)) (by decide) pn_4 pd_7 rfl H4.1 (ef_4_A o) (stiffButTooLarge_go l Z a0 hw H4 (b2i_01 _)) rfl rfl (by decide) (leB rfl) (by decide) (by decide) at_168 rfl ?_
    rintro _ _ ⟨rfl, rfl⟩
    refine Go.istore 173 #[.val (.long um), .second, .val (.int endT), .val (.long ends), .second, .val (.long steps), .second, .val (.long fast), .second, .val (.long eff), .second, .val (.int u), .val (.int m), .val (.int e1), .val (.int e2), .val (.int s1), .val (.int s2), .val (.int l1), .val (.int l2), .val (.int f1), .val (.int f2), .val (.ref o), .val (.int (0 : Int32)), .val (.int (b2i (False ∨ (Hd s1.toInt f1.toInt endT.toInt e1.toInt ∧ m.toInt < u.toInt)))), .val (.int (0 : Int32)), .val (.int (b2i ((False ∨ (Hd s1.toInt f1.toInt endT.toInt e1.toInt ∧ m.toInt < u.toInt)) ∨ (Hd s2.toInt f2.toInt endT.toInt e2.toInt ∧ m.toInt < u.toInt)))), .unset, .unset, .unset] at_171 rfl rfl ?_
    by_cases k1 : Hd s1.toInt f1.toInt endT.toInt e1.toInt <;> by_cases k2 : Hd s2.toInt f2.toInt endT.toInt e2.toInt <;> by_cases kt : m.toInt < u.toInt
    · have z1 : b2i (False ∨ (Hd s1.toInt f1.toInt endT.toInt e1.toInt ∧ m.toInt < u.toInt)) = 1 := by simp [b2i, k1, kt]
      have z2 : b2i ((False ∨ (Hd s1.toInt f1.toInt endT.toInt e1.toInt ∧ m.toInt < u.toInt)) ∨ (Hd s2.toInt f2.toInt endT.toInt e2.toInt ∧ m.toInt < u.toInt)) = 1 := by simp [b2i, k1, k2, kt]
      rw [z1, z2]
      exact tail_111 l Z a0 hw H4 k1 k2 kt
    · have z1 : b2i (False ∨ (Hd s1.toInt f1.toInt endT.toInt e1.toInt ∧ m.toInt < u.toInt)) = 0 := by simp [b2i, k1, kt]
      have z2 : b2i ((False ∨ (Hd s1.toInt f1.toInt endT.toInt e1.toInt ∧ m.toInt < u.toInt)) ∨ (Hd s2.toInt f2.toInt endT.toInt e2.toInt ∧ m.toInt < u.toInt)) = 0 := by simp [b2i, k1, k2, kt]
      rw [z1, z2]
      exact tail_110 l Z a0 hw H4 k1 k2 (by omega)
    · have z1 : b2i (False ∨ (Hd s1.toInt f1.toInt endT.toInt e1.toInt ∧ m.toInt < u.toInt)) = 1 := by simp [b2i, k1, kt]
      have z2 : b2i ((False ∨ (Hd s1.toInt f1.toInt endT.toInt e1.toInt ∧ m.toInt < u.toInt)) ∨ (Hd s2.toInt f2.toInt endT.toInt e2.toInt ∧ m.toInt < u.toInt)) = 1 := by simp [b2i, k1, k2, kt]
      rw [z1, z2]
      exact tail_101 l Z a0 hw H4 k1 k2 kt
    · have z1 : b2i (False ∨ (Hd s1.toInt f1.toInt endT.toInt e1.toInt ∧ m.toInt < u.toInt)) = 0 := by simp [b2i, k1, kt]
      have z2 : b2i ((False ∨ (Hd s1.toInt f1.toInt endT.toInt e1.toInt ∧ m.toInt < u.toInt)) ∨ (Hd s2.toInt f2.toInt endT.toInt e2.toInt ∧ m.toInt < u.toInt)) = 0 := by simp [b2i, k1, k2, kt]
      rw [z1, z2]
      exact tail_100 l Z a0 hw H4 k1 k2 (by omega)
    · have z1 : b2i (False ∨ (Hd s1.toInt f1.toInt endT.toInt e1.toInt ∧ m.toInt < u.toInt)) = 0 := by simp [b2i, k1, kt]
      have z2 : b2i ((False ∨ (Hd s1.toInt f1.toInt endT.toInt e1.toInt ∧ m.toInt < u.toInt)) ∨ (Hd s2.toInt f2.toInt endT.toInt e2.toInt ∧ m.toInt < u.toInt)) = 1 := by simp [b2i, k1, k2, kt]
      rw [z1, z2]
      exact tail_011 l Z a0 hw H4 k1 k2 kt
    · have z1 : b2i (False ∨ (Hd s1.toInt f1.toInt endT.toInt e1.toInt ∧ m.toInt < u.toInt)) = 0 := by simp [b2i, k1, kt]
      have z2 : b2i ((False ∨ (Hd s1.toInt f1.toInt endT.toInt e1.toInt ∧ m.toInt < u.toInt)) ∨ (Hd s2.toInt f2.toInt endT.toInt e2.toInt ∧ m.toInt < u.toInt)) = 0 := by simp [b2i, k1, k2, kt]
      rw [z1, z2]
      exact tail_010 l Z a0 hw H4 k1 k2 (by omega)
    · have z1 : b2i (False ∨ (Hd s1.toInt f1.toInt endT.toInt e1.toInt ∧ m.toInt < u.toInt)) = 0 := by simp [b2i, k1, kt]
      have z2 : b2i ((False ∨ (Hd s1.toInt f1.toInt endT.toInt e1.toInt ∧ m.toInt < u.toInt)) ∨ (Hd s2.toInt f2.toInt endT.toInt e2.toInt ∧ m.toInt < u.toInt)) = 0 := by simp [b2i, k1, k2, kt]
      rw [z1, z2]
      exact tail_001 l Z a0 hw H4 k1 k2 kt
    · have z1 : b2i (False ∨ (Hd s1.toInt f1.toInt endT.toInt e1.toInt ∧ m.toInt < u.toInt)) = 0 := by simp [b2i, k1, kt]
      have z2 : b2i ((False ∨ (Hd s1.toInt f1.toInt endT.toInt e1.toInt ∧ m.toInt < u.toInt)) ∨ (Hd s2.toInt f2.toInt endT.toInt e2.toInt ∧ m.toInt < u.toInt)) = 0 := by simp [b2i, k1, k2, kt]
      rw [z1, z2]
      exact tail_000 l Z a0 hw H4 k1 k2 (by omega)
  have g56 : ∀ l1 : Int32, Go l Z room_1 (x, code, maxLocals, ret) n0 Q1 h 0 0 56 #[.val (.long um), .second, .val (.int endT), .val (.long ends), .second, .val (.long steps), .second, .val (.long fast), .second, .val (.long eff), .second, .val (.int u), .val (.int m), .val (.int e1), .val (.int e2), .val (.int s1), .val (.int s2), .val (.int l1), .unset, .unset, .unset, .unset, .unset, .unset, .unset, .unset, .unset, .unset, .unset] [] := by
    intro l1
    refine Go.lload 58 at_56 rfl rfl ?_
    refine Go.bipush 60 (33 : Int32) at_58 rfl (by decide) ?_
    refine Go.lushr 61 (XT.ushrL steps (33 : Int32)) at_60 rfl rfl ?_
    refine Go.lconst 62 (1 : Int64) at_61 rfl (by decide) ?_
    refine Go.land 63 ((XT.ushrL steps (33 : Int32)) &&& (1 : Int64)) at_62 rfl rfl ?_
    refine Go.lconst 64 (0 : Int64) at_63 rfl (by decide) ?_
    refine Go.lcmp 65 (XT.cmpL ((XT.ushrL steps (33 : Int32)) &&& (1 : Int64)) (0 : Int64)) at_64 rfl rfl ?_
    refine Go.ifCB 72 68 at_65 (by decide) (by decide) rfl (fun (hc : ((XT.cmpL ((XT.ushrL steps (33 : Int32)) &&& (1 : Int64)) (0 : Int64))).toInt = 0) => ?_) (fun (hc : ((XT.cmpL ((XT.ushrL steps (33 : Int32)) &&& (1 : Int64)) (0 : Int64))).toInt ≠ 0) => ?_)
    · refine Go.iconst 73 (0 : Int32) at_72 rfl (by decide) ?_
      refine Go.istore 75 #[.val (.long um), .second, .val (.int endT), .val (.long ends), .second, .val (.long steps), .second, .val (.long fast), .second, .val (.long eff), .second, .val (.int u), .val (.int m), .val (.int e1), .val (.int e2), .val (.int s1), .val (.int s2), .val (.int l1), .val (.int (0 : Int32)), .unset, .unset, .unset, .unset, .unset, .unset, .unset, .unset, .unset, .unset] at_73 rfl rfl ?_
      exact g75 _ _
    · refine Go.iconst 69 (1 : Int32) at_68 rfl (by decide) ?_
      refine Go.goto 73 at_69 (by decide) (by decide) ?_
      refine Go.istore 75 #[.val (.long um), .second, .val (.int endT), .val (.long ends), .second, .val (.long steps), .second, .val (.long fast), .second, .val (.long eff), .second, .val (.int u), .val (.int m), .val (.int e1), .val (.int e2), .val (.int s1), .val (.int s2), .val (.int l1), .val (.int (1 : Int32)), .unset, .unset, .unset, .unset, .unset, .unset, .unset, .unset, .unset, .unset] at_73 rfl rfl ?_
      exact g75 _ _
  refine Go.lloadN 1 at_0 rfl rfl ?_
  refine Go.bipush 3 (32 : Int32) at_1 rfl (by decide) ?_
  refine Go.lshr 4 (um >>> (((32 : Int32)).toInt64 &&& 63)) at_3 rfl rfl ?_
  refine Go.l2i 5 u at_4 rfl h_u ?_
  refine Go.istore 7 #[.val (.long um), .second, .val (.int endT), .val (.long ends), .second, .val (.long steps), .second, .val (.long fast), .second, .val (.long eff), .second, .val (.int u), .unset, .unset, .unset, .unset, .unset, .unset, .unset, .unset, .unset, .unset, .unset, .unset, .unset, .unset, .unset, .unset, .unset] at_5 rfl rfl ?_
  refine Go.lloadN 8 at_7 rfl rfl ?_
  refine Go.l2i 9 m at_8 rfl h_m ?_
  refine Go.istore 11 #[.val (.long um), .second, .val (.int endT), .val (.long ends), .second, .val (.long steps), .second, .val (.long fast), .second, .val (.long eff), .second, .val (.int u), .val (.int m), .unset, .unset, .unset, .unset, .unset, .unset, .unset, .unset, .unset, .unset, .unset, .unset, .unset, .unset, .unset, .unset] at_9 rfl rfl ?_
  refine Go.lloadN 12 at_11 rfl rfl ?_
  refine Go.bipush 14 (32 : Int32) at_12 rfl (by decide) ?_
  refine Go.lshr 15 (ends >>> (((32 : Int32)).toInt64 &&& 63)) at_14 rfl rfl ?_
  refine Go.l2i 16 e1 at_15 rfl h_e1 ?_
  refine Go.istore 18 #[.val (.long um), .second, .val (.int endT), .val (.long ends), .second, .val (.long steps), .second, .val (.long fast), .second, .val (.long eff), .second, .val (.int u), .val (.int m), .val (.int e1), .unset, .unset, .unset, .unset, .unset, .unset, .unset, .unset, .unset, .unset, .unset, .unset, .unset, .unset, .unset] at_16 rfl rfl ?_
  refine Go.lloadN 19 at_18 rfl rfl ?_
  refine Go.l2i 20 e2 at_19 rfl h_e2 ?_
  refine Go.istore 22 #[.val (.long um), .second, .val (.int endT), .val (.long ends), .second, .val (.long steps), .second, .val (.long fast), .second, .val (.long eff), .second, .val (.int u), .val (.int m), .val (.int e1), .val (.int e2), .unset, .unset, .unset, .unset, .unset, .unset, .unset, .unset, .unset, .unset, .unset, .unset, .unset, .unset] at_20 rfl rfl ?_
  refine Go.lload 24 at_22 rfl rfl ?_
  refine Go.l2i 25 ((steps).toInt32) at_24 rfl rfl ?_
  refine Go.i2s 26 s1 at_25 rfl h_s1 ?_
  refine Go.istore 28 #[.val (.long um), .second, .val (.int endT), .val (.long ends), .second, .val (.long steps), .second, .val (.long fast), .second, .val (.long eff), .second, .val (.int u), .val (.int m), .val (.int e1), .val (.int e2), .val (.int s1), .unset, .unset, .unset, .unset, .unset, .unset, .unset, .unset, .unset, .unset, .unset, .unset, .unset] at_26 rfl rfl ?_
  refine Go.lload 30 at_28 rfl rfl ?_
  refine Go.bipush 32 (16 : Int32) at_30 rfl (by decide) ?_
  refine Go.lushr 33 (XT.ushrL steps (16 : Int32)) at_32 rfl rfl ?_
  refine Go.l2i 34 (((XT.ushrL steps (16 : Int32))).toInt32) at_33 rfl rfl ?_
  refine Go.i2s 35 s2 at_34 rfl h_s2 ?_
  refine Go.istore 37 #[.val (.long um), .second, .val (.int endT), .val (.long ends), .second, .val (.long steps), .second, .val (.long fast), .second, .val (.long eff), .second, .val (.int u), .val (.int m), .val (.int e1), .val (.int e2), .val (.int s1), .val (.int s2), .unset, .unset, .unset, .unset, .unset, .unset, .unset, .unset, .unset, .unset, .unset, .unset] at_35 rfl rfl ?_
  refine Go.lload 39 at_37 rfl rfl ?_
  refine Go.bipush 41 (32 : Int32) at_39 rfl (by decide) ?_
  refine Go.lushr 42 (XT.ushrL steps (32 : Int32)) at_41 rfl rfl ?_
  refine Go.lconst 43 (1 : Int64) at_42 rfl (by decide) ?_
  refine Go.land 44 ((XT.ushrL steps (32 : Int32)) &&& (1 : Int64)) at_43 rfl rfl ?_
  refine Go.lconst 45 (0 : Int64) at_44 rfl (by decide) ?_
  refine Go.lcmp 46 (XT.cmpL ((XT.ushrL steps (32 : Int32)) &&& (1 : Int64)) (0 : Int64)) at_45 rfl rfl ?_
  refine Go.ifCB 53 49 at_46 (by decide) (by decide) rfl (fun (hc : ((XT.cmpL ((XT.ushrL steps (32 : Int32)) &&& (1 : Int64)) (0 : Int64))).toInt = 0) => ?_) (fun (hc : ((XT.cmpL ((XT.ushrL steps (32 : Int32)) &&& (1 : Int64)) (0 : Int64))).toInt ≠ 0) => ?_)
  · refine Go.iconst 54 (0 : Int32) at_53 rfl (by decide) ?_
    refine Go.istore 56 #[.val (.long um), .second, .val (.int endT), .val (.long ends), .second, .val (.long steps), .second, .val (.long fast), .second, .val (.long eff), .second, .val (.int u), .val (.int m), .val (.int e1), .val (.int e2), .val (.int s1), .val (.int s2), .val (.int (0 : Int32)), .unset, .unset, .unset, .unset, .unset, .unset, .unset, .unset, .unset, .unset, .unset] at_54 rfl rfl ?_
    exact g56 _
  · refine Go.iconst 50 (1 : Int32) at_49 rfl (by decide) ?_
    refine Go.goto 54 at_50 (by decide) (by decide) ?_
    refine Go.istore 56 #[.val (.long um), .second, .val (.int endT), .val (.long ends), .second, .val (.long steps), .second, .val (.long fast), .second, .val (.long eff), .second, .val (.int u), .val (.int m), .val (.int e1), .val (.int e2), .val (.int s1), .val (.int s2), .val (.int (1 : Int32)), .unset, .unset, .unset, .unset, .unset, .unset, .unset, .unset, .unset, .unset, .unset] at_54 rfl rfl ?_
    exact g56 _
set_option maxRecDepth 65536 in
set_option maxHeartbeats 40000000 in
theorem comes_1 {Post : Tables → Env → Array Value → State → Outcome → State → Prop} (hpost : ∀ tb e args s v u, (limb_1_1.after args s (.returned v) u = true ∧ limb_1_2.after args s (.returned v) u = true ∧ True) → FrameEnd s (.returned v) u (Jvm.fieldLocs frame_1_writes args s ++ Jvm.arrayLocs frame_1_arrays args s ++ Jvm.staticLocs frame_1_statics s) 16 128 → Post tb e args s (.returned v) u) :
    ArmFor flags0 classFile x code maxLocals ret World_1 tables_1 room_1 Calls_1 rest_1 Pre_1 Post := by
  intro l hfl _ _ p e ha hc hk s m args below hf hA hF happ hP
  obtain ⟨hcalls, hrest, hpre⟩ := hP
  obtain ⟨-, -, -, hnamed, -, -, -, hat⟩ := (Spec.applies_iff hf).mp happ
  obtain ⟨hg, hn⟩ := and_e (Cond.before_iff.mp (show (Jvm.Cond.and given_1 narrow_1).before args s = true from hpre))
  obtain ⟨h1, g0⟩ := and_e hg
  obtain ⟨k0, g1⟩ := and_e g0
  obtain ⟨k1, g2⟩ := and_e g1
  obtain ⟨k2, g3⟩ := and_e g2
  obtain ⟨k3, g4⟩ := and_e g3
  obtain ⟨k4, g5⟩ := and_e g4
  obtain ⟨w0, w1, w2, w3, w4, w5, rfl⟩ : ∃ w0 w1 w2 w3 w4 w5 : Value, args = #[w0, w1, w2, w3, w4, w5] := by
    have hs : args.size = 6 := by simpa [Cond.value, given_1] using h1
    obtain ⟨L⟩ := args
    match L, hs with
    | [w0, w1, w2, w3, w4, w5], _ => exact ⟨w0, w1, w2, w3, w4, w5, rfl⟩
  have hw := fun d (hd : d ∈ tables_1) => atoms_spec (ws := Jvm.Cond.code x code maxLocals ret :: tables_1) hat d (List.mem_cons_of_mem _ hd)
  obtain ⟨i0, e0⟩ := isL_v k0
  obtain rfl : w0 = (.long i0) := Option.some.inj e0
  obtain ⟨i1, e1⟩ := is_v k1
  obtain rfl : w1 = (.int i1) := Option.some.inj e1
  obtain ⟨i2, e2⟩ := isL_v k2
  obtain rfl : w2 = (.long i2) := Option.some.inj e2
  obtain ⟨i3, e3⟩ := isL_v k3
  obtain rfl : w3 = (.long i3) := Option.some.inj e3
  obtain ⟨i4, e4⟩ := isL_v k4
  obtain rfl : w4 = (.long i4) := Option.some.inj e4
  obtain ⟨i5, e5⟩ := isL_v g5
  obtain rfl : w5 = (.long i5) := Option.some.inj e5
  obtain ⟨n, o, h1, h2, h3, _, L, rfl, ⟨rfl, -, N⟩, hq⟩ := (law_go l s _ hw i0 i1 i2 i3 i4 i5 (h := s.heap) (n0 := s.heap.size)).met (ws := tables_1) (Q := Q1) law_pn (Nat.le_refl s.heap.size) (ef_0_JIJJJJ i0 i1 i2 i3 i4 i5) p e ha hc hk s m _ below hf ((Spec.applies_iff_loose hf).mp happ).1 ⟨rfl, State.WarmedH.refl s, rfl⟩ trivial
  refine ⟨n, _, h1, h2, h3, hpost _ _ _ _ _ _ ⟨Cond.after_iff.mpr rfl, Cond.after_iff.mpr (eq_i res_at (Term.int_eval (1)) rfl), trivial⟩ ⟨hq.1, hq.2.1, (hq.2.2.sift fun y hy => Or.inr (N y hy)).mono (by decide) (by decide)⟩⟩
theorem main_1_1 : Claimed_1_1 := comes_1 fun _ _ _ _ _ _ h hF => ⟨h.1, hF⟩
theorem main_1_2 : Claimed_1_2 := comes_1 fun _ _ _ _ _ _ h hF => ⟨h.2.1, hF⟩
end Jvm.Pilot.@@N@@
namespace Jvm.Pilot.@@N@@
open Jvm Jvm.ClassFile Sem Op Lib Jvm.Free Jvm.Stand Jvm.Pilot.@@N@@.Jvm.D
/-! MADE BY PROGRAM (witnessworld.py) out of the Statement's table words and the real class files: 9 classes; the members and pool entries that the words name. The judged class is class 1, her method 2. -/
namespace start1
open Jvm.ClassFile
def u (s : String) : CpInfo := .utf8 (stringToUtf16 s)
/-- a pool by its gaps: so many unusable entries, then the entry; so many at the end -/
def gap : Nat → List CpInfo → List CpInfo
  | 0, r => r
  | n + 1, r => .unusable :: gap n r
def poolList (es : List (Nat × CpInfo)) (last : Nat) : List CpInfo := es.foldr (fun e r => gap e.1 (e.2 :: r)) (gap last [])
def pool (es : List (Nat × CpInfo)) (last : Nat) : Array CpInfo := ⟨poolList es last⟩
def fileOf (pool : Array CpInfo) (this : Nat) (attrs : Array Attribute := #[]) (ms : Array MethodInfo := #[]) (fl : Nat := 33) (sup : Nat := 0) (ifs : Array Nat := #[]) (fds : Array FieldInfo := #[]) : ClassFile where
  minorVersion := 0
  majorVersion := 65
  constantPool := pool
  accessFlags := fl
  thisClass := this
  superClass := sup
  interfaces := ifs
  fields := fds
  methods := ms
  attributes := attrs
def plain (name : String) (sup : Option ClassId) : Class where
  name := name
  kind := .ordinary
  loader := none
  accessFlags := 33
  super := sup
  interfaces := #[]
  cf := none
  fields := #[]
  methods := #[]
  instanceTypes := #[]
  staticTypes := #[]
  resolved := #[]
  callSites := []
  init := .initialized
  statics := none
  mirror := none

def pool0 : Array CpInfo := pool [(5, u "<init>"), (0, u "()V"), (1, .class_ 10), (1, u "java/lang/Object")] 113

def k0c0 : Code := { maxStack := 0, maxLocals := 1, code := object_method_1_code, exceptionTable := #[], attributes := #[] }
def k0m0 : Method := { name := "<init>", desc := "()V", sig := { parameters := [], returnType := none }, accessFlags := 1, code := some k0c0 }
/-- java/lang/Object -/
def k0 : Class := { plain "java/lang/Object" none with
  accessFlags := 33
  interfaces := #[]
  cf := some (fileOf pool0 8 #[] #[{ accessFlags := 1, nameIndex := 5, descriptorIndex := 6, attributes := #[] }] 33 0 #[] #[])
  fields := #[]
  methods := #[k0m0]
  instanceTypes := #[]
  staticTypes := #[]
  resolved := Array.replicate 124 none
  statics := none }

def pool1 : Array CpInfo := pool [(2, .class_ 4), (1, u "java/lang/Object"), (0, u "<init>"), (0, u "()V"), (0, .long 64), (1, .long 125), (1, .class_ 12), (0, u "com/example/orderly_crowd/orderlycrowd/fluid/IntegratorChoice"), (0, .methodref 11 14), (0, .nameAndType 5 15), (0, u "(IID)V"), (0, .double 4620693217682128896), (1, .methodref 11 19), (0, .nameAndType 20 21), (0, u "heldBack"), (0, u "(DDZDJ)Z"), (0, .methodref 11 23), (0, .nameAndType 24 25), (0, u "stiffButTooLarge"), (0, u "()Z"), (0, .methodref 27 28), (0, .class_ 29), (0, .nameAndType 30 31), (0, u "com/example/orderly_crowd/orderlycrowd/fluid/IntegratorChoiceHeldBackPinLaw"), (0, u "held"), (0, u "(IIII)Z"), (0, .methodref 11 33), (0, .nameAndType 34 35), (0, u "heldBackStep"), (0, u "()D"), (0, .methodref 11 37), (0, .nameAndType 38 25), (0, u "stiff"), (3, u "law"), (0, u "(JIJJJJ)Z")] 2

def k1m0 : Method := { name := "<init>", desc := "()V", sig := { parameters := [], returnType := none }, accessFlags := 1, code := none }
def k1c1 : Code := { maxStack := 6, maxLocals := 4, code := method_2_code, exceptionTable := #[], attributes := #[] }
def k1m1 : Method := { name := "held", desc := "(IIII)Z", sig := { parameters := [.int, .int, .int, .int], returnType := some .boolean }, accessFlags := 10, code := some k1c1 }
def k1c2 : Code := { maxStack := 10, maxLocals := 29, code := code, exceptionTable := #[], attributes := #[] }
def k1m2 : Method := { name := "law", desc := "(JIJJJJ)Z", sig := { parameters := [.long, .int, .long, .long, .long, .long], returnType := some .boolean }, accessFlags := 9, code := some k1c2 }
/-- com/example/orderly_crowd/orderlycrowd/fluid/IntegratorChoiceHeldBackPinLaw -/
def k1 : Class := { plain "com/example/orderly_crowd/orderlycrowd/fluid/IntegratorChoiceHeldBackPinLaw" (some 0) with
  accessFlags := 49
  interfaces := #[]
  cf := some (fileOf pool1 27 #[] #[{ accessFlags := 1, nameIndex := 5, descriptorIndex := 6, attributes := #[] }, { accessFlags := 10, nameIndex := 30, descriptorIndex := 31, attributes := #[] }, { accessFlags := 9, nameIndex := 42, descriptorIndex := 43, attributes := #[] }] 49 2 #[] #[])
  fields := #[]
  methods := #[k1m0, k1m1, k1m2]
  instanceTypes := #[]
  staticTypes := #[]
  resolved := Array.replicate 46 none
  statics := none }

def pool2 : Array CpInfo := pool [(1, .methodref 2 3), (0, .class_ 4), (0, .nameAndType 5 6), (0, u "java/lang/Object"), (0, u "<init>"), (0, u "()V"), (0, .class_ 8), (0, u "com/example/orderly_crowd/orderlycrowd/fluid/IntegratorChoice"), (0, .long 32), (1, .fieldref 7 12), (0, .nameAndType 13 14), (0, u "patience"), (0, u "J"), (0, .fieldref 7 16), (0, .nameAndType 17 18), (0, u "unknowns"), (0, u "I"), (0, .fieldref 7 20), (0, .nameAndType 21 18), (0, u "mostStiffUnknowns"), (0, .fieldref 7 23), (0, .nameAndType 24 25), (0, u "endTime"), (0, u "D"), (2, .fieldref 7 29), (0, .nameAndType 30 31), (0, u "stiff"), (0, u "Z"), (0, .fieldref 7 33), (0, .nameAndType 34 25), (0, u "heldBackStep"), (2, .fieldref 7 38), (0, .nameAndType 39 31), (0, u "stiffButTooLarge"), (0, .double 4652007308841189376), (1, .fieldref 7 43), (0, .nameAndType 44 14), (0, u "heldBackSteps"), (0, .fieldref 7 46), (0, .nameAndType 47 25), (0, u "heldBackPace"), (2, u "stiffSteps"), (2, u "trialFrom"), (2, u "trialEffort"), (2, u "HELD_BACK"), (3, u "FIRST_PATIENCE"), (0, u "STEPS_AHEAD"), (0, u "TRIAL_STEPS"), (1, u "SHORTER_FOR_HANDBACK"), (0, u "MATRIX_OPERATIONS_TO_A_RATE"), (0, u "(IID)V"), (5, u "()Z"), (0, u "()D"), (1, u "heldBack"), (0, u "(DDZDJ)Z")] 8

def k2c0 : Code := { maxStack := 3, maxLocals := 5, code := prog_19_method_1_code, exceptionTable := #[], attributes := #[] }
def k2m0 : Method := { name := "<init>", desc := "(IID)V", sig := { parameters := [.int, .int, .double], returnType := none }, accessFlags := 0, code := some k2c0 }
def k2c1 : Code := { maxStack := 1, maxLocals := 1, code := prog_19_method_4_code, exceptionTable := #[], attributes := #[] }
def k2m1 : Method := { name := "stiff", desc := "()Z", sig := { parameters := [], returnType := some .boolean }, accessFlags := 0, code := some k2c1 }
def k2c2 : Code := { maxStack := 2, maxLocals := 1, code := prog_19_method_5_code, exceptionTable := #[], attributes := #[] }
def k2m2 : Method := { name := "heldBackStep", desc := "()D", sig := { parameters := [], returnType := some .double }, accessFlags := 0, code := some k2c2 }
def k2c3 : Code := { maxStack := 1, maxLocals := 1, code := prog_19_method_7_code, exceptionTable := #[], attributes := #[] }
def k2m3 : Method := { name := "stiffButTooLarge", desc := "()Z", sig := { parameters := [], returnType := some .boolean }, accessFlags := 0, code := some k2c3 }
def k2c4 : Code := { maxStack := 6, maxLocals := 12, code := prog_19_method_8_code, exceptionTable := #[], attributes := #[] }
def k2m4 : Method := { name := "heldBack", desc := "(DDZDJ)Z", sig := { parameters := [.double, .double, .boolean, .double, .long], returnType := some .boolean }, accessFlags := 0, code := some k2c4 }
/-- com/example/orderly_crowd/orderlycrowd/fluid/IntegratorChoice -/
def k2 : Class := { plain "com/example/orderly_crowd/orderlycrowd/fluid/IntegratorChoice" (some 0) with
  accessFlags := 48
  interfaces := #[]
  cf := some (fileOf pool2 7 #[] #[{ accessFlags := 0, nameIndex := 5, descriptorIndex := 69, attributes := #[] }, { accessFlags := 0, nameIndex := 30, descriptorIndex := 75, attributes := #[] }, { accessFlags := 0, nameIndex := 34, descriptorIndex := 76, attributes := #[] }, { accessFlags := 0, nameIndex := 39, descriptorIndex := 75, attributes := #[] }, { accessFlags := 0, nameIndex := 78, descriptorIndex := 79, attributes := #[] }] 48 2 #[] #[{ accessFlags := 26, nameIndex := 59, descriptorIndex := 25, attributes := #[] }, { accessFlags := 26, nameIndex := 63, descriptorIndex := 14, attributes := #[] }, { accessFlags := 26, nameIndex := 64, descriptorIndex := 25, attributes := #[] }, { accessFlags := 26, nameIndex := 65, descriptorIndex := 18, attributes := #[] }, { accessFlags := 26, nameIndex := 67, descriptorIndex := 25, attributes := #[] }, { accessFlags := 26, nameIndex := 68, descriptorIndex := 14, attributes := #[] }, { accessFlags := 18, nameIndex := 17, descriptorIndex := 18, attributes := #[] }, { accessFlags := 18, nameIndex := 21, descriptorIndex := 18, attributes := #[] }, { accessFlags := 18, nameIndex := 24, descriptorIndex := 25, attributes := #[] }, { accessFlags := 2, nameIndex := 30, descriptorIndex := 31, attributes := #[] }, { accessFlags := 2, nameIndex := 34, descriptorIndex := 25, attributes := #[] }, { accessFlags := 2, nameIndex := 47, descriptorIndex := 25, attributes := #[] }, { accessFlags := 2, nameIndex := 50, descriptorIndex := 18, attributes := #[] }, { accessFlags := 2, nameIndex := 53, descriptorIndex := 25, attributes := #[] }, { accessFlags := 2, nameIndex := 56, descriptorIndex := 14, attributes := #[] }, { accessFlags := 2, nameIndex := 13, descriptorIndex := 14, attributes := #[] }, { accessFlags := 2, nameIndex := 44, descriptorIndex := 14, attributes := #[] }, { accessFlags := 2, nameIndex := 39, descriptorIndex := 31, attributes := #[] }])
  fields := #[{ name := "HELD_BACK", type := .double, accessFlags := 26, slot := 0, constantValue := 0 }, { name := "FIRST_PATIENCE", type := .long, accessFlags := 26, slot := 1, constantValue := 0 }, { name := "STEPS_AHEAD", type := .double, accessFlags := 26, slot := 2, constantValue := 0 }, { name := "TRIAL_STEPS", type := .int, accessFlags := 26, slot := 3, constantValue := 0 }, { name := "SHORTER_FOR_HANDBACK", type := .double, accessFlags := 26, slot := 4, constantValue := 0 }, { name := "MATRIX_OPERATIONS_TO_A_RATE", type := .long, accessFlags := 26, slot := 5, constantValue := 0 }, { name := "unknowns", type := .int, accessFlags := 18, slot := 0, constantValue := 0 }, { name := "mostStiffUnknowns", type := .int, accessFlags := 18, slot := 1, constantValue := 0 }, { name := "endTime", type := .double, accessFlags := 18, slot := 2, constantValue := 0 }, { name := "stiff", type := .boolean, accessFlags := 2, slot := 3, constantValue := 0 }, { name := "heldBackStep", type := .double, accessFlags := 2, slot := 4, constantValue := 0 }, { name := "heldBackPace", type := .double, accessFlags := 2, slot := 5, constantValue := 0 }, { name := "stiffSteps", type := .int, accessFlags := 2, slot := 6, constantValue := 0 }, { name := "trialFrom", type := .double, accessFlags := 2, slot := 7, constantValue := 0 }, { name := "trialEffort", type := .long, accessFlags := 2, slot := 8, constantValue := 0 }, { name := "patience", type := .long, accessFlags := 2, slot := 9, constantValue := 0 }, { name := "heldBackSteps", type := .long, accessFlags := 2, slot := 10, constantValue := 0 }, { name := "stiffButTooLarge", type := .boolean, accessFlags := 2, slot := 11, constantValue := 0 }]
  methods := #[k2m0, k2m1, k2m2, k2m3, k2m4]
  instanceTypes := #[.int, .int, .double, .boolean, .double, .double, .int, .double, .long, .long, .long, .boolean]
  staticTypes := #[.double, .long, .double, .int, .double, .long]
  resolved := Array.replicate 88 none
  statics := none }

def pool3 : Array CpInfo := pool [(1, u "java/lang/Cloneable"), (0, .class_ 1), (0, u "java/lang/Object"), (0, .class_ 3)] 3

/-- java/lang/Cloneable -/
def k3 : Class := { plain "java/lang/Cloneable" (some 0) with
  accessFlags := 1537
  interfaces := #[]
  cf := some (fileOf pool3 2 #[] #[] 1537 4 #[] #[])
  fields := #[]
  methods := #[]
  instanceTypes := #[]
  staticTypes := #[]
  resolved := Array.replicate 8 none
  statics := none }

def pool4 : Array CpInfo := pool [(1, u "java/io/Serializable"), (0, .class_ 1), (0, u "java/lang/Object"), (0, .class_ 3)] 3

/-- java/io/Serializable -/
def k4 : Class := { plain "java/io/Serializable" (some 0) with
  accessFlags := 1537
  interfaces := #[]
  cf := some (fileOf pool4 2 #[] #[] 1537 4 #[] #[])
  fields := #[]
  methods := #[]
  instanceTypes := #[]
  staticTypes := #[]
  resolved := Array.replicate 8 none
  statics := none }

/-- the primitive byte -/
def k5 : Class := { plain "byte" none with kind := .primitive 'B', accessFlags := 0x411 }
/-- [B -/
def k6 : Class := { plain "[B" (some 0) with kind := .array 5 .byte, interfaces := #[3, 4], accessFlags := 1041 }

/-- the primitive int -/
def k7 : Class := { plain "int" none with kind := .primitive 'I', accessFlags := 0x411 }
/-- [I -/
def k8 : Class := { plain "[I" (some 0) with kind := .array 7 .int, interfaces := #[3, 4], accessFlags := 1041 }

def heap : Heap := #[]
def classes : Array Class := #[k0, k1, k2, k3, k4, k5, k6, k7, k8]
def interned : List (Array UInt16 × Addr) := []
def slotsUsed : Nat := 0
def theMethod : MethodId := ⟨1, 2⟩
def args0 : Array Value := #[.long 5, .int 3, .long 4, .long 5, .long 6, .long 7]
def aboutOver (below : List Frame) : State where
  vm := { classes := classes, interned := interned.toArray }
  heap := heap
  slotsUsed := slotsUsed
  threads := #[{ frames := .invoking theMethod args0 :: below }]
def below0 : List Frame := [.native { method := ⟨0, 0⟩, args := #[] }]
def about1 : State := aboutOver below0
def p0 : Program := .bare "" "" ""
def e0 : Env := launch0.env 0 0 0
theorem w_frames : about1.frames = Frame.invoking theMethod args0 :: below0 := rfl
set_option maxRecDepth 65536 in
theorem w_args : argsFit about1.vm theMethod args0 = true := by decide +kernel
set_option maxRecDepth 65536 in
theorem w_heap : heapFits about1 = true := by decide +kernel
set_option maxRecDepth 65536 in
theorem w_runnable : about1.curStatus? = some .runnable := by decide +kernel
set_option maxRecDepth 65536 in
theorem w_alone : about1.alone = true := by decide +kernel
set_option maxRecDepth 65536 in
theorem w_named : about1.methodNamed? x = some theMethod := by decide +kernel
set_option maxRecDepth 65536 in
theorem w_hears : about1.hears theMethod below0 = true := by decide +kernel
set_option maxRecDepth 65536 in
theorem w_ripe : about1.ripe theMethod args0 below0 = true := by decide +kernel
theorem w_running : about1.status = .running := rfl
set_option maxRecDepth 65536 in
theorem w_room : about1.hasRoom e0.platform room_1 = true :=
  launch0.hasRoom_least _ room_1 (by decide +kernel) (by decide +kernel) (by decide +kernel) (by decide +kernel) (by decide +kernel) (by decide +kernel)
theorem allAtoms_all (ts : List Jvm.Cond) (a : Array Jvm.Value) (st : Jvm.State) : (allAtoms ts).before a st = ts.all (fun c => c.before a st) := by
  induction ts with
  | nil => rfl
  | cons c t ih =>
    show (Jvm.Cond.and c (allAtoms t)).before a st = _
    rw [Jvm.Cond.before_and, ih, List.all_cons]
def words1 : List Jvm.Cond := Jvm.Cond.code x code maxLocals ret :: tables_1
/-- a 'code' word, met by the world's own term for the bytes: nothing is compared byte by byte -/
theorem code_word {y : MethodName} {bytes : ByteArray} {mx : Nat} {rt : Option FieldType} {a : Array Value} {s : State} {m : MethodId} {meth : Method} {c : Code} (h1 : s.methodNamed? y = some m) (h2 : s.vm.method? m = some meth) (h3 : meth.code = some c) (h4 : c.code = bytes)
    (h5 : (c.maxLocals == mx && c.exceptionTable.isEmpty && decide (c.maxStack ≤ mostOperands) && decide (meth.sig.returnType = rt) && !meth.locks && decide (parseMethodDescriptor y.desc = some meth.sig)) = true) : (Jvm.Cond.code y bytes mx rt).before a s = true := by
  simp only [Bool.and_eq_true, beq_iff_eq, Bool.not_eq_true', decide_eq_true_eq] at h5
  obtain ⟨⟨⟨⟨⟨g1, g2⟩, g3⟩, g4⟩, g5⟩, g6⟩ := h5
  simp [Cond.before, Cond.holds, Cond.value, h1, h2, h3, h4, g1, g2, g3, g4, g5, g6]
def isCode : Jvm.Cond → Bool
  | .code _ _ _ _ => true
  | _ => false
theorem all_split {L : List Jvm.Cond} {P : Jvm.Cond → Bool} (h1 : L.all (fun c => isCode c || P c) = true) (h2 : ∀ c ∈ L.filter isCode, P c = true) : L.all P = true := by
  refine List.all_eq_true.mpr fun c hc => ?_
  have h := List.all_eq_true.mp h1 c hc
  rcases Bool.eq_false_or_eq_true (isCode c) with hi | hi
  · exact h2 c (List.mem_filter.mpr ⟨hc, hi⟩)
  · simpa [hi] using h
set_option maxRecDepth 65536 in
theorem w_c0 : (Jvm.Cond.code x code maxLocals ret).before args0 about1 = true := code_word (m := ⟨1, 2⟩) (meth := k1m2) (c := k1c2) (by decide +kernel) rfl rfl rfl (by decide +kernel)
set_option maxRecDepth 65536 in
theorem w_c1 : (Jvm.Cond.code ({ cls := "com/example/orderly_crowd/orderlycrowd/fluid/IntegratorChoice", name := "<init>", desc := "(IID)V" } : Jvm.MethodName) prog_19_method_1_code (5 : Nat) (Option.none : Option Jvm.ClassFile.FieldType)).before args0 about1 = true := code_word (m := ⟨2, 0⟩) (meth := k2m0) (c := k2c0) (by decide +kernel) rfl rfl rfl (by decide +kernel)
set_option maxRecDepth 65536 in
theorem w_c2 : (Jvm.Cond.code ({ cls := "java/lang/Object", name := "<init>", desc := "()V" } : Jvm.MethodName) object_method_1_code (1 : Nat) (Option.none : Option Jvm.ClassFile.FieldType)).before args0 about1 = true := code_word (m := ⟨0, 0⟩) (meth := k0m0) (c := k0c0) (by decide +kernel) rfl rfl rfl (by decide +kernel)
set_option maxRecDepth 65536 in
theorem w_c3 : (Jvm.Cond.code ({ cls := "com/example/orderly_crowd/orderlycrowd/fluid/IntegratorChoice", name := "heldBack", desc := "(DDZDJ)Z" } : Jvm.MethodName) prog_19_method_8_code (12 : Nat) (Option.some Jvm.ClassFile.FieldType.boolean)).before args0 about1 = true := code_word (m := ⟨2, 4⟩) (meth := k2m4) (c := k2c4) (by decide +kernel) rfl rfl rfl (by decide +kernel)
set_option maxRecDepth 65536 in
theorem w_c4 : (Jvm.Cond.code ({ cls := "com/example/orderly_crowd/orderlycrowd/fluid/IntegratorChoice", name := "stiffButTooLarge", desc := "()Z" } : Jvm.MethodName) prog_19_method_7_code (1 : Nat) (Option.some Jvm.ClassFile.FieldType.boolean)).before args0 about1 = true := code_word (m := ⟨2, 3⟩) (meth := k2m3) (c := k2c3) (by decide +kernel) rfl rfl rfl (by decide +kernel)
set_option maxRecDepth 65536 in
theorem w_c5 : (Jvm.Cond.code ({ cls := "com/example/orderly_crowd/orderlycrowd/fluid/IntegratorChoiceHeldBackPinLaw", name := "held", desc := "(IIII)Z" } : Jvm.MethodName) method_2_code (4 : Nat) (Option.some Jvm.ClassFile.FieldType.boolean)).before args0 about1 = true := code_word (m := ⟨1, 1⟩) (meth := k1m1) (c := k1c1) (by decide +kernel) rfl rfl rfl (by decide +kernel)
set_option maxRecDepth 65536 in
theorem w_c6 : (Jvm.Cond.code ({ cls := "com/example/orderly_crowd/orderlycrowd/fluid/IntegratorChoice", name := "heldBackStep", desc := "()D" } : Jvm.MethodName) prog_19_method_5_code (1 : Nat) (Option.some Jvm.ClassFile.FieldType.double)).before args0 about1 = true := code_word (m := ⟨2, 2⟩) (meth := k2m2) (c := k2c2) (by decide +kernel) rfl rfl rfl (by decide +kernel)
set_option maxRecDepth 65536 in
theorem w_c7 : (Jvm.Cond.code ({ cls := "com/example/orderly_crowd/orderlycrowd/fluid/IntegratorChoice", name := "stiff", desc := "()Z" } : Jvm.MethodName) prog_19_method_4_code (1 : Nat) (Option.some Jvm.ClassFile.FieldType.boolean)).before args0 about1 = true := code_word (m := ⟨2, 1⟩) (meth := k2m1) (c := k2c1) (by decide +kernel) rfl rfl rfl (by decide +kernel)
def codes1 : List Jvm.Cond := [Jvm.Cond.code x code maxLocals ret, Jvm.Cond.code ({ cls := "com/example/orderly_crowd/orderlycrowd/fluid/IntegratorChoice", name := "<init>", desc := "(IID)V" } : Jvm.MethodName) prog_19_method_1_code (5 : Nat) (Option.none : Option Jvm.ClassFile.FieldType), Jvm.Cond.code ({ cls := "java/lang/Object", name := "<init>", desc := "()V" } : Jvm.MethodName) object_method_1_code (1 : Nat) (Option.none : Option Jvm.ClassFile.FieldType), Jvm.Cond.code ({ cls := "com/example/orderly_crowd/orderlycrowd/fluid/IntegratorChoice", name := "heldBack", desc := "(DDZDJ)Z" } : Jvm.MethodName) prog_19_method_8_code (12 : Nat) (Option.some Jvm.ClassFile.FieldType.boolean), Jvm.Cond.code ({ cls := "com/example/orderly_crowd/orderlycrowd/fluid/IntegratorChoice", name := "stiffButTooLarge", desc := "()Z" } : Jvm.MethodName) prog_19_method_7_code (1 : Nat) (Option.some Jvm.ClassFile.FieldType.boolean), Jvm.Cond.code ({ cls := "com/example/orderly_crowd/orderlycrowd/fluid/IntegratorChoiceHeldBackPinLaw", name := "held", desc := "(IIII)Z" } : Jvm.MethodName) method_2_code (4 : Nat) (Option.some Jvm.ClassFile.FieldType.boolean), Jvm.Cond.code ({ cls := "com/example/orderly_crowd/orderlycrowd/fluid/IntegratorChoice", name := "heldBackStep", desc := "()D" } : Jvm.MethodName) prog_19_method_5_code (1 : Nat) (Option.some Jvm.ClassFile.FieldType.double), Jvm.Cond.code ({ cls := "com/example/orderly_crowd/orderlycrowd/fluid/IntegratorChoice", name := "stiff", desc := "()Z" } : Jvm.MethodName) prog_19_method_4_code (1 : Nat) (Option.some Jvm.ClassFile.FieldType.boolean)]
set_option maxRecDepth 65536 in
theorem codes_eq : words1.filter isCode = codes1 := rfl
theorem w_codes : ∀ c ∈ words1.filter isCode, c.before args0 about1 = true := by
  rw [codes_eq]
  intro c hc
  simp only [codes1, List.mem_cons, List.not_mem_nil, or_false] at hc
  rcases hc with rfl | rfl | rfl | rfl | rfl | rfl | rfl | rfl
  · exact w_c0
  · exact w_c1
  · exact w_c2
  · exact w_c3
  · exact w_c4
  · exact w_c5
  · exact w_c6
  · exact w_c7
set_option maxRecDepth 65536 in
theorem w_t1 : (words1.take 24).all (fun c => isCode c || c.before args0 about1) = true := by decide +kernel
set_option maxRecDepth 65536 in
theorem w_t2 : ((words1.drop 24).take 24).all (fun c => isCode c || c.before args0 about1) = true := by decide +kernel
set_option maxRecDepth 65536 in
theorem w_t3 : ((words1.drop 24).drop 24).all (fun c => isCode c || c.before args0 about1) = true := by decide +kernel
theorem w_tables : (allAtoms (Jvm.Cond.code x code maxLocals ret :: tables_1)).before args0 about1 = true := by
  rw [allAtoms_all]
  show words1.all (fun c => c.before args0 about1) = true
  refine all_split ?_ w_codes
  rw [← List.take_append_drop 24 words1, List.all_append, w_t1, ← List.take_append_drop 24 (words1.drop 24), List.all_append, w_t2, w_t3]
  rfl
set_option maxRecDepth 65536 in
theorem w_case : (Jvm.Cond.and given_1 narrow_1).before args0 about1 = true := by decide +kernel
theorem w_applies : (headSpec (Jvm.Cond.code x code maxLocals ret :: tables_1) room_1).applies x e0.platform about1 = true :=
  (Spec.applies_iff w_frames).mpr ⟨w_running, w_runnable, w_alone, w_named, w_hears, w_ripe, w_room, w_tables⟩
theorem atStart : AtStart classFile x code maxLocals ret World_1 tables_1 room_1 Calls_1 rest_1 Pre_1 launch0 p0 e0 about1 theMethod args0 below0 :=
  ⟨lists_1, trivial, launch0.admits_env _ _ _, launch0.least_env, fairChoices_fair.cas, fairChoices_fair.clock, w_frames, w_args, w_heap, w_applies, trivial, trivial, w_case⟩
end start1
theorem witness_1 : WitnessClaimed_1 := ⟨start1.p0, start1.e0, start1.about1, start1.theMethod, start1.args0, start1.below0, start1.atStart⟩
end Jvm.Pilot.@@N@@
