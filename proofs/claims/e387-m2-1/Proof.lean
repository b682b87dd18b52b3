import JvmDerived
import JvmDerived.Pilot.@@N@@Statement
import JvmDerived.Pilot.@@N@@Code
set_option linter.unusedVariables false
set_option linter.unusedSimpArgs false
namespace Jvm.GoK
open Sem ClassFile Op Lib Jvm.Stand Jvm.Free Jvm.LawKit Jvm.RoadKit
/-- a body: its method, its bytes, how many locals, what it returns -/
abbrev Bdy : Type := MethodName × ByteArray × Nat × Option FieldType
/-- what is known all over the walk of one body -/
def Cx (p : Program) (s : State) (m : MethodId) (meth : Method) (c : Code) (Z : State) (B : Bdy) : Prop :=
  p.tables.exec = Jvm.exec ∧ Z.Warmed39 s.vm ∧ s.vm.findClass B.1.cls = some m.cls ∧ c.code = B.2.1 ∧ c.maxLocals = B.2.2.1 ∧ meth.sig.returnType = B.2.2.2 ∧ meth.locks = false ∧ meth.name = B.1.name ∧ Z.WarmedH s.vm ∧ s.methodNamed? B.1 = some m
/-- from pc, with these locals and this operand stack, over the heap h, the body B returns, and Q holds of what it returns and of the heap then; only cells from n0 on are written -/
def Go (l : Launch) (Z : State) (R : Room) (B : Bdy) (n0 : Nat) (Q : Option Value → Heap → Prop) (h : Heap) (cl sl pc : Nat) (Ls : Array Slot) (st : List Value) : Prop :=
  ∀ (p : Program) (e : Env) (s : State) (m : MethodId) (args : Array Value) (below : List Frame) (meth : Method) (c : Code) (T : State) (locs : List Loc),
    Stand p l e R s m args below meth c T locs cl sl → Cx p s m meth c Z B → Fr n0 locs → T.heap = h → n0 ≤ h.size →
    ∃ s₂ o, Steps p.tables e below (T.setTop (mkF m pc Ls st)) s₂ ∧ s₂.status = .running ∧ Ended s₂ below o ∧
      ∃ v L, o = .returned v ∧ (Q v s₂.heap ∧ n0 ≤ s₂.heap.size ∧ Fr n0 L) ∧ FrameEnd s o s₂ L R.cells R.slots
section Rules
variable {l : Launch} {Z : State} {R : Room} {B : Bdy} {n0 : Nat} {Q : Option Value → Heap → Prop} {h : Heap} {cl sl pc : Nat} {Ls : Array Slot} {st : List Value} {a0 : Array Value}
theorem Go.lift {pc' : Nat} {Ls' : Array Slot} {st' : List Value}
    (f : ∀ {p : Program} {e : Env} {below : List Frame} {T target : State} {m : MethodId} {c : Code}, At T m c below → p.tables.exec = Jvm.exec → c.code = B.2.1 → Steps p.tables e below (T.setTop (mkF m pc' Ls' st')) target → Steps p.tables e below (T.setTop (mkF m pc Ls st)) target)
    (k : Go l Z R B n0 Q h cl sl pc' Ls' st') : Go l Z R B n0 Q h cl sl pc Ls st := by
  intro p e s m args below meth c T locs X cx fr eT hn
  obtain ⟨s₂, o, h1, r⟩ := k _ _ _ _ _ _ _ _ _ _ X cx fr eT hn
  exact ⟨s₂, o, f X.here cx.1 cx.2.2.2.1 h1, r⟩
theorem Go.conseq {Q' : Option Value → Heap → Prop} (k : Go l Z R B n0 Q' h cl sl pc Ls st) (q : ∀ v h', Q' v h' → Q v h') : Go l Z R B n0 Q h cl sl pc Ls st := by
  intro p e s m args below meth c T locs X cx fr eT hn
  obtain ⟨s₂, o, h1, h2, h3, v, L, h4, h5, h6⟩ := k _ _ _ _ _ _ _ _ _ _ X cx fr eT hn
  exact ⟨s₂, o, h1, h2, h3, v, L, h4, ⟨q _ _ h5.1, h5.2⟩, h6⟩
/-! ### plain steps; each rule names the next pc first -/
theorem Go.aloadN (pc' : Nat) {i : Fin 4} {v : Value} (hd : decode B.2.1 pc = .ok (.aload_n i, 1)) (hp : pc + 1 = pc') (hl : Ls[i.val]? = some (.val v)) (hv : v.isRef = true) (k : Go l Z R B n0 Q h cl sl pc' Ls (v :: st)) : Go l Z R B n0 Q h cl sl pc Ls st := by
  subst hp; exact Go.lift (fun at_ hx hc q => XS.aloadN at_ hx rfl (hb hc hd) hl hv q) k
theorem Go.aload (pc' : Nat) {i : Nat} {v : Value} (hd : decode B.2.1 pc = .ok (.aload i, 2)) (hp : pc + 2 = pc') (hl : Ls[i]? = some (.val v)) (hv : v.isRef = true) (k : Go l Z R B n0 Q h cl sl pc' Ls (v :: st)) : Go l Z R B n0 Q h cl sl pc Ls st := by
  subst hp; exact Go.lift (fun at_ hx hc q => XS.aload at_ hx rfl (hb hc hd) hl hv q) k
theorem Go.iloadN (pc' : Nat) {i : Fin 4} {v : Int32} (hd : decode B.2.1 pc = .ok (.iload_n i, 1)) (hp : pc + 1 = pc') (hl : Ls[i.val]? = some (.val (.int v))) (k : Go l Z R B n0 Q h cl sl pc' Ls (.int v :: st)) : Go l Z R B n0 Q h cl sl pc Ls st := by
  subst hp; exact Go.lift (fun at_ hx hc q => XS.iloadN at_ hx rfl (hb hc hd) hl q) k
theorem Go.iload (pc' : Nat) {i : Nat} {v : Int32} (hd : decode B.2.1 pc = .ok (.iload i, 2)) (hp : pc + 2 = pc') (hl : Ls[i]? = some (.val (.int v))) (k : Go l Z R B n0 Q h cl sl pc' Ls (.int v :: st)) : Go l Z R B n0 Q h cl sl pc Ls st := by
  subst hp; exact Go.lift (fun at_ hx hc q => XS.iload at_ hx rfl (hb hc hd) hl q) k
theorem Go.lloadN (pc' : Nat) {i : Fin 4} {v : Int64} (hd : decode B.2.1 pc = .ok (.lload_n i, 1)) (hp : pc + 1 = pc') (hl : Ls[i.val]? = some (.val (.long v))) (k : Go l Z R B n0 Q h cl sl pc' Ls (.long v :: st)) : Go l Z R B n0 Q h cl sl pc Ls st := by
  subst hp; exact Go.lift (fun at_ hx hc q => XT.lloadN at_ hx rfl (hb hc hd) hl q) k
theorem Go.lload (pc' : Nat) {i : Nat} {v : Int64} (hd : decode B.2.1 pc = .ok (.lload i, 2)) (hp : pc + 2 = pc') (hl : Ls[i]? = some (.val (.long v))) (k : Go l Z R B n0 Q h cl sl pc' Ls (.long v :: st)) : Go l Z R B n0 Q h cl sl pc Ls st := by
  subst hp; exact Go.lift (fun at_ hx hc q => XT.lload at_ hx rfl (hb hc hd) hl q) k
theorem Go.dloadN (pc' : Nat) {i : Fin 4} {v : UInt64} (hd : decode B.2.1 pc = .ok (.dload_n i, 1)) (hp : pc + 1 = pc') (hl : Ls[i.val]? = some (.val (.double v))) (k : Go l Z R B n0 Q h cl sl pc' Ls (.double v :: st)) : Go l Z R B n0 Q h cl sl pc Ls st := by
  subst hp; exact Go.lift (fun at_ hx hc q => XS.dloadN at_ hx rfl (hb hc hd) hl q) k
theorem Go.dload (pc' : Nat) {i : Nat} {v : UInt64} (hd : decode B.2.1 pc = .ok (.dload i, 2)) (hp : pc + 2 = pc') (hl : Ls[i]? = some (.val (.double v))) (k : Go l Z R B n0 Q h cl sl pc' Ls (.double v :: st)) : Go l Z R B n0 Q h cl sl pc Ls st := by
  subst hp; exact Go.lift (fun at_ hx hc q => XS.dload at_ hx rfl (hb hc hd) hl q) k
theorem Go.istoreN (pc' : Nat) (Ls' : Array Slot) {i : Fin 4} {x : Int32} (hd : decode B.2.1 pc = .ok (.istore_n i, 1)) (hp : pc + 1 = pc') (hl : storeLocals Ls i.val (.int x) = some Ls') (k : Go l Z R B n0 Q h cl sl pc' Ls' st) : Go l Z R B n0 Q h cl sl pc Ls (.int x :: st) := by
  subst hp; exact Go.lift (fun at_ hx hc q => XS.istoreN at_ hx rfl (hb hc hd) rfl hl q) k
theorem Go.istore (pc' : Nat) (Ls' : Array Slot) {i : Nat} {x : Int32} (hd : decode B.2.1 pc = .ok (.istore i, 2)) (hp : pc + 2 = pc') (hl : storeLocals Ls i (.int x) = some Ls') (k : Go l Z R B n0 Q h cl sl pc' Ls' st) : Go l Z R B n0 Q h cl sl pc Ls (.int x :: st) := by
  subst hp; exact Go.lift (fun at_ hx hc q => XS.istore at_ hx rfl (hb hc hd) rfl hl q) k
theorem Go.lstoreN (pc' : Nat) (Ls' : Array Slot) {i : Fin 4} {x : Int64} (hd : decode B.2.1 pc = .ok (.lstore_n i, 1)) (hp : pc + 1 = pc') (hl : storeLocals Ls i.val (.long x) = some Ls') (k : Go l Z R B n0 Q h cl sl pc' Ls' st) : Go l Z R B n0 Q h cl sl pc Ls (.long x :: st) := by
  subst hp; exact Go.lift (fun at_ hx hc q => XT.lstoreN at_ hx rfl (hb hc hd) rfl hl q) k
theorem Go.lstore (pc' : Nat) (Ls' : Array Slot) {i : Nat} {x : Int64} (hd : decode B.2.1 pc = .ok (.lstore i, 2)) (hp : pc + 2 = pc') (hl : storeLocals Ls i (.long x) = some Ls') (k : Go l Z R B n0 Q h cl sl pc' Ls' st) : Go l Z R B n0 Q h cl sl pc Ls (.long x :: st) := by
  subst hp; exact Go.lift (fun at_ hx hc q => XT.lstore at_ hx rfl (hb hc hd) rfl hl q) k
theorem Go.dstoreN (pc' : Nat) (Ls' : Array Slot) {i : Fin 4} {x : UInt64} (hd : decode B.2.1 pc = .ok (.dstore_n i, 1)) (hp : pc + 1 = pc') (hl : storeLocals Ls i.val (.double x) = some Ls') (k : Go l Z R B n0 Q h cl sl pc' Ls' st) : Go l Z R B n0 Q h cl sl pc Ls (.double x :: st) := by
  subst hp; exact Go.lift (fun at_ hx hc q => XS.dstoreN at_ hx rfl (hb hc hd) rfl hl q) k
theorem Go.dstore (pc' : Nat) (Ls' : Array Slot) {i : Nat} {x : UInt64} (hd : decode B.2.1 pc = .ok (.dstore i, 2)) (hp : pc + 2 = pc') (hl : storeLocals Ls i (.double x) = some Ls') (k : Go l Z R B n0 Q h cl sl pc' Ls' st) : Go l Z R B n0 Q h cl sl pc Ls (.double x :: st) := by
  subst hp; exact Go.lift (fun at_ hx hc q => XS.dstore at_ hx rfl (hb hc hd) rfl hl q) k
theorem Go.astoreN (pc' : Nat) (Ls' : Array Slot) {i : Fin 4} {x : Value} (hd : decode B.2.1 pc = .ok (.astore_n i, 1)) (hp : pc + 1 = pc') (hv : x.isRef = true) (hl : storeLocals Ls i.val x = some Ls') (k : Go l Z R B n0 Q h cl sl pc' Ls' st) : Go l Z R B n0 Q h cl sl pc Ls (x :: st) := by
  subst hp; exact Go.lift (fun at_ hx hc q => XS.astoreN at_ hx rfl (hb hc hd) rfl hv hl q) k
theorem Go.astore (pc' : Nat) (Ls' : Array Slot) {i : Nat} {x : Value} (hd : decode B.2.1 pc = .ok (.astore i, 2)) (hp : pc + 2 = pc') (hv : x.isRef = true) (hl : storeLocals Ls i x = some Ls') (k : Go l Z R B n0 Q h cl sl pc' Ls' st) : Go l Z R B n0 Q h cl sl pc Ls (x :: st) := by
  subst hp; exact Go.lift (fun at_ hx hc q => XS.astore at_ hx rfl (hb hc hd) rfl hv hl q) k
theorem Go.iinc (pc' : Nat) (Ls' : Array Slot) (v : Int32) {i : Nat} {cst : Int} {x : Int32} (hd : decode B.2.1 pc = .ok (.iinc i cst, 3)) (hp : pc + 3 = pc') (hl : Ls[i]? = some (.val (.int x))) (hv : x + Int32.ofInt cst = v) (hl' : storeLocals Ls i (.int v) = some Ls') (k : Go l Z R B n0 Q h cl sl pc' Ls' st) : Go l Z R B n0 Q h cl sl pc Ls st := by
  subst hp; subst hv; exact Go.lift (fun at_ hx hc q => XS.iinc at_ hx rfl (hb hc hd) hl hl' q) k
theorem Go.iconst (pc' : Nat) (v : Int32) {i : Int} (hd : decode B.2.1 pc = .ok (.iconst i, 1)) (hp : pc + 1 = pc') (hv : Int32.ofInt i = v) (k : Go l Z R B n0 Q h cl sl pc' Ls (.int v :: st)) : Go l Z R B n0 Q h cl sl pc Ls st := by
  subst hp; exact Go.lift (fun at_ hx hc q => XT.iconstV at_ hx rfl v (hb hc hd) hv q) k
theorem Go.bipush (pc' : Nat) (v : Int32) {i : Int} (hd : decode B.2.1 pc = .ok (.bipush i, 2)) (hp : pc + 2 = pc') (hv : (Int8.ofInt i).toInt32 = v) (k : Go l Z R B n0 Q h cl sl pc' Ls (.int v :: st)) : Go l Z R B n0 Q h cl sl pc Ls st := by
  subst hp; exact Go.lift (fun at_ hx hc q => XT.bipushV at_ hx rfl v (hb hc hd) hv q) k
theorem Go.sipush (pc' : Nat) (v : Int32) {i : Int} (hd : decode B.2.1 pc = .ok (.sipush i, 3)) (hp : pc + 3 = pc') (hv : (Int16.ofInt i).toInt32 = v) (k : Go l Z R B n0 Q h cl sl pc' Ls (.int v :: st)) : Go l Z R B n0 Q h cl sl pc Ls st := by
  subst hp; exact Go.lift (fun at_ hx hc q => XT.sipushV at_ hx rfl v (hb hc hd) hv q) k
theorem Go.lconst (pc' : Nat) (v : Int64) {i : Fin 2} (hd : decode B.2.1 pc = .ok (.lconst i, 1)) (hp : pc + 1 = pc') (hv : Int64.ofNat i = v) (k : Go l Z R B n0 Q h cl sl pc' Ls (.long v :: st)) : Go l Z R B n0 Q h cl sl pc Ls st := by
  subst hp; exact Go.lift (fun at_ hx hc q => XT.lconstV at_ hx rfl v (hb hc hd) hv q) k
theorem Go.dconst0 (pc' : Nat) (v : UInt64) (hd : decode B.2.1 pc = .ok (.dconst 0, 1)) (hp : pc + 1 = pc') (hv : FP.dconst0 = v) (k : Go l Z R B n0 Q h cl sl pc' Ls (.double v :: st)) : Go l Z R B n0 Q h cl sl pc Ls st := by
  subst hp; exact Go.lift (fun at_ hx hc q => XS.dconst0 at_ hx rfl (hb hc hd) hv q) k
theorem Go.dconst1 (pc' : Nat) (v : UInt64) (hd : decode B.2.1 pc = .ok (.dconst 1, 1)) (hp : pc + 1 = pc') (hv : FP.dconst1 = v) (k : Go l Z R B n0 Q h cl sl pc' Ls (.double v :: st)) : Go l Z R B n0 Q h cl sl pc Ls st := by
  subst hp; exact Go.lift (fun at_ hx hc q => XS.dconst1 at_ hx rfl (hb hc hd) hv q) k
theorem Go.aconstNull (pc' : Nat) (hd : decode B.2.1 pc = .ok (.aconst_null, 1)) (hp : pc + 1 = pc') (k : Go l Z R B n0 Q h cl sl pc' Ls (.null :: st)) : Go l Z R B n0 Q h cl sl pc Ls st := by
  subst hp; exact Go.lift (fun at_ hx hc q => XS.aconstNull at_ hx rfl (hb hc hd) q) k
/-! arithmetic; the value is named: v, by an equation -/
theorem Go.iadd (pc' : Nat) (v : Int32) {x y : Int32} (hd : decode B.2.1 pc = .ok (.iadd, 1)) (hp : pc + 1 = pc') (hv : x + y = v) (k : Go l Z R B n0 Q h cl sl pc' Ls (.int v :: st)) : Go l Z R B n0 Q h cl sl pc Ls (.int y :: .int x :: st) := by
  subst hp; subst hv; exact Go.lift (fun at_ hx hc q => XS.iadd at_ hx rfl (hb hc hd) rfl q) k
theorem Go.isub (pc' : Nat) (v : Int32) {x y : Int32} (hd : decode B.2.1 pc = .ok (.isub, 1)) (hp : pc + 1 = pc') (hv : x - y = v) (k : Go l Z R B n0 Q h cl sl pc' Ls (.int v :: st)) : Go l Z R B n0 Q h cl sl pc Ls (.int y :: .int x :: st) := by
  subst hp; subst hv; exact Go.lift (fun at_ hx hc q => XS.isub at_ hx rfl (hb hc hd) rfl q) k
theorem Go.imul (pc' : Nat) (v : Int32) {x y : Int32} (hd : decode B.2.1 pc = .ok (.imul, 1)) (hp : pc + 1 = pc') (hv : x * y = v) (k : Go l Z R B n0 Q h cl sl pc' Ls (.int v :: st)) : Go l Z R B n0 Q h cl sl pc Ls (.int y :: .int x :: st) := by
  subst hp; subst hv; exact Go.lift (fun at_ hx hc q => XS.imul at_ hx rfl (hb hc hd) rfl q) k
theorem Go.idiv (pc' : Nat) (v : Int32) {x y : Int32} (hd : decode B.2.1 pc = .ok (.idiv, 1)) (hp : pc + 1 = pc') (hy : y ≠ 0) (hv : x / y = v) (k : Go l Z R B n0 Q h cl sl pc' Ls (.int v :: st)) : Go l Z R B n0 Q h cl sl pc Ls (.int y :: .int x :: st) := by
  subst hp; subst hv; exact Go.lift (fun at_ hx hc q => XS.idiv at_ hx rfl (hb hc hd) rfl hy q) k
theorem Go.irem (pc' : Nat) (v : Int32) {x y : Int32} (hd : decode B.2.1 pc = .ok (.irem, 1)) (hp : pc + 1 = pc') (hy : y ≠ 0) (hv : x % y = v) (k : Go l Z R B n0 Q h cl sl pc' Ls (.int v :: st)) : Go l Z R B n0 Q h cl sl pc Ls (.int y :: .int x :: st) := by
  subst hp; subst hv
  have q0 : x - x / y * y = x % y := irem_eq_mod x y
  have k' : Go l Z R B n0 Q h cl sl (pc + 1) Ls (.int (x - x / y * y) :: st) := by rw [q0]; exact k
  intro p e s m args below meth c T locs X cx fr eT hn
  obtain ⟨s₂, o, h1, r⟩ := k' _ _ _ _ _ _ _ _ _ _ X cx fr eT hn
  exact ⟨s₂, o, XS.irem X.here cx.1 (g := mkF m pc Ls (.int y :: .int x :: st)) rfl (hb cx.2.2.2.1 hd) rfl hy h1, r⟩
theorem Go.iand (pc' : Nat) (v : Int32) {x y : Int32} (hd : decode B.2.1 pc = .ok (.iand, 1)) (hp : pc + 1 = pc') (hv : x &&& y = v) (k : Go l Z R B n0 Q h cl sl pc' Ls (.int v :: st)) : Go l Z R B n0 Q h cl sl pc Ls (.int y :: .int x :: st) := by
  subst hp; subst hv; exact Go.lift (fun at_ hx hc q => XS.iand at_ hx rfl (hb hc hd) rfl q) k
theorem Go.ixor (pc' : Nat) (v : Int32) {x y : Int32} (hd : decode B.2.1 pc = .ok (.ixor, 1)) (hp : pc + 1 = pc') (hv : x ^^^ y = v) (k : Go l Z R B n0 Q h cl sl pc' Ls (.int v :: st)) : Go l Z R B n0 Q h cl sl pc Ls (.int y :: .int x :: st) := by
  subst hp; subst hv; exact Go.lift (fun at_ hx hc q => XT.ixor at_ hx rfl (hb hc hd) rfl q) k
theorem Go.ishl (pc' : Nat) (v : Int32) {x y : Int32} (hd : decode B.2.1 pc = .ok (.ishl, 1)) (hp : pc + 1 = pc') (hv : x <<< (y &&& 31) = v) (k : Go l Z R B n0 Q h cl sl pc' Ls (.int v :: st)) : Go l Z R B n0 Q h cl sl pc Ls (.int y :: .int x :: st) := by
  subst hp; subst hv; exact Go.lift (fun at_ hx hc q => XT.ishl at_ hx rfl (hb hc hd) rfl q) k
theorem Go.iushr (pc' : Nat) (v : Int32) {x y : Int32} (hd : decode B.2.1 pc = .ok (.iushr, 1)) (hp : pc + 1 = pc') (hv : XT.ushr x y = v) (k : Go l Z R B n0 Q h cl sl pc' Ls (.int v :: st)) : Go l Z R B n0 Q h cl sl pc Ls (.int y :: .int x :: st) := by
  subst hp; subst hv; exact Go.lift (fun at_ hx hc q => XT.iushr at_ hx rfl (hb hc hd) rfl q) k
theorem Go.ineg (pc' : Nat) (v : Int32) {x : Int32} (hd : decode B.2.1 pc = .ok (.ineg, 1)) (hp : pc + 1 = pc') (hv : -x = v) (k : Go l Z R B n0 Q h cl sl pc' Ls (.int v :: st)) : Go l Z R B n0 Q h cl sl pc Ls (.int x :: st) := by
  subst hp; subst hv; exact Go.lift (fun at_ hx hc q => XS.ineg at_ hx rfl (hb hc hd) rfl q) k
theorem Go.ladd (pc' : Nat) (v : Int64) {x y : Int64} (hd : decode B.2.1 pc = .ok (.ladd, 1)) (hp : pc + 1 = pc') (hv : x + y = v) (k : Go l Z R B n0 Q h cl sl pc' Ls (.long v :: st)) : Go l Z R B n0 Q h cl sl pc Ls (.long y :: .long x :: st) := by
  subst hp; subst hv; exact Go.lift (fun at_ hx hc q => XT.ladd at_ hx rfl (hb hc hd) rfl q) k
theorem Go.lsub (pc' : Nat) (v : Int64) {x y : Int64} (hd : decode B.2.1 pc = .ok (.lsub, 1)) (hp : pc + 1 = pc') (hv : x - y = v) (k : Go l Z R B n0 Q h cl sl pc' Ls (.long v :: st)) : Go l Z R B n0 Q h cl sl pc Ls (.long y :: .long x :: st) := by
  subst hp; subst hv; exact Go.lift (fun at_ hx hc q => XT.lsub at_ hx rfl (hb hc hd) rfl q) k
theorem Go.lmul (pc' : Nat) (v : Int64) {x y : Int64} (hd : decode B.2.1 pc = .ok (.lmul, 1)) (hp : pc + 1 = pc') (hv : x * y = v) (k : Go l Z R B n0 Q h cl sl pc' Ls (.long v :: st)) : Go l Z R B n0 Q h cl sl pc Ls (.long y :: .long x :: st) := by
  subst hp; subst hv; exact Go.lift (fun at_ hx hc q => XT.lmul at_ hx rfl (hb hc hd) rfl q) k
theorem Go.land (pc' : Nat) (v : Int64) {x y : Int64} (hd : decode B.2.1 pc = .ok (.land, 1)) (hp : pc + 1 = pc') (hv : x &&& y = v) (k : Go l Z R B n0 Q h cl sl pc' Ls (.long v :: st)) : Go l Z R B n0 Q h cl sl pc Ls (.long y :: .long x :: st) := by
  subst hp; subst hv; exact Go.lift (fun at_ hx hc q => XT.land at_ hx rfl (hb hc hd) rfl q) k
theorem Go.lshl (pc' : Nat) (v : Int64) {x : Int64} {y : Int32} (hd : decode B.2.1 pc = .ok (.lshl, 1)) (hp : pc + 1 = pc') (hv : x <<< (y.toInt64 &&& 63) = v) (k : Go l Z R B n0 Q h cl sl pc' Ls (.long v :: st)) : Go l Z R B n0 Q h cl sl pc Ls (.int y :: .long x :: st) := by
  subst hp; subst hv; exact Go.lift (fun at_ hx hc q => XT.lshl at_ hx rfl (hb hc hd) rfl q) k
theorem Go.lshr (pc' : Nat) (v : Int64) {x : Int64} {y : Int32} (hd : decode B.2.1 pc = .ok (.lshr, 1)) (hp : pc + 1 = pc') (hv : x >>> (y.toInt64 &&& 63) = v) (k : Go l Z R B n0 Q h cl sl pc' Ls (.long v :: st)) : Go l Z R B n0 Q h cl sl pc Ls (.int y :: .long x :: st) := by
  subst hp; subst hv; exact Go.lift (fun at_ hx hc q => XT.lshr at_ hx rfl (hb hc hd) rfl q) k
theorem Go.lushr (pc' : Nat) (v : Int64) {x : Int64} {y : Int32} (hd : decode B.2.1 pc = .ok (.lushr, 1)) (hp : pc + 1 = pc') (hv : XT.ushrL x y = v) (k : Go l Z R B n0 Q h cl sl pc' Ls (.long v :: st)) : Go l Z R B n0 Q h cl sl pc Ls (.int y :: .long x :: st) := by
  subst hp; subst hv; exact Go.lift (fun at_ hx hc q => XT.lushr at_ hx rfl (hb hc hd) rfl q) k
theorem Go.i2l (pc' : Nat) (v : Int64) {x : Int32} (hd : decode B.2.1 pc = .ok (.i2l, 1)) (hp : pc + 1 = pc') (hv : x.toInt64 = v) (k : Go l Z R B n0 Q h cl sl pc' Ls (.long v :: st)) : Go l Z R B n0 Q h cl sl pc Ls (.int x :: st) := by
  subst hp; subst hv; exact Go.lift (fun at_ hx hc q => XT.i2l at_ hx rfl (hb hc hd) rfl q) k
theorem Go.l2i (pc' : Nat) (v : Int32) {x : Int64} (hd : decode B.2.1 pc = .ok (.l2i, 1)) (hp : pc + 1 = pc') (hv : x.toInt32 = v) (k : Go l Z R B n0 Q h cl sl pc' Ls (.int v :: st)) : Go l Z R B n0 Q h cl sl pc Ls (.long x :: st) := by
  subst hp; subst hv; exact Go.lift (fun at_ hx hc q => XT.l2i at_ hx rfl (hb hc hd) rfl q) k
theorem Go.i2s (pc' : Nat) (v : Int32) {x : Int32} (hd : decode B.2.1 pc = .ok (.i2s, 1)) (hp : pc + 1 = pc') (hv : x.toInt16.toInt32 = v) (k : Go l Z R B n0 Q h cl sl pc' Ls (.int v :: st)) : Go l Z R B n0 Q h cl sl pc Ls (.int x :: st) := by
  subst hp; subst hv; exact Go.lift (fun at_ hx hc q => XT.i2s at_ hx rfl (hb hc hd) rfl q) k
theorem Go.i2d (pc' : Nat) (v : UInt64) {x : Int32} (hd : decode B.2.1 pc = .ok (.i2d, 1)) (hp : pc + 1 = pc') (hv : FP.i2d x = v) (k : Go l Z R B n0 Q h cl sl pc' Ls (.double v :: st)) : Go l Z R B n0 Q h cl sl pc Ls (.int x :: st) := by
  subst hp; exact Go.lift (fun at_ hx hc q => XS.i2dS at_ hx rfl (hb hc hd) rfl hv q) k
theorem Go.l2d (pc' : Nat) (v : UInt64) {x : Int64} (hd : decode B.2.1 pc = .ok (.l2d, 1)) (hp : pc + 1 = pc') (hv : FP.l2d x = v) (k : Go l Z R B n0 Q h cl sl pc' Ls (.double v :: st)) : Go l Z R B n0 Q h cl sl pc Ls (.long x :: st) := by
  subst hp; exact Go.lift (fun at_ hx hc q => XS.l2dS at_ hx rfl (hb hc hd) rfl hv q) k
theorem Go.d2l (pc' : Nat) (v : Int64) {x : UInt64} (hd : decode B.2.1 pc = .ok (.d2l, 1)) (hp : pc + 1 = pc') (hv : FP.d2l x = v) (k : Go l Z R B n0 Q h cl sl pc' Ls (.long v :: st)) : Go l Z R B n0 Q h cl sl pc Ls (.double x :: st) := by
  subst hp; exact Go.lift (fun at_ hx hc q => XS.d2lS at_ hx rfl (hb hc hd) rfl hv q) k
theorem Go.dadd (pc' : Nat) (v : UInt64) {x y : UInt64} (hd : decode B.2.1 pc = .ok (.dadd, 1)) (hp : pc + 1 = pc') (hv : FP.dadd x y = v) (hn : Jvm.Free.Fl.NoNaN64 v) (k : Go l Z R B n0 Q h cl sl pc' Ls (.double v :: st)) : Go l Z R B n0 Q h cl sl pc Ls (.double y :: .double x :: st) := by
  subst hp; exact Go.lift (fun at_ hx hc q => XS.daddS at_ hx rfl (hb hc hd) rfl (hv ▸ hn) hv q) k
theorem Go.dsub (pc' : Nat) (v : UInt64) {x y : UInt64} (hd : decode B.2.1 pc = .ok (.dsub, 1)) (hp : pc + 1 = pc') (hv : FP.dsub x y = v) (hn : Jvm.Free.Fl.NoNaN64 v) (k : Go l Z R B n0 Q h cl sl pc' Ls (.double v :: st)) : Go l Z R B n0 Q h cl sl pc Ls (.double y :: .double x :: st) := by
  subst hp; exact Go.lift (fun at_ hx hc q => XS.dsubS at_ hx rfl (hb hc hd) rfl (hv ▸ hn) hv q) k
theorem Go.dmul (pc' : Nat) (v : UInt64) {x y : UInt64} (hd : decode B.2.1 pc = .ok (.dmul, 1)) (hp : pc + 1 = pc') (hv : FP.dmul x y = v) (hn : Jvm.Free.Fl.NoNaN64 v) (k : Go l Z R B n0 Q h cl sl pc' Ls (.double v :: st)) : Go l Z R B n0 Q h cl sl pc Ls (.double y :: .double x :: st) := by
  subst hp; exact Go.lift (fun at_ hx hc q => XS.dmulS at_ hx rfl (hb hc hd) rfl (hv ▸ hn) hv q) k
theorem Go.ddiv (pc' : Nat) (v : UInt64) {x y : UInt64} (hd : decode B.2.1 pc = .ok (.ddiv, 1)) (hp : pc + 1 = pc') (hv : FP.ddiv x y = v) (hn : Jvm.Free.Fl.NoNaN64 v) (k : Go l Z R B n0 Q h cl sl pc' Ls (.double v :: st)) : Go l Z R B n0 Q h cl sl pc Ls (.double y :: .double x :: st) := by
  subst hp; exact Go.lift (fun at_ hx hc q => XS.ddivS at_ hx rfl (hb hc hd) rfl (hv ▸ hn) hv q) k
theorem Go.dcmp (pc' : Nat) (v : Int32) {o : CmpOp} {x y : UInt64} (hd : decode B.2.1 pc = .ok (.dcmp o, 1)) (hp : pc + 1 = pc') (hv : cmpValue (FP.dcmp x y) o = v) (k : Go l Z R B n0 Q h cl sl pc' Ls (.int v :: st)) : Go l Z R B n0 Q h cl sl pc Ls (.double y :: .double x :: st) := by
  subst hp; exact Go.lift (fun at_ hx hc q => XS.dcmpS at_ hx rfl (hb hc hd) rfl hv q) k
theorem Go.lcmp (pc' : Nat) (v : Int32) {x y : Int64} (hd : decode B.2.1 pc = .ok (.lcmp, 1)) (hp : pc + 1 = pc') (hv : XT.cmpL x y = v) (k : Go l Z R B n0 Q h cl sl pc' Ls (.int v :: st)) : Go l Z R B n0 Q h cl sl pc Ls (.long y :: .long x :: st) := by
  subst hp; subst hv; exact Go.lift (fun at_ hx hc q => XT.lcmp at_ hx rfl (hb hc hd) rfl q) k
theorem Go.dup (pc' : Nat) {x : Value} (hd : decode B.2.1 pc = .ok (.dup, 1)) (hp : pc + 1 = pc') (hc1 : x.category = 1) (k : Go l Z R B n0 Q h cl sl pc' Ls (x :: x :: st)) : Go l Z R B n0 Q h cl sl pc Ls (x :: st) := by
  subst hp; exact Go.lift (fun at_ hx hc q => XS.dup at_ hx rfl (hb hc hd) rfl hc1 q) k
theorem Go.pop (pc' : Nat) {x : Value} (hd : decode B.2.1 pc = .ok (.pop, 1)) (hp : pc + 1 = pc') (hc1 : x.category = 1) (k : Go l Z R B n0 Q h cl sl pc' Ls st) : Go l Z R B n0 Q h cl sl pc Ls (x :: st) := by
  subst hp; exact Go.lift (fun at_ hx hc q => XT.pop at_ hx rfl (hb hc hd) rfl hc1 q) k
theorem Go.dupX1 (pc' : Nat) {x y : Value} (hd : decode B.2.1 pc = .ok (.dup_x1, 1)) (hp : pc + 1 = pc') (hc1 : x.category = 1) (hc2 : y.category = 1) (k : Go l Z R B n0 Q h cl sl pc' Ls (x :: y :: x :: st)) : Go l Z R B n0 Q h cl sl pc Ls (x :: y :: st) := by
  subst hp; exact Go.lift (fun at_ hx hc q => XT.dupX1 at_ hx rfl (hb hc hd) rfl hc1 hc2 q) k
theorem Go.dup2 (pc' : Nat) {x y : Value} (hd : decode B.2.1 pc = .ok (.dup2, 1)) (hp : pc + 1 = pc') (hc1 : x.category = 1) (hc2 : y.category = 1) (k : Go l Z R B n0 Q h cl sl pc' Ls (x :: y :: x :: y :: st)) : Go l Z R B n0 Q h cl sl pc Ls (x :: y :: st) := by
  subst hp; exact Go.lift (fun at_ hx hc q => XT.dup2 at_ hx rfl (hb hc hd) rfl hc1 hc2 q) k
/-! jumps: both roads -/
theorem Go.goto (pc' : Nat) {o : Int} (hd : decode B.2.1 pc = .ok (.goto o, 3)) (ho : 0 ≤ (pc : Int) + o) (hp : ((pc : Int) + o).toNat = pc') (k : Go l Z R B n0 Q h cl sl pc' Ls st) : Go l Z R B n0 Q h cl sl pc Ls st :=
  Go.lift (fun at_ hx hc q => XS.goto at_ hx rfl (pc0 := pc) (pc' := pc') rfl (hb hc hd) ho hp q) k
theorem Go.ifC (pc' pc'' : Nat) {cd : ClassFile.Cond} {x : Int32} {o : Int} (hd : decode B.2.1 pc = .ok (.ifCond cd o, 3)) (ho : 0 ≤ (pc : Int) + o) (hp : ((pc : Int) + o).toNat = pc') (hp2 : pc + 3 = pc'')
    (k1 : ifCond.holds cd x = true → Go l Z R B n0 Q h cl sl pc' Ls st) (k2 : ifCond.holds cd x = false → Go l Z R B n0 Q h cl sl pc'' Ls st) : Go l Z R B n0 Q h cl sl pc Ls (.int x :: st) := by
  subst hp2
  cases hh : ifCond.holds cd x with
  | true => exact Go.lift (fun at_ hx hc q => XS.ifYes at_ hx rfl (pc0 := pc) (pc' := pc') rfl (hb hc hd) rfl hh ho hp q) (k1 hh)
  | false => exact Go.lift (fun at_ hx hc q => XS.ifNo at_ hx rfl (hb hc hd) rfl hh q) (k2 hh)
theorem Go.icmp (pc' pc'' : Nat) {cd : ClassFile.Cond} {x y : Int32} {o : Int} (hd : decode B.2.1 pc = .ok (.if_icmp cd o, 3)) (ho : 0 ≤ (pc : Int) + o) (hp : ((pc : Int) + o).toNat = pc') (hp2 : pc + 3 = pc'')
    (k1 : if_icmp.holds cd x y = true → Go l Z R B n0 Q h cl sl pc' Ls st) (k2 : if_icmp.holds cd x y = false → Go l Z R B n0 Q h cl sl pc'' Ls st) : Go l Z R B n0 Q h cl sl pc Ls (.int y :: .int x :: st) := by
  subst hp2
  cases hh : if_icmp.holds cd x y with
  | true => exact Go.lift (fun at_ hx hc q => XS.icmpYes at_ hx rfl (pc0 := pc) (pc' := pc') rfl (hb hc hd) rfl hh ho hp q) (k1 hh)
  | false => exact Go.lift (fun at_ hx hc q => XS.icmpNo at_ hx rfl (hb hc hd) rfl hh q) (k2 hh)
theorem Go.acmp (pc' pc'' : Nat) {cd : ClassFile.ACond} {x y : Value} {o : Int} (hd : decode B.2.1 pc = .ok (.if_acmp cd o, 3)) (ho : 0 ≤ (pc : Int) + o) (hp : ((pc : Int) + o).toNat = pc') (hp2 : pc + 3 = pc'') (hx1 : x.isRef = true) (hy1 : y.isRef = true)
    (k1 : XT.acmp cd x y = true → Go l Z R B n0 Q h cl sl pc' Ls st) (k2 : XT.acmp cd x y = false → Go l Z R B n0 Q h cl sl pc'' Ls st) : Go l Z R B n0 Q h cl sl pc Ls (y :: x :: st) := by
  subst hp2
  cases hh : XT.acmp cd x y with
  | true => exact Go.lift (fun at_ hx hc q => XT.acmpYes at_ hx rfl (pc0 := pc) (pc' := pc') rfl (hb hc hd) rfl hx1 hy1 hh ho hp q) (k1 hh)
  | false => exact Go.lift (fun at_ hx hc q => XT.acmpNo at_ hx rfl (hb hc hd) rfl hx1 hy1 hh q) (k2 hh)
/-! branches, said of whole numbers -/
def cmpP (cd : ClassFile.Cond) (x y : Int) : Prop := match cd with
  | .eq => x = y | .ne => x ≠ y | .lt => x < y | .ge => y ≤ x | .gt => y < x | .le => x ≤ y
def cmpN (cd : ClassFile.Cond) (x y : Int) : Prop := match cd with
  | .eq => x ≠ y | .ne => x = y | .lt => y ≤ x | .ge => x < y | .gt => x ≤ y | .le => y < x
theorem holds_t (cd : ClassFile.Cond) (x y : Int32) : if_icmp.holds cd x y = true ↔ cmpP cd x.toInt y.toInt := by
  cases cd <;> simp [if_icmp.holds, cmpP, Int32.lt_iff_toInt_lt, Int32.le_iff_toInt_le, ← Int32.toInt_inj]
theorem holds_f (cd : ClassFile.Cond) (x y : Int32) : if_icmp.holds cd x y = false ↔ cmpN cd x.toInt y.toInt := by
  cases cd <;> simp [if_icmp.holds, cmpN, Int32.lt_iff_toInt_lt, Int32.le_iff_toInt_le, ← Int32.toInt_inj]
theorem holds0_t (cd : ClassFile.Cond) (x : Int32) : ifCond.holds cd x = true ↔ cmpP cd x.toInt 0 := by rw [if0, holds_t]; exact Iff.rfl
theorem holds0_f (cd : ClassFile.Cond) (x : Int32) : ifCond.holds cd x = false ↔ cmpN cd x.toInt 0 := by rw [if0, holds_f]; exact Iff.rfl
theorem Go.icmpB (pc' pc'' : Nat) {cd : ClassFile.Cond} {x y : Int32} {o : Int} (hd : decode B.2.1 pc = .ok (.if_icmp cd o, 3)) (ho : 0 ≤ (pc : Int) + o) (hp : ((pc : Int) + o).toNat = pc') (hp2 : pc + 3 = pc'')
    (k1 : cmpP cd x.toInt y.toInt → Go l Z R B n0 Q h cl sl pc' Ls st) (k2 : cmpN cd x.toInt y.toInt → Go l Z R B n0 Q h cl sl pc'' Ls st) : Go l Z R B n0 Q h cl sl pc Ls (.int y :: .int x :: st) :=
  Go.icmp pc' pc'' hd ho hp hp2 (fun q => k1 ((holds_t _ _ _).mp q)) (fun q => k2 ((holds_f _ _ _).mp q))
theorem Go.icmpT (pc' : Nat) {cd : ClassFile.Cond} {x y : Int32} {o : Int} (hd : decode B.2.1 pc = .ok (.if_icmp cd o, 3)) (ho : 0 ≤ (pc : Int) + o) (hp : ((pc : Int) + o).toNat = pc')
    (q : cmpP cd x.toInt y.toInt) (k1 : Go l Z R B n0 Q h cl sl pc' Ls st) : Go l Z R B n0 Q h cl sl pc Ls (.int y :: .int x :: st) :=
  Go.icmp pc' (pc + 3) hd ho hp rfl (fun _ => k1) (fun r => by rw [(holds_t _ _ _).mpr q] at r; cases r)
theorem Go.icmpF (pc'' : Nat) {cd : ClassFile.Cond} {x y : Int32} {o : Int} (hd : decode B.2.1 pc = .ok (.if_icmp cd o, 3)) (hp2 : pc + 3 = pc'')
    (q : cmpN cd x.toInt y.toInt) (k2 : Go l Z R B n0 Q h cl sl pc'' Ls st) : Go l Z R B n0 Q h cl sl pc Ls (.int y :: .int x :: st) := by
  subst hp2; exact Go.lift (fun at_ hx hc q0 => XS.icmpNo at_ hx rfl (hb hc hd) rfl ((holds_f _ _ _).mpr q) q0) k2
theorem Go.ifCB (pc' pc'' : Nat) {cd : ClassFile.Cond} {x : Int32} {o : Int} (hd : decode B.2.1 pc = .ok (.ifCond cd o, 3)) (ho : 0 ≤ (pc : Int) + o) (hp : ((pc : Int) + o).toNat = pc') (hp2 : pc + 3 = pc'')
    (k1 : cmpP cd x.toInt 0 → Go l Z R B n0 Q h cl sl pc' Ls st) (k2 : cmpN cd x.toInt 0 → Go l Z R B n0 Q h cl sl pc'' Ls st) : Go l Z R B n0 Q h cl sl pc Ls (.int x :: st) :=
  Go.ifC pc' pc'' hd ho hp hp2 (fun q => k1 ((holds0_t _ _).mp q)) (fun q => k2 ((holds0_f _ _).mp q))
theorem Go.ifCT (pc' : Nat) {cd : ClassFile.Cond} {x : Int32} {o : Int} (hd : decode B.2.1 pc = .ok (.ifCond cd o, 3)) (ho : 0 ≤ (pc : Int) + o) (hp : ((pc : Int) + o).toNat = pc')
    (q : cmpP cd x.toInt 0) (k1 : Go l Z R B n0 Q h cl sl pc' Ls st) : Go l Z R B n0 Q h cl sl pc Ls (.int x :: st) :=
  Go.ifC pc' (pc + 3) hd ho hp rfl (fun _ => k1) (fun r => by rw [(holds0_t _ _).mpr q] at r; cases r)
theorem Go.ifCF (pc'' : Nat) {cd : ClassFile.Cond} {x : Int32} {o : Int} (hd : decode B.2.1 pc = .ok (.ifCond cd o, 3)) (hp2 : pc + 3 = pc'')
    (q : cmpN cd x.toInt 0) (k2 : Go l Z R B n0 Q h cl sl pc'' Ls st) : Go l Z R B n0 Q h cl sl pc Ls (.int x :: st) := by
  subst hp2; exact Go.lift (fun at_ hx hc q0 => XS.ifNo at_ hx rfl (hb hc hd) rfl ((holds0_f _ _).mpr q) q0) k2
/-! ### constants of the pool -/
theorem Go.ldc2J (pc' : Nat) (v : Int64) {index : Nat} (w : (Cond.constantLong B.1.cls index v).before a0 Z = true) (hd : decode B.2.1 pc = .ok (.ldc2_w index, 3)) (hp : pc + 3 = pc') (k : Go l Z R B n0 Q h cl sl pc' Ls (.long v :: st)) : Go l Z R B n0 Q h cl sl pc Ls st := by
  subst hp
  intro p e s m args below meth c T locs X cx fr eT hn
  obtain ⟨s₂, o, h1, r⟩ := k _ _ _ _ _ _ _ _ _ _ X cx fr eT hn
  exact ⟨s₂, o, X.ldc2J cx.1 cx.2.2.1 (mv cx.2.1 w) rfl (hb cx.2.2.2.1 hd) h1, r⟩
theorem Go.ldc2D (pc' : Nat) (v : UInt64) {index : Nat} (w : (Cond.constantDouble B.1.cls index v).before a0 Z = true) (hd : decode B.2.1 pc = .ok (.ldc2_w index, 3)) (hp : pc + 3 = pc') (k : Go l Z R B n0 Q h cl sl pc' Ls (.double v :: st)) : Go l Z R B n0 Q h cl sl pc Ls st := by
  subst hp
  intro p e s m args below meth c T locs X cx fr eT hn
  obtain ⟨s₂, o, h1, r⟩ := k _ _ _ _ _ _ _ _ _ _ X cx fr eT hn
  exact ⟨s₂, o, X.ldc2DoubleC cx.1 cx.2.2.1 (mv cx.2.1 w) (g := mkF m pc Ls st) rfl (hb cx.2.2.2.1 hd) _ h1, r⟩
theorem Go.ldcI (pc' : Nat) (v : Int32) {index : Nat} (w : (Cond.constant B.1.cls index v).before a0 Z = true) (hd : decode B.2.1 pc = .ok (.ldc index, 2)) (hp : pc + 2 = pc') (k : Go l Z R B n0 Q h cl sl pc' Ls (.int v :: st)) : Go l Z R B n0 Q h cl sl pc Ls st := by
  subst hp
  intro p e s m args below meth c T locs X cx fr eT hn
  obtain ⟨s₂, o, h1, r⟩ := k _ _ _ _ _ _ _ _ _ _ X cx fr eT hn
  exact ⟨s₂, o, X.ldcI cx.1 cx.2.2.1 (mv cx.2.1 w) rfl (hb cx.2.2.2.1 hd) h1, r⟩
/-! ### fields -/
theorem Go.getF (pc' : Nat) {R0 O n d host : String} {index : Nat} {a : Nat} {v : Value} (w : (Cond.fieldLink B.1.cls index R0 n d).before a0 Z = true ∨ (Cond.fieldLinkNest B.1.cls index R0 n d host).before a0 Z = true) (via : Via Z R0 O n d) (F : Fld Z h a O n d v) (hd : decode B.2.1 pc = .ok (.getfield index, 3)) (hp : pc + 3 = pc')
    (k : Go l Z R B n0 Q h cl sl pc' Ls (v :: st)) : Go l Z R B n0 Q h cl sl pc Ls (.ref a :: st) := by
  subst hp
  intro p e s m args below meth c T locs X cx fr eT hn
  obtain ⟨T', X', e', stp⟩ := RoadKit.getF X cx.1 cx.2.1 cx.2.2.1 w via eT F (g := mkF m pc Ls (.ref a :: st)) rfl rfl (hb cx.2.2.2.1 hd)
  obtain ⟨s₂, o, h1, r⟩ := k _ _ _ _ _ _ _ _ _ _ X' cx fr e' hn
  exact ⟨s₂, o, stp _ h1, r⟩
/-- getfield of a field that the class itself declares, by its plain link word -/
theorem Go.getf (pc' : Nat) {O n d : String} {index : Nat} {a : Nat} {v : Value} (w : (Cond.fieldLink B.1.cls index O n d).before a0 Z = true) (F : Fld Z h a O n d v) (hd : decode B.2.1 pc = .ok (.getfield index, 3)) (hp : pc + 3 = pc')
    (k : Go l Z R B n0 Q h cl sl pc' Ls (v :: st)) : Go l Z R B n0 Q h cl sl pc Ls (.ref a :: st) := Go.getF pc' (host := "") (Or.inl w) Via.refl F hd hp k
theorem Go.putF (pc' : Nat) {O n d C : String} {index kk : Nat} {ty : FieldType} {a : Nat} {v old : Value} (w : (Cond.fieldLink B.1.cls index O n d).before a0 Z = true) (F : Fld Z h a O n d old) (E : Exa Z h a C)
    (L : (Cond.lays C O n d).before a0 Z = true ∨ ((Cond.laysFinal C O n d).before a0 Z = true ∧ B.1.cls = O ∧ B.1.name = "<init>")) (wi : (Cond.instantiable C kk).before a0 Z = true)
    (hty : parseFieldDescriptor d = some ty) (hn : narrow ty v = v) (hf : fits ty v = true) (ha : n0 ≤ a) (hd : decode B.2.1 pc = .ok (.putfield index, 3)) (hp : pc + 3 = pc')
    (k : ∀ h', Wr h h' a (Jvm.RoadKit.slotOf Z O n d) v → Go l Z R B n0 Q h' cl sl pc' Ls st) : Go l Z R B n0 Q h cl sl pc Ls (v :: .ref a :: st) := by
  subst hp
  intro p e s m args below meth c T locs X cx fr eT hn'
  obtain ⟨T', h', X', e', W, stp⟩ := RoadKit.putF X cx.1 cx.2.1 (host := "") cx.2.2.1 (Or.inl w) Via.refl eT F E (L.imp id fun q => ⟨q.1, q.2.1, cx.2.2.2.2.2.2.2.1.trans q.2.2⟩) wi hty hn hf (g := mkF m pc Ls (v :: .ref a :: st)) rfl rfl (hb cx.2.2.2.1 hd)
  obtain ⟨s₂, o, h1, r⟩ := k h' W _ _ _ _ _ _ _ _ _ _ X' cx (Fr.snoc X' fr ha) e' (by rw [W.size]; exact hn')
  exact ⟨s₂, o, stp _ h1, r⟩
/-! ### objects -/
theorem Go.new (pc' : Nat) {C : String} {index n : Nat} (w : (Cond.classLink B.1.cls index C).before a0 Z = true) (wi : (Cond.instantiable C n).before a0 Z = true) (wz : (Cond.initialized C).before a0 Z = true) (hd : decode B.2.1 pc = .ok (.new index, 3)) (hp : pc + 3 = pc') (hc : cl + 1 ≤ R.cells) (hl : sl + n ≤ R.slots)
    (k : ∀ h' a, Ext h h' → h.size ≤ a → a < h'.size → n0 ≤ a → Exa Z h' a C → (∀ {O nm d : String} {ty : FieldType}, Laid Z a0 C O nm d → parseFieldDescriptor d = some ty → Fld Z h' a O nm d (defaultValue ty)) → Go l Z R B n0 Q h' (cl + 1) (sl + n) pc' Ls (.ref a :: st)) : Go l Z R B n0 Q h cl sl pc Ls st := by
  subst hp
  intro p e s m args below meth c T locs X cx fr eT hn
  obtain ⟨T', h', X', e', E, A, D, -, stp⟩ := newO X cx.1 cx.2.1 cx.2.2.1 w wi wz eT (g := mkF m pc Ls st) rfl (hb cx.2.2.2.1 hd) hc hl
  obtain ⟨s₂, o, h1, r⟩ := k h' h.size E (Nat.le_refl _) A.lt hn A D _ _ _ _ _ _ _ _ _ _ X' cx fr e' (Nat.le_trans hn E.1)
  exact ⟨s₂, o, stp _ h1, r⟩
/-- Object.<init> -/
theorem Go.initO (pc' : Nat) {index : Nat} {a : Nat} (w1 : (Cond.methodLink B.1.cls index Lib.objectInit).before a0 Z = true) (w2 : (Cond.instanceMethod Lib.objectInit).before a0 Z = true) (w3 : (Cond.code Lib.objectInit ⟨#[0xb1]⟩ 1 none).before a0 Z = true)
    (hsz : Ls.size = B.2.2.1) (hd : decode B.2.1 pc = .ok (.invokespecial index, 3)) (hp : pc + 3 = pc') (hfr : 1 ≤ R.frames) (hlo : (st.map fun v => v.category).sum + 12 ≤ R.locals) (k : Go l Z R B n0 Q h cl sl pc' Ls st) : Go l Z R B n0 Q h cl sl pc Ls (.ref a :: st) := by
  subst hp
  intro p e s m args below meth c T locs X cx fr eT hn
  obtain ⟨T', X', e', stp⟩ := RoadKit.initO X cx.1 cx.2.1 cx.2.2.1 w1 w2 w3 eT (g := mkF m pc Ls (.ref a :: st)) rfl (hsz.trans cx.2.2.2.2.1.symm) rfl (hb cx.2.2.2.1 hd) hfr (W := (st.map fun v => v.category).sum) (by show 2 * 0 + _ ≤ _; omega) hlo
  obtain ⟨s₂, o, h1, r⟩ := k _ _ _ _ _ _ _ _ _ _ X' cx fr e' hn
  exact ⟨s₂, o, stp _ h1, r⟩
/-! ### arrays -/
/-- the array at a holds just these values -/
def ArV (Z : State) (h : Heap) (a : Nat) (ty : FieldType) (vs : List Value) : Prop := ∃ c : Cell, Arr Z h a c ty ∧ c.slots.toList = vs ∧ vs.length < 2147483648
abbrev ArD (Z : State) (h : Heap) (a : Nat) (ds : List UInt64) : Prop := ArV Z h a .double (ds.map Value.double)
abbrev ArI (Z : State) (h : Heap) (a : Nat) (ds : List Int32) : Prop := ArV Z h a .int (ds.map Value.int)
abbrev ArJ (Z : State) (h : Heap) (a : Nat) (ds : List Int64) : Prop := ArV Z h a .long (ds.map Value.long)
theorem ArV.lt {a : Nat} {ty : FieldType} {vs : List Value} (A : ArV Z h a ty vs) : a < h.size := by obtain ⟨c, A, -⟩ := A; exact A.lt
theorem ArV.len {a : Nat} {ty : FieldType} {vs : List Value} (A : ArV Z h a ty vs) : vs.length < 2147483648 := by obtain ⟨c, -, -, q⟩ := A; exact q
theorem ArV.ext {h' : Heap} {a : Nat} {ty : FieldType} {vs : List Value} (A : ArV Z h a ty vs) (E : Ext h h') : ArV Z h' a ty vs := by obtain ⟨c, A, q⟩ := A; exact ⟨c, A.ext E, q⟩
theorem ArV.other {h' : Heap} {a b : Nat} {sl : Nat} {v : Value} {ty : FieldType} {vs : List Value} (A : ArV Z h b ty vs) (W : Wr h h' a sl v) (q : b ≠ a) : ArV Z h' b ty vs := by obtain ⟨c, A, r⟩ := A; exact ⟨c, A.other W q, r⟩
theorem ArV.keep {h' : Heap} {a : Nat} {ws : List Nat} {ty : FieldType} {vs : List Value} (A : ArV Z h a ty vs) (K : Keep h h' ws) (q : a ∉ ws) : ArV Z h' a ty vs := by obtain ⟨c, A, r⟩ := A; exact ⟨c, ⟨K.2.1 a c A.1 q, A.2⟩, r⟩
theorem idx_ok {j : Int32} {i n : Nat} (hj : j.toInt = (i : Int)) (hi : i < n) : ¬ (j < 0 ∨ n ≤ j.toNatClampNeg) ∧ j.toNatClampNeg = i := by
  have h1 : j.toNatClampNeg = i := by simp only [Int32.toNatClampNeg]; omega
  refine ⟨fun q => ?_, h1⟩
  rcases q with q | q
  · simp only [Int32.lt_iff_toInt_lt, Int32.reduceToInt] at q; omega
  · omega
theorem ArV.get {a : Nat} {ty : FieldType} {vs : List Value} {j : Int32} {i : Nat} {v : Value} (A : ArV Z h a ty vs) (hj : j.toInt = (i : Int)) (hi : vs[i]? = some v) : ∃ c : Cell, Arr Z h a c ty ∧ ¬ (j < 0 ∨ c.slots.size ≤ j.toNatClampNeg) ∧ c.slots[j.toNatClampNeg]? = some v := by
  obtain ⟨c, A, e, -⟩ := A
  have hlt : i < c.slots.size := by
    have := (List.getElem?_eq_some_iff.mp hi).1
    rw [← e] at this; simpa using this
  obtain ⟨q1, q2⟩ := idx_ok hj hlt
  refine ⟨c, A, q1, ?_⟩
  rw [q2, ← hi, ← e, Array.getElem?_toList]
theorem ArV.upd {h' : Heap} {a : Nat} {ty : FieldType} {vs : List Value} {j : Int32} {i : Nat} {v : Value} (A : ArV Z h a ty vs) (hj : j.toInt = (i : Int)) (hi : i < vs.length) (W : Wr h h' a j.toNatClampNeg v) : ArV Z h' a ty (vs.set i v) := by
  obtain ⟨c, A, e, hlen⟩ := A
  have hlt : i < c.slots.size := by rw [← e] at hi; simpa using hi
  obtain ⟨q1, q2⟩ := idx_ok hj hlt
  refine ⟨_, A.same W, ?_, by simpa using hlen⟩
  rw [q2, ← e]
  simp [Cell.setSlot, Array.toList_setIfInBounds]
theorem Wr.keep1 {h' : Heap} {a : Nat} {sl : Nat} {v : Value} (W : Wr h h' a sl v) : Keep h h' [a] := Keep.of_wr W
theorem Go.daload (pc' : Nat) {a : Nat} {ds : List UInt64} {j : Int32} {i : Nat} {x : UInt64} (A : ArD Z h a ds) (hj : j.toInt = (i : Int)) (hi : ds[i]? = some x) (hd : decode B.2.1 pc = .ok (.daload, 1)) (hp : pc + 1 = pc')
    (k : Go l Z R B n0 Q h cl sl pc' Ls (.double x :: st)) : Go l Z R B n0 Q h cl sl pc Ls (.int j :: .ref a :: st) := by
  subst hp
  intro p e s m args below meth c T locs X cx fr eT hn
  obtain ⟨s₂, o, h1, r⟩ := k _ _ _ _ _ _ _ _ _ _ X cx fr eT hn
  obtain ⟨c0, A0, q1, q2⟩ := A.get hj (v := .double x) (by rw [List.getElem?_map, hi]; rfl)
  exact ⟨s₂, o, X.daload cx.1 (by rw [eT]; exact A0.1) (State.isArrayOf_alike cx.2.1.alike A0.2.1) A0.2.2 q1 q2 (g := mkF m pc Ls (.int j :: .ref a :: st)) rfl rfl (hb cx.2.2.2.1 hd) _ h1, r⟩
theorem Go.iaload (pc' : Nat) {a : Nat} {ds : List Int32} {j : Int32} {i : Nat} {x : Int32} (A : ArI Z h a ds) (hj : j.toInt = (i : Int)) (hi : ds[i]? = some x) (hd : decode B.2.1 pc = .ok (.iaload, 1)) (hp : pc + 1 = pc')
    (k : Go l Z R B n0 Q h cl sl pc' Ls (.int x :: st)) : Go l Z R B n0 Q h cl sl pc Ls (.int j :: .ref a :: st) := by
  subst hp
  intro p e s m args below meth c T locs X cx fr eT hn
  obtain ⟨s₂, o, h1, r⟩ := k _ _ _ _ _ _ _ _ _ _ X cx fr eT hn
  obtain ⟨c0, A0, q1, q2⟩ := A.get hj (v := .int x) (by rw [List.getElem?_map, hi]; rfl)
  exact ⟨s₂, o, X.iaload cx.1 (by rw [eT]; exact A0.1) (State.isArrayOf_alike cx.2.1.alike A0.2.1) A0.2.2 q1 q2 (g := mkF m pc Ls (.int j :: .ref a :: st)) rfl rfl (hb cx.2.2.2.1 hd) _ h1, r⟩
theorem Go.laload (pc' : Nat) {a : Nat} {ds : List Int64} {j : Int32} {i : Nat} {x : Int64} (A : ArJ Z h a ds) (hj : j.toInt = (i : Int)) (hi : ds[i]? = some x) (hd : decode B.2.1 pc = .ok (.laload, 1)) (hp : pc + 1 = pc')
    (k : Go l Z R B n0 Q h cl sl pc' Ls (.long x :: st)) : Go l Z R B n0 Q h cl sl pc Ls (.int j :: .ref a :: st) := by
  subst hp
  intro p e s m args below meth c T locs X cx fr eT hn
  obtain ⟨s₂, o, h1, r⟩ := k _ _ _ _ _ _ _ _ _ _ X cx fr eT hn
  obtain ⟨c0, A0, q1, q2⟩ := A.get hj (v := .long x) (by rw [List.getElem?_map, hi]; rfl)
  exact ⟨s₂, o, X.laload cx.1 (by rw [eT]; exact A0.1) (State.isArrayOf_alike cx.2.1.alike A0.2.1) A0.2.2 q1 q2 (g := mkF m pc Ls (.int j :: .ref a :: st)) rfl rfl (hb cx.2.2.2.1 hd) _ h1, r⟩
theorem Go.alen (pc' : Nat) (v : Int32) {a : Nat} {ty : FieldType} {vs : List Value} (A : ArV Z h a ty vs) (hv : v.toInt = (vs.length : Int)) (hd : decode B.2.1 pc = .ok (.arraylength, 1)) (hp : pc + 1 = pc')
    (k : Go l Z R B n0 Q h cl sl pc' Ls (.int v :: st)) : Go l Z R B n0 Q h cl sl pc Ls (.ref a :: st) := by
  subst hp
  intro p e s m args below meth c T locs X cx fr eT hn
  obtain ⟨s₂, o, h1, r⟩ := k _ _ _ _ _ _ _ _ _ _ X cx fr eT hn
  obtain ⟨c0, A0, q1, q2⟩ := A
  have hsz : c0.slots.size = vs.length := by rw [← q1]; simp
  have hv' : c0.slots.size.toInt32 = v := by
    apply Int32.toInt_inj.mp
    rw [len_toInt (by omega), hv, hsz]
  exact ⟨s₂, o, X.arraylength cx.1 (by rw [eT]; exact A0.1) (State.isArrayOf_alike cx.2.1.alike A0.2.1) (g := mkF m pc Ls (.ref a :: st)) rfl rfl (hb cx.2.2.2.1 hd) _ (by rw [hv']; exact h1), r⟩
theorem Go.dastore (pc' : Nat) {a : Nat} {ds : List UInt64} {j : Int32} {i : Nat} {x : UInt64} (A : ArD Z h a ds) (hj : j.toInt = (i : Int)) (hi : i < ds.length) (ha : n0 ≤ a) (hd : decode B.2.1 pc = .ok (.dastore, 1)) (hp : pc + 1 = pc')
    (k : ∀ h', Keep h h' [a] → ArD Z h' a (ds.set i x) → Go l Z R B n0 Q h' cl sl pc' Ls st) : Go l Z R B n0 Q h cl sl pc Ls (.double x :: .int j :: .ref a :: st) := by
  subst hp
  intro p e s m args below meth c T locs X cx fr eT hn
  obtain ⟨c0, A0, q0, q⟩ := id A
  have hlt : i < c0.slots.size := by have : i < (c0.slots.toList).length := by rw [q0]; simpa using hi
                                     simpa using this
  obtain ⟨T', h', X', e', W, stp⟩ := stD X cx.1 cx.2.1 eT A0 (idx_ok hj hlt).1 (g := mkF m pc Ls (.double x :: .int j :: .ref a :: st)) rfl rfl (hb cx.2.2.2.1 hd)
  have A' := A.upd hj (by simpa using hi) W
  rw [← List.map_set] at A'
  obtain ⟨s₂, o, h1, r⟩ := k h' (Keep.of_wr W) A' _ _ _ _ _ _ _ _ _ _ X' cx (Fr.snoc X' fr ha) e' (by rw [W.size]; exact hn)
  exact ⟨s₂, o, stp _ h1, r⟩
theorem Go.iastore (pc' : Nat) {a : Nat} {ds : List Int32} {j : Int32} {i : Nat} {x : Int32} (A : ArI Z h a ds) (hj : j.toInt = (i : Int)) (hi : i < ds.length) (ha : n0 ≤ a) (hd : decode B.2.1 pc = .ok (.iastore, 1)) (hp : pc + 1 = pc')
    (k : ∀ h', Keep h h' [a] → ArI Z h' a (ds.set i x) → Go l Z R B n0 Q h' cl sl pc' Ls st) : Go l Z R B n0 Q h cl sl pc Ls (.int x :: .int j :: .ref a :: st) := by
  subst hp
  intro p e s m args below meth c T locs X cx fr eT hn
  obtain ⟨c0, A0, q0, q⟩ := id A
  have hlt : i < c0.slots.size := by have : i < (c0.slots.toList).length := by rw [q0]; simpa using hi
                                     simpa using this
  obtain ⟨T', h', X', e', W, stp⟩ := stI X cx.1 cx.2.1 eT A0 (idx_ok hj hlt).1 (g := mkF m pc Ls (.int x :: .int j :: .ref a :: st)) rfl rfl (hb cx.2.2.2.1 hd)
  have A' := A.upd hj (by simpa using hi) W
  rw [← List.map_set] at A'
  obtain ⟨s₂, o, h1, r⟩ := k h' (Keep.of_wr W) A' _ _ _ _ _ _ _ _ _ _ X' cx (Fr.snoc X' fr ha) e' (by rw [W.size]; exact hn)
  exact ⟨s₂, o, stp _ h1, r⟩
theorem Go.lastore (pc' : Nat) {a : Nat} {ds : List Int64} {j : Int32} {i : Nat} {x : Int64} (A : ArJ Z h a ds) (hj : j.toInt = (i : Int)) (hi : i < ds.length) (ha : n0 ≤ a) (hd : decode B.2.1 pc = .ok (.lastore, 1)) (hp : pc + 1 = pc')
    (k : ∀ h', Keep h h' [a] → ArJ Z h' a (ds.set i x) → Go l Z R B n0 Q h' cl sl pc' Ls st) : Go l Z R B n0 Q h cl sl pc Ls (.long x :: .int j :: .ref a :: st) := by
  subst hp
  intro p e s m args below meth c T locs X cx fr eT hn
  obtain ⟨c0, A0, q0, q⟩ := id A
  have hlt : i < c0.slots.size := by have : i < (c0.slots.toList).length := by rw [q0]; simpa using hi
                                     simpa using this
  obtain ⟨T', h', X', e', W, stp⟩ := stJ X cx.1 cx.2.1 eT A0 (idx_ok hj hlt).1 (g := mkF m pc Ls (.long x :: .int j :: .ref a :: st)) rfl rfl (hb cx.2.2.2.1 hd)
  have A' := A.upd hj (by simpa using hi) W
  rw [← List.map_set] at A'
  obtain ⟨s₂, o, h1, r⟩ := k h' (Keep.of_wr W) A' _ _ _ _ _ _ _ _ _ _ X' cx (Fr.snoc X' fr ha) e' (by rw [W.size]; exact hn)
  exact ⟨s₂, o, stp _ h1, r⟩
theorem Go.newarr (pc' : Nat) (cap : Nat) {aty : ArrayType} {n : Int32} {i : Nat} (w : (Cond.arrayClass (newarray.typeOf aty)).before a0 Z = true) (hi : n.toInt = (i : Int)) (hcap : i ≤ cap) (hbig : cap * 8 ≤ 536870912) (hd : decode B.2.1 pc = .ok (.newarray aty, 2)) (hp : pc + 2 = pc') (hc : cl + 1 ≤ R.cells) (hl : sl + cap ≤ R.slots)
    (k : ∀ h' a, Ext h h' → h.size ≤ a → n0 ≤ a → ArV Z h' a (newarray.typeOf aty) (List.replicate i (defaultValue (newarray.typeOf aty))) → Go l Z R B n0 Q h' (cl + 1) (sl + cap) pc' Ls (.ref a :: st)) : Go l Z R B n0 Q h cl sl pc Ls (.int n :: st) := by
  subst hp
  intro p e s m args below meth c T locs X cx fr eT hn
  have hnn : ¬ n < 0 := by simp only [Int32.lt_iff_toInt_lt, Int32.reduceToInt]; omega
  have hcl : n.toNatClampNeg = i := by simp only [Int32.toNatClampNeg]; omega
  obtain ⟨T', h', cA, X', e', E, A, stp⟩ := newP X cx.1 cx.2.1 w eT (g := mkF m pc Ls (.int n :: st)) rfl (hb cx.2.2.2.1 hd) rfl hnn (cap := cap) (by omega) hbig hc hl
  have A' : ArV Z h' h.size (newarray.typeOf aty) (List.replicate i (defaultValue (newarray.typeOf aty))) := ⟨_, A, by simp [newA, hcl], by
    have := Int32.toInt_lt n; simp only [List.length_replicate]; omega⟩
  obtain ⟨s₂, o, h1, r⟩ := k h' h.size E (Nat.le_refl _) hn A' _ _ _ _ _ _ _ _ _ _ X' cx fr e' (Nat.le_trans hn E.1)
  exact ⟨s₂, o, stp _ h1, r⟩
theorem Go.newD (pc' : Nat) (cap : Nat) {n : Int32} {i : Nat} (w : (Cond.arrayClass .double).before a0 Z = true) (hi : n.toInt = (i : Int)) (hcap : i ≤ cap) (hbig : cap * 8 ≤ 536870912) (hd : decode B.2.1 pc = .ok (.newarray .double, 2)) (hp : pc + 2 = pc') (hc : cl + 1 ≤ R.cells) (hl : sl + cap ≤ R.slots)
    (k : ∀ h' a, Ext h h' → h.size ≤ a → n0 ≤ a → ArD Z h' a (List.replicate i 0) → Go l Z R B n0 Q h' (cl + 1) (sl + cap) pc' Ls (.ref a :: st)) : Go l Z R B n0 Q h cl sl pc Ls (.int n :: st) :=
  Go.newarr pc' cap (aty := .double) w hi hcap hbig hd hp hc hl fun h' a E q1 q2 A => k h' a E q1 q2 (by show ArV _ _ _ _ _; rw [List.map_replicate]; exact A)
theorem Go.newI (pc' : Nat) (cap : Nat) {n : Int32} {i : Nat} (w : (Cond.arrayClass .int).before a0 Z = true) (hi : n.toInt = (i : Int)) (hcap : i ≤ cap) (hbig : cap * 8 ≤ 536870912) (hd : decode B.2.1 pc = .ok (.newarray .int, 2)) (hp : pc + 2 = pc') (hc : cl + 1 ≤ R.cells) (hl : sl + cap ≤ R.slots)
    (k : ∀ h' a, Ext h h' → h.size ≤ a → n0 ≤ a → ArI Z h' a (List.replicate i 0) → Go l Z R B n0 Q h' (cl + 1) (sl + cap) pc' Ls (.ref a :: st)) : Go l Z R B n0 Q h cl sl pc Ls (.int n :: st) :=
  Go.newarr pc' cap (aty := .int) w hi hcap hbig hd hp hc hl fun h' a E q1 q2 A => k h' a E q1 q2 (by show ArV _ _ _ _ _; rw [List.map_replicate]; exact A)
theorem Go.newJ (pc' : Nat) (cap : Nat) {n : Int32} {i : Nat} (w : (Cond.arrayClass .long).before a0 Z = true) (hi : n.toInt = (i : Int)) (hcap : i ≤ cap) (hbig : cap * 8 ≤ 536870912) (hd : decode B.2.1 pc = .ok (.newarray .long, 2)) (hp : pc + 2 = pc') (hc : cl + 1 ≤ R.cells) (hl : sl + cap ≤ R.slots)
    (k : ∀ h' a, Ext h h' → h.size ≤ a → n0 ≤ a → ArJ Z h' a (List.replicate i 0) → Go l Z R B n0 Q h' (cl + 1) (sl + cap) pc' Ls (.ref a :: st)) : Go l Z R B n0 Q h cl sl pc Ls (.int n :: st) :=
  Go.newarr pc' cap (aty := .long) w hi hcap hbig hd hp hc hl fun h' a E q1 q2 A => k h' a E q1 q2 (by show ArV _ _ _ _ _; rw [List.map_replicate]; exact A)
/-! ### returns -/
theorem Go.out {w : Option Value} (hv : B.2.2.2 = none → w = none) (q : Q w h) (hc : cl ≤ R.cells) (hs : sl ≤ R.slots)
    (f : ∀ {p : Program} {e : Env} {s : State} {m : MethodId} {args : Array Value} {below : List Frame} {meth : Method} {c : Code} {T : State} {locs : List Loc} {fs : List Frame}, Stand p l e R s m args below meth c T locs cl sl → p.tables.exec = Jvm.exec → c.code = B.2.1 → meth.sig.returnType = B.2.2.2 →
      (∀ (f : JFrame) (acts : List Action), f.method = m → f.locked = none → f.entered = [] → (doReturn e (T.setTop f) acts w).1 = T.setFrames fs) → Steps p.tables e below (T.setTop (mkF m pc Ls st)) (T.setFrames fs)) : Go l Z R B n0 Q h cl sl pc Ls st := by
  intro p e s m args below meth c T locs X cx fr eT hn
  obtain ⟨fs, hr, hrun, hended, hW, hsame⟩ := X.leave (v := w) (fun q0 => hv (cx.2.2.2.2.2.1.symm.trans q0)) cx.2.2.2.2.2.2.1
  refine ⟨_, _, f X cx.1 cx.2.2.2.1 cx.2.2.2.2.2.1 hr, hrun, hended, w, locs, rfl, ?_, ⟨_, rfl⟩, hW, hsame.mono hc hs⟩
  have e2 : (T.setFrames fs).heap = h := eT
  rw [e2]
  exact ⟨q, hn, fr⟩
theorem Go.ret (hd : decode B.2.1 pc = .ok (.return_, 1)) (hr : B.2.2.2 = none) (hc : cl ≤ R.cells) (hs : sl ≤ R.slots) (q : Q none h) : Go l Z R B n0 Q h cl sl pc Ls [] :=
  Go.out (w := none) (fun _ => rfl) q hc hs fun X hx hcd hrt hl => X.returnOut hx (hrt.trans hr) (hb hcd hd) hl
theorem Go.iret {x : Int32} (hd : decode B.2.1 pc = .ok (.ireturn, 1)) (hr : B.2.2.2 = some .int) (hc : cl ≤ R.cells) (hs : sl ≤ R.slots) (q : Q (some (.int x)) h) : Go l Z R B n0 Q h cl sl pc Ls (.int x :: st) :=
  Go.out (w := some (.int x)) (fun q0 => by rw [hr] at q0; cases q0) q hc hs fun X hx hcd hrt hl => retOut X hx (hrt.trans hr) rfl (Or.inl ⟨rfl, Or.inl rfl, x, rfl⟩) (hb hcd hd) hl
theorem Go.zret {x : Int32} (hd : decode B.2.1 pc = .ok (.ireturn, 1)) (hr : B.2.2.2 = some .boolean) (hx01 : x = 0 ∨ x = 1) (hc : cl ≤ R.cells) (hs : sl ≤ R.slots) (q : Q (some (.int x)) h) : Go l Z R B n0 Q h cl sl pc Ls (.int x :: st) :=
  Go.out (w := some (.int x)) (fun q0 => by rw [hr] at q0; cases q0) q hc hs fun X hx hcd hrt hl => retOut X hx (hrt.trans hr) (by rcases hx01 with rfl | rfl <;> rfl) (Or.inl ⟨rfl, Or.inr (Or.inl rfl), x, rfl⟩) (hb hcd hd) hl
theorem Go.lret {x : Int64} (hd : decode B.2.1 pc = .ok (.lreturn, 1)) (hr : B.2.2.2 = some .long) (hc : cl ≤ R.cells) (hs : sl ≤ R.slots) (q : Q (some (.long x)) h) : Go l Z R B n0 Q h cl sl pc Ls (.long x :: st) :=
  Go.out (w := some (.long x)) (fun q0 => by rw [hr] at q0; cases q0) q hc hs fun X hx hcd hrt hl => retOut X hx (hrt.trans hr) rfl (Or.inr (Or.inl ⟨rfl, rfl, x, rfl⟩)) (hb hcd hd) hl
theorem Go.dret {x : UInt64} (hd : decode B.2.1 pc = .ok (.dreturn, 1)) (hr : B.2.2.2 = some .double) (hc : cl ≤ R.cells) (hs : sl ≤ R.slots) (q : Q (some (.double x)) h) : Go l Z R B n0 Q h cl sl pc Ls (.double x :: st) :=
  Go.out (w := some (.double x)) (fun q0 => by rw [hr] at q0; cases q0) q hc hs fun X hx hcd hrt hl => retOut X hx (hrt.trans hr) rfl (Or.inr (Or.inr (Or.inl ⟨rfl, rfl, x, rfl⟩))) (hb hcd hd) hl
theorem Go.aret {x : Value} {t : FieldType} (hd : decode B.2.1 pc = .ok (.areturn, 1)) (hr : B.2.2.2 = some t) (ht : t.isReference = true) (hv : x.isRef = true) (hc : cl ≤ R.cells) (hs : sl ≤ R.slots) (q : Q (some x) h) : Go l Z R B n0 Q h cl sl pc Ls (x :: st) :=
  Go.out (w := some x) (fun q0 => by rw [hr] at q0; cases q0) q hc hs fun X hx hcd hrt hl => retOut X hx (hrt.trans hr) (by cases t <;> first | rfl | cases ht) (Or.inr (Or.inr (Or.inr (Or.inr ⟨rfl, ht, hv⟩)))) (hb hcd hd) hl
/-! ### calls -/
/-- a callee's contract pays a call, under the narrow word on the tables -/
theorem backH {p : Program} {e : Env} {s : State} {args : Array Value} {below : List Frame} {y : MethodName} {bytes : ByteArray} {maxL : Nat} {ret : Option FieldType} {rm : Room} {len W : Nat} {as' : Array Value} {P : Option Value → Heap → List Loc → Prop}
    (hM : MetFree l y (head1 [Cond.code y bytes maxL ret] rm) (fun a U => a = as' ∧ Z.WarmedH U.vm ∧ U.heap = h) (fun _ _ _ _ _ => True) (fun _ U o U' => ∃ v L, o = .returned v ∧ P v U'.heap L ∧ FrameEnd U o U' L rm.cells rm.slots))
    (hZ : Z.WarmedH s.vm) (wc : (Cond.code y bytes maxL ret).before a0 Z = true) (wz : (Cond.initialized y.cls).before a0 Z = true) (hf : rm.frames + 1 ≤ R.frames) (hl : W + (maxL + 11) + rm.locals ≤ R.locals) :
    Back l R p e below s args y len W (fun A a => a = as' ∧ A.U.heap = h ∧ A.cells + rm.cells ≤ R.cells ∧ A.slots + rm.slots ≤ R.slots)
      (fun A _ v B => ∃ L, P v B.U.heap L ∧ B.locs = A.locs ++ L ∧ B.cells = A.cells + rm.cells ∧ B.slots = A.slots + rm.slots) := by
  refine Back.of_free (bytes := bytes) (maxL := maxL) (ret := ret) (E := fun _ _ o t L k n => k = rm.cells ∧ n = rm.slots ∧ ∃ v, o = .returned v ∧ P v t.heap L) hM hf hl ?_ ?_ ?_ ?_ ?_
  · intro m meth c A a Y hp
    have hU : Z.Warmed39 A.U.vm := (State.WarmedH.trans hZ Y.warmed).wide
    refine ⟨?_, mv hU wc, mv hU wz, hp.2.2.1, hp.2.2.2⟩
    show (Cond.and _ .tt).before a A.U = true
    rw [Cond.before_and, mv hU wc]; rfl
  · intro m meth c A a g mk Y hp
    exact ⟨hp.1, State.WarmedH.trans hZ Y.warmed, hp.2.1⟩
  · intros; trivial
  · rintro _ _ _ _ ⟨v, L, h1, h2, h3⟩
    exact ⟨L, _, _, h3, rfl, rfl, v, h1, h2⟩
  · rintro m meth c A a g mk v t L k n Y hp _ _ ⟨e1, e2, v', e3, e4⟩
    cases e3; subst e1 e2; exact ⟨L, e4, rfl, rfl, rfl⟩
/-- a body's walk from its entry is its contract -/
theorem Go.met {y : MethodName} {bytes : ByteArray} {maxL : Nat} {ret : Option FieldType} {rm : Room} {as' : Array Value} {Ls' : Array Slot} {ws : List Jvm.Cond} (pn : plainName y.cls = true) (hn : n0 ≤ h.size) (ef : ∀ m, entryFrame m as' maxL = mkF m 0 Ls' [])
    (k : Go l Z rm (y, bytes, maxL, ret) n0 Q h 0 0 0 Ls' []) :
    MetFree l y (head1 (Jvm.Cond.code y bytes maxL ret :: ws) rm) (fun a U => a = as' ∧ Z.WarmedH U.vm ∧ U.heap = h) (fun _ _ _ _ _ => True) (fun _ U o U' => ∃ v L, o = .returned v ∧ (Q v U'.heap ∧ n0 ≤ U'.heap.size ∧ Fr n0 L) ∧ FrameEnd U o U' L rm.cells rm.slots) := by
  refine MetFree.of_bodySF (plainFor_of_name pn) hisR ?_
  intro p e s m args below meth c s₁ Bd hml0 hP hK
  obtain ⟨rfl, hZ, hh⟩ := hP
  have e0 : s₁.heap = h := by rw [← hh, Bd.state]; rfl
  obtain ⟨s₂, o, h1, r⟩ := k _ _ _ _ _ _ _ _ _ _ (Stand.of_body Bd) ⟨Bd.exec, hZ.wide, findClass_of_methodNamed Bd.named, Bd.bytes, hml0, Bd.returns, Bd.notSynchronized, (name_of_methodNamed Bd.named Bd.method).1, hZ, Bd.named⟩ (Fr.nil n0) e0 hn
  exact ⟨s₂, o, castTop (ef m) h1, r⟩
theorem Go.callV (pc' : Nat) {index : Nat} {y : MethodName} {bytes : ByteArray} {maxL : Nat} {ret : Option FieldType} {rm : Room} {Q' : Option Value → Heap → Prop} {Ls' : Array Slot} {a : Nat} (argsL rest : List Value) {ps : List FieldType} {rt : Option FieldType}
    (w1 : (Cond.methodLink B.1.cls index y).before a0 Z = true) (w2 : (Cond.declares y).before a0 Z = true) (w3 : (Cond.selects y.cls y y).before a0 Z = true) (w4 : (Cond.instanceMethod y).before a0 Z = true) (w5 : (Cond.code y bytes maxL ret).before a0 Z = true) (w6 : (Cond.initialized y.cls).before a0 Z = true)
    (hy : y.cls ≠ "java/lang/invoke/MethodHandle" ∧ y.cls ≠ "java/lang/invoke/VarHandle") (pn : plainName y.cls = true) (pd : parseMethodDescriptor y.desc = some ⟨ps, rt⟩) (hlen : argsL.length = ps.length)
    (E : Exa Z h a y.cls) (ef : ∀ m, entryFrame m (.ref a :: argsL).toArray maxL = mkF m 0 Ls' [])
    (callee : Go l Z rm (y, bytes, maxL, ret) n0 Q' h 0 0 0 Ls' [])
    (hst : st = argsL.reverse ++ .ref a :: rest) (hsz : Ls.size = B.2.2.1) (hfr : rm.frames + 1 ≤ R.frames) (hlo : (rest.map fun v => v.category).sum + (maxL + 11) + rm.locals ≤ R.locals) (hc : cl + rm.cells ≤ R.cells) (hs : sl + rm.slots ≤ R.slots)
    (hd : decode B.2.1 pc = .ok (.invokevirtual index, 3)) (hp : pc + 3 = pc')
    (k : ∀ v h', Q' v h' → Go l Z R B n0 Q h' (cl + rm.cells) (sl + rm.slots) pc' Ls (v.toList ++ rest)) : Go l Z R B n0 Q h cl sl pc Ls st := by
  subst hp
  intro p e s m args below meth c T locs X cx fr eT hn
  obtain ⟨cq, kq, qa, qb, qc⟩ := isOf cx.2.1 eT E
  obtain ⟨v, _, ⟨T', L', k', n'⟩, -, X', ⟨Lc, hQ, l', y', z'⟩, stp⟩ := X.virtualBack cx.1 (y := y) (z := y) cx.2.2.1 (mvT cx.2.1 w1) (mvT cx.2.1 w2) (notFace_of_selects (args := #[]) (mvT cx.2.1 w3)) (mvT cx.2.1 w3) (mvT cx.2.1 w4) hy
    (backH (W := (rest.map fun v => v.category).sum) (P := fun v h' L => Q' v h' ∧ n0 ≤ h'.size ∧ Fr n0 L) (callee.met (ws := []) pn hn ef) cx.2.2.2.2.2.2.2.2.1 w5 w6 hfr hlo) qa qc (g := mkF m pc Ls st) rfl (hsz.trans cx.2.2.2.2.1.symm) (Steps.refl _) (argsL := argsL) (rest := rest) (lenOf pd hlen) hst (by show 2 * 0 + _ ≤ _; omega) (hb cx.2.2.2.1 hd) (fun _ _ => ⟨rfl, eT, hc, hs⟩)
  dsimp only [Pt.U, Pt.locs, Pt.cells, Pt.slots] at X' l' y' z' stp hQ
  subst l' y' z'
  obtain ⟨hQ1, hQ2, hQ3⟩ := hQ
  obtain ⟨s₂, o, h1, r⟩ := k v T'.heap hQ1 _ _ _ _ _ _ _ _ _ _ X' cx (Fr.app fr hQ3) rfl hQ2
  exact ⟨s₂, o, stp.trans h1, r⟩
theorem Go.callN (pc' : Nat) {index : Nat} {y : MethodName} {bytes : ByteArray} {maxL : Nat} {rm : Room} {Q' : Option Value → Heap → Prop} {Ls' : Array Slot} {a : Nat} (argsL rest : List Value) {ps : List FieldType} {rt : Option FieldType} (hy1 : y.name = "<init>")
    (w1 : (Cond.methodLink B.1.cls index y).before a0 Z = true) (w4 : (Cond.instanceMethod y).before a0 Z = true) (w5 : (Cond.code y bytes maxL none).before a0 Z = true) (w6 : (Cond.initialized y.cls).before a0 Z = true)
    (hy : y.cls ≠ "java/lang/invoke/MethodHandle" ∧ y.cls ≠ "java/lang/invoke/VarHandle") (pn : plainName y.cls = true) (pd : parseMethodDescriptor y.desc = some ⟨ps, rt⟩) (hlen : argsL.length = ps.length)
    (ef : ∀ m, entryFrame m (.ref a :: argsL).toArray maxL = mkF m 0 Ls' [])
    (callee : Go l Z rm (y, bytes, maxL, none) n0 Q' h 0 0 0 Ls' [])
    (hst : st = argsL.reverse ++ .ref a :: rest) (hsz : Ls.size = B.2.2.1) (hfr : rm.frames + 1 ≤ R.frames) (hlo : (rest.map fun v => v.category).sum + (maxL + 11) + rm.locals ≤ R.locals) (hc : cl + rm.cells ≤ R.cells) (hs : sl + rm.slots ≤ R.slots)
    (hd : decode B.2.1 pc = .ok (.invokespecial index, 3)) (hp : pc + 3 = pc')
    (k : ∀ v h', Q' v h' → Go l Z R B n0 Q h' (cl + rm.cells) (sl + rm.slots) pc' Ls (v.toList ++ rest)) : Go l Z R B n0 Q h cl sl pc Ls st := by
  subst hp
  intro p e s m args below meth c T locs X cx fr eT hn
  obtain ⟨v, _, ⟨T', L', k', n'⟩, -, X', ⟨Lc, hQ, l', y', z'⟩, stp⟩ := X.specialBack cx.1 (y := y) hy1 cx.2.2.1 (mvT cx.2.1 w1) (mvT cx.2.1 w4) (mvT cx.2.1 w5) hy
    (backH (W := (rest.map fun v => v.category).sum) (P := fun v h' L => Q' v h' ∧ n0 ≤ h'.size ∧ Fr n0 L) (callee.met (ws := []) pn hn ef) cx.2.2.2.2.2.2.2.2.1 w5 w6 hfr hlo) (g := mkF m pc Ls st) rfl (hsz.trans cx.2.2.2.2.1.symm) (Steps.refl _) (a := a) (argsL := argsL) (rest := rest) (lenOf pd hlen) hst (by show 2 * 0 + _ ≤ _; omega) (hb cx.2.2.2.1 hd) (fun _ _ => ⟨rfl, eT, hc, hs⟩)
  dsimp only [Pt.U, Pt.locs, Pt.cells, Pt.slots] at X' l' y' z' stp hQ
  subst l' y' z'
  obtain ⟨hQ1, hQ2, hQ3⟩ := hQ
  obtain ⟨s₂, o, h1, r⟩ := k v T'.heap hQ1 _ _ _ _ _ _ _ _ _ _ X' cx (Fr.app fr hQ3) rfl hQ2
  exact ⟨s₂, o, stp.trans h1, r⟩
theorem Go.callS (pc' : Nat) {index : Nat} {y : MethodName} {bytes : ByteArray} {maxL : Nat} {ret : Option FieldType} {rm : Room} {Q' : Option Value → Heap → Prop} {Ls' : Array Slot} (argsL rest : List Value) {ps : List FieldType} {rt : Option FieldType}
    (w1 : (Cond.methodLink B.1.cls index y).before a0 Z = true) (w2 : (Cond.static y).before a0 Z = true) (w5 : (Cond.code y bytes maxL ret).before a0 Z = true) (w6 : (Cond.initialized y.cls).before a0 Z = true)
    (hy : y.cls ≠ "java/lang/invoke/MethodHandle" ∧ y.cls ≠ "java/lang/invoke/VarHandle") (pn : plainName y.cls = true) (pd : parseMethodDescriptor y.desc = some ⟨ps, rt⟩) (hlen : argsL.length = ps.length)
    (ef : ∀ m, entryFrame m argsL.toArray maxL = mkF m 0 Ls' [])
    (callee : Go l Z rm (y, bytes, maxL, ret) n0 Q' h 0 0 0 Ls' [])
    (hst : st = argsL.reverse ++ rest) (hsz : Ls.size = B.2.2.1) (hfr : rm.frames + 1 ≤ R.frames) (hlo : (rest.map fun v => v.category).sum + (maxL + 11) + rm.locals ≤ R.locals) (hc : cl + rm.cells ≤ R.cells) (hs : sl + rm.slots ≤ R.slots)
    (hd : decode B.2.1 pc = .ok (.invokestatic index, 3)) (hp : pc + 3 = pc')
    (k : ∀ v h', Q' v h' → Go l Z R B n0 Q h' (cl + rm.cells) (sl + rm.slots) pc' Ls (v.toList ++ rest)) : Go l Z R B n0 Q h cl sl pc Ls st := by
  subst hp
  intro p e s m args below meth c T locs X cx fr eT hn
  obtain ⟨v, _, ⟨T', L', k', n'⟩, -, X', ⟨Lc, hQ, l', y', z'⟩, stp⟩ := Jvm.LawKit.callS X cx.1 (y := y) cx.2.2.1 (mvT cx.2.1 w1) (mvT cx.2.1 w2) (mvT cx.2.1 w6) (mvT cx.2.1 w5) hy
    (backH (W := (rest.map fun v => v.category).sum) (P := fun v h' L => Q' v h' ∧ n0 ≤ h'.size ∧ Fr n0 L) (callee.met (ws := []) pn hn ef) cx.2.2.2.2.2.2.2.2.1 w5 w6 hfr hlo) (g := mkF m pc Ls st) rfl (hsz.trans cx.2.2.2.2.1.symm) (argsL := argsL) (rest := rest) (lenOf pd hlen) hst (by show 2 * 0 + _ ≤ _; omega) (hb cx.2.2.2.1 hd) (fun _ _ => ⟨rfl, eT, hc, hs⟩)
  dsimp only [Pt.U, Pt.locs, Pt.cells, Pt.slots] at X' l' y' z' stp hQ
  subst l' y' z'
  obtain ⟨hQ1, hQ2, hQ3⟩ := hQ
  obtain ⟨s₂, o, h1, r⟩ := k v T'.heap hQ1 _ _ _ _ _ _ _ _ _ _ X' cx (Fr.app fr hQ3) rfl hQ2
  exact ⟨s₂, o, stp _ h1, r⟩
end Rules
end Jvm.GoK
namespace Jvm.GoK
open Jvm.Free
theorem toInt_add {x y : Int32} {a b : Int} {c : Int} (hx : x.toInt = a) (hy : y.toInt = b) (h1 : -2147483648 ≤ a + b) (h2 : a + b < 2147483648) (e : a + b = c) : (x + y).toInt = c := by
  rw [XT.add32 (show XT.fits32 _ from ⟨by rw [hx, hy]; omega, by rw [hx, hy]; omega⟩), hx, hy, e]
theorem toInt_add' {x y z : Int32} {a b : Int} {c : Int} (hx : x.toInt = a) (hy : y.toInt = b) (hz : x + y = z) (h1 : -2147483648 ≤ a + b) (h2 : a + b < 2147483648) (e : a + b = c) : z.toInt = c := hz ▸ toInt_add hx hy h1 h2 e
theorem toInt_sub {x y : Int32} {a b : Int} {c : Int} (hx : x.toInt = a) (hy : y.toInt = b) (h1 : -2147483648 ≤ a - b) (h2 : a - b < 2147483648) (e : a - b = c) : (x - y).toInt = c := by
  rw [XT.sub32 (show XT.fits32 _ from ⟨by rw [hx, hy]; omega, by rw [hx, hy]; omega⟩), hx, hy, e]
theorem toInt_mul {x y : Int32} {a b : Int} {c : Int} (hx : x.toInt = a) (hy : y.toInt = b) (h1 : -2147483648 ≤ a * b) (h2 : a * b < 2147483648) (e : a * b = c) : (x * y).toInt = c := by
  rw [XT.mul32 (show XT.fits32 _ from ⟨by rw [hx, hy]; omega, by rw [hx, hy]; omega⟩), hx, hy, e]
end Jvm.GoK
namespace Jvm.GoK
open Jvm.Free
theorem toInt_ladd {x y : Int64} {a b c : Int} (hx : x.toInt = a) (hy : y.toInt = b) (h1 : -9223372036854775808 ≤ a + b) (h2 : a + b < 9223372036854775808) (e : a + b = c) : (x + y).toInt = c := by
  rw [XT.add64 (show XT.fits64 _ from ⟨by rw [hx, hy]; omega, by rw [hx, hy]; omega⟩), hx, hy, e]
theorem toInt_lsub {x y : Int64} {a b c : Int} (hx : x.toInt = a) (hy : y.toInt = b) (h1 : -9223372036854775808 ≤ a - b) (h2 : a - b < 9223372036854775808) (e : a - b = c) : (x - y).toInt = c := by
  rw [XT.sub64 (show XT.fits64 _ from ⟨by rw [hx, hy]; omega, by rw [hx, hy]; omega⟩), hx, hy, e]
theorem toInt_lmul {x y : Int64} {a b c : Int} (hx : x.toInt = a) (hy : y.toInt = b) (h1 : -9223372036854775808 ≤ a * b) (h2 : a * b < 9223372036854775808) (e : a * b = c) : (x * y).toInt = c := by
  rw [XT.mul64 (show XT.fits64 _ from ⟨by rw [hx, hy]; omega, by rw [hx, hy]; omega⟩), hx, hy, e]
theorem b32 (x : Int32) : -2147483648 ≤ x.toInt ∧ x.toInt < 2147483648 := ⟨x.le_toInt, x.toInt_lt⟩
theorem and_nat (n : Int32) (k : Nat) (hk : k < 2147483648) : ∃ j : Nat, j ≤ k ∧ (n &&& Int32.ofNat k).toInt = (j : Int) := by
  have h : (n &&& Int32.ofNat k).toInt = ((n.toBitVec &&& BitVec.ofNat 32 k).toNat : Int) := by
    show (n.toBitVec &&& BitVec.ofNat 32 k).toInt = _
    rw [BitVec.toInt_eq_toNat_of_lt]
    have h2 : (n.toBitVec &&& BitVec.ofNat 32 k).toNat ≤ (BitVec.ofNat 32 k).toNat := by rw [BitVec.toNat_and]; exact Nat.and_le_right
    have h3 : (BitVec.ofNat 32 k).toNat = k := by rw [BitVec.toNat_ofNat]; omega
    omega
  refine ⟨_, ?_, h⟩
  have h3 : (BitVec.ofNat 32 k).toNat = k := by rw [BitVec.toNat_ofNat]; omega
  rw [BitVec.toNat_and]
  exact Nat.le_trans Nat.and_le_right (Nat.le_of_eq h3)
theorem and3 (n : Int32) : n &&& 3 = 0 ∨ n &&& 3 = 1 ∨ n &&& 3 = 2 ∨ n &&& 3 = 3 := by
  obtain ⟨j, h1, h2⟩ := and_nat n 3 (by decide)
  have h2 : (n &&& 3).toInt = (j : Int) := h2
  have : j = 0 ∨ j = 1 ∨ j = 2 ∨ j = 3 := by omega
  rcases this with rfl | rfl | rfl | rfl
  · exact Or.inl (Int32.toInt_inj.mp h2)
  · exact Or.inr (Or.inl (Int32.toInt_inj.mp h2))
  · exact Or.inr (Or.inr (Or.inl (Int32.toInt_inj.mp h2)))
  · exact Or.inr (Or.inr (Or.inr (Int32.toInt_inj.mp h2)))
theorem fill_step {α : Type} {rs : List α} {z g : α} {j k : Nat} (hg : rs[j]? = some g) (hk : rs.length = k) : (rs.take j ++ List.replicate (k - j) z).set j g = rs.take (j + 1) ++ List.replicate (k - (j + 1)) z := by
  have hj := (List.getElem?_eq_some_iff.mp hg).1
  have hlen : (rs.take j).length = j := by rw [List.length_take]; omega
  rw [List.set_append, hlen, if_neg (Nat.lt_irrefl j), Nat.sub_self, List.take_add_one, hg]
  obtain ⟨m, hm⟩ : ∃ m, k - j = m + 1 := ⟨k - j - 1, by omega⟩
  rw [hm, show k - (j + 1) = m by omega, List.replicate_succ, List.set_cons_zero, List.append_assoc]
  rfl
end Jvm.GoK
namespace Jvm.GoK
theorem fill_step2 {α : Type} {rs : List α} {z g : α} {j m : Nat} (hg : rs[j]? = some g) : (rs.take j ++ List.replicate (m + 1) z).set j g = rs.take (j + 1) ++ List.replicate m z := by
  have hj := (List.getElem?_eq_some_iff.mp hg).1
  have hlen : (rs.take j).length = j := by rw [List.length_take]; omega
  rw [List.set_append, hlen, if_neg (Nat.lt_irrefl j), Nat.sub_self, List.take_add_one, hg, List.replicate_succ, List.set_cons_zero, List.append_assoc]
  rfl
end Jvm.GoK
namespace Jvm.GoK
theorem leB {a b : Nat} (h : Nat.ble a b = true) : a ≤ b := Nat.le_of_ble_eq_true h
end Jvm.GoK
namespace Jvm.GoK
theorem lit1 : (1 : Int32).toInt = 1 := by decide
theorem lit2 : (2 : Int32).toInt = 2 := by decide
theorem lit3 : (3 : Int32).toInt = 3 := by decide
theorem olit1 : (Int32.ofInt 1).toInt = 1 := by decide
theorem olit2 : (Int32.ofInt 2).toInt = 2 := by decide
theorem olitm : (Int32.ofInt (-1)).toInt = -1 := by decide
end Jvm.GoK
namespace Jvm.GoK
theorem ninN {a b : Nat} {l : List Nat} (h : a ≠ b) (q : a ∉ l) : a ∉ b :: l := Jvm.RoadKit.ninS h q
end Jvm.GoK
namespace Jvm.GoK
open Jvm.FP Jvm.Free.Fl Jvm.FP.Core
/-! ### doubles that are whole numbers: what each step makes of them -/
def DAdd (x y v : UInt64) : Prop := FP.dadd x y = v ∧ NoNaN64 v
def DSub (x y v : UInt64) : Prop := FP.dsub x y = v ∧ NoNaN64 v
def DMul (x y v : UInt64) : Prop := FP.dmul x y = v ∧ NoNaN64 v
def DDiv (x y v : UInt64) : Prop := FP.ddiv x y = v ∧ NoNaN64 v
theorem dint_nn {i : Int} {v : UInt64} (h : DInt i v) : NoNaN64 v := val64_no.mpr (DInt_ne_nan h)
theorem dint_cast {i j : Int} {v : UInt64} (h : DInt i v) (e : i = j) : DInt j v := e ▸ h
theorem dint_zero : DInt 0 0 := by
  unfold DInt
  rw [val64_zero]
  show signed false (0 * _) = 0 * _
  simp [signed]
theorem addI {i j : Int} {x y : UInt64} (hx : DInt i x) (hy : DInt j y) (b1 : -9007199254740992 ≤ i + j) (b2 : i + j ≤ 9007199254740992) : ∃ v, DAdd x y v ∧ DInt (i + j) v := by
  have q : DInt (i + j) (FP.dadd x y) := dadd_int hx hy (by omega)
  exact ⟨_, ⟨rfl, dint_nn q⟩, q⟩
theorem subI {i j : Int} {x y : UInt64} (hx : DInt i x) (hy : DInt j y) (b1 : -9007199254740992 ≤ i - j) (b2 : i - j ≤ 9007199254740992) : ∃ v, DSub x y v ∧ DInt (i - j) v := by
  have q : DInt (i - j) (FP.dsub x y) := dsub_int hx hy (by omega)
  exact ⟨_, ⟨rfl, dint_nn q⟩, q⟩
theorem mulI {i j : Int} {x y : UInt64} (hx : DInt i x) (hy : DInt j y) (b1 : -9007199254740992 ≤ i * j) (b2 : i * j ≤ 9007199254740992) : ∃ v, DMul x y v ∧ DInt (i * j) v := by
  have q : DInt (i * j) (FP.dmul x y) := dmul_int hx hy (by omega)
  exact ⟨_, ⟨rfl, dint_nn q⟩, q⟩
/-- what a comparison pushes -/
def sg (i j : Int) : Int32 := if i < j then -1 else if i = j then 0 else 1
theorem sg_cases (i j : Int) : ((sg i j).toInt = -1 ∧ i < j) ∨ ((sg i j).toInt = 0 ∧ i = j) ∨ ((sg i j).toInt = 1 ∧ j < i) := by
  unfold sg
  by_cases h1 : i < j
  · rw [if_pos h1]; exact Or.inl ⟨by decide, h1⟩
  · rw [if_neg h1]
    by_cases h2 : i = j
    · rw [if_pos h2]; exact Or.inr (Or.inl ⟨by decide, h2⟩)
    · rw [if_neg h2]; exact Or.inr (Or.inr ⟨by decide, by omega⟩)
theorem cmpV_sg (i j : Int) (o : ClassFile.CmpOp) : Op.cmpValue (some (compare i j)) o = sg i j := by
  unfold sg
  by_cases h1 : i < j
  · rw [if_pos h1, (compare_lt_iff i j).mpr h1]; cases o <;> rfl
  · rw [if_neg h1]
    by_cases h2 : i = j
    · rw [if_pos h2, (compare_eq_iff i j).mpr h2]; cases o <;> rfl
    · rw [if_neg h2, (compare_gt_iff i j).mpr (by omega)]; cases o <;> rfl
theorem cmpI {i j : Int} {x y : UInt64} (hx : DInt i x) (hy : DInt j y) (o : ClassFile.CmpOp) : Op.cmpValue (FP.dcmp x y) o = sg i j := by
  rw [show FP.dcmp x y = some (compare i j) from dcmp_int hx hy]; exact cmpV_sg i j o
end Jvm.GoK
namespace Jvm.GoK
theorem sg_self {i j : Int} (h : i = j) : (sg i j).toInt = 0 := by have := sg_cases i j; omega
end Jvm.GoK
namespace Jvm.GoK
open Jvm.FP Jvm.Free.Fl Jvm.FP.Core
/-! ### doubles that are a whole number over a power of two: DQ k i v says v = i / 2^k -/
def sc (k : Nat) : Datum → Datum
  | .fin s c q => .fin s c (q + (k : Int))
  | .inf s => .inf s
  | .nan => .nan
def DQ (k : Nat) (i : Int) (v : UInt64) : Prop := Whole i (sc k (val64 v))
theorem bal (A C : Nat) (x : Int) (N : Nat) (h : 0 ≤ x + N) : A * 2 ^ (x + N).toNat = C * 2 ^ N ↔ A * 2 ^ x.toNat = C * 2 ^ (-x).toNat := by
  by_cases hx : 0 ≤ x
  · rw [show (x + N).toNat = x.toNat + N by omega, show (-x).toNat = 0 by omega, Nat.pow_add, ← Nat.mul_assoc, Nat.pow_zero, Nat.mul_one]
    exact ⟨fun q => Nat.eq_of_mul_eq_mul_right (Nat.two_pow_pos N) q, fun q => by rw [q]⟩
  · obtain ⟨m, hm⟩ : ∃ m : Nat, x = -(m : Int) := ⟨(-x).toNat, by omega⟩
    subst hm
    obtain ⟨j, hj⟩ : ∃ j, N = j + m := ⟨N - m, by omega⟩
    subst hj
    rw [show (-(m : Int) + ((j + m : Nat) : Int)).toNat = j by omega, show (-(m : Int)).toNat = 0 by omega, show (- -(m : Int)).toNat = m by omega, Nat.pow_zero, Nat.mul_one, Nat.add_comm j m, Nat.pow_add, ← Nat.mul_assoc]
    exact ⟨fun q => Nat.eq_of_mul_eq_mul_right (Nat.two_pow_pos j) q, fun q => by rw [q]⟩
theorem dq_fin {k : Nat} {i : Int} {v : UInt64} (h : DQ k i v) : ∃ s c q, val64 v = .fin s c q := by
  unfold DQ at h
  cases hv : val64 v with
  | nan => rw [hv] at h; exact h.elim
  | inf => rw [hv] at h; exact h.elim
  | fin s c q => exact ⟨s, c, q, rfl⟩
theorem dq_ne {k : Nat} {i : Int} {v : UInt64} (h : DQ k i v) : val64 v ≠ .nan := by
  obtain ⟨s, c, q, e⟩ := dq_fin h; rw [e]; exact Datum.noConfusion
theorem dq_nn {k : Nat} {i : Int} {v : UInt64} (h : DQ k i v) : NoNaN64 v := val64_no.mpr (dq_ne h)
theorem dq_of_int {i : Int} {v : UInt64} (h : DInt i v) : DQ 0 i v := by
  unfold DQ; unfold DInt at h
  cases hv : val64 v with
  | nan => rw [hv] at h; exact h.elim
  | inf => rw [hv] at h; exact h.elim
  | fin s c q => rw [hv] at h; show Whole i (.fin s c (q + ((0 : Nat) : Int))); rw [Int.natCast_zero, Int.add_zero]; exact h
theorem dq_cast {k m : Nat} {i j : Int} {v : UInt64} (h : DQ k i v) (e : k = m) (e2 : i = j) : DQ m j v := e ▸ e2 ▸ h
theorem whole_two (m : Nat) : Whole ((2 : Int) ^ m) (.fin false 1 (m : Int)) := by
  show signed false (1 * 2 ^ ((m : Int)).toNat) = (2 : Int) ^ m * ((2 ^ (-(m : Int)).toNat : Nat) : Int)
  rw [show (-(m : Int)).toNat = 0 by omega, show ((m : Int)).toNat = m by omega]
  simp [signed]
theorem dq_up {k : Nat} {i : Int} {v : UInt64} (m : Nat) (h : DQ k i v) : DQ (k + m) (i * 2 ^ m) v := by
  obtain ⟨s, c, q, e⟩ := dq_fin h
  unfold DQ at h ⊢
  rw [e] at h ⊢
  have := whole_product h (whole_two m)
  have e2 : exactProduct (sc k (.fin s c q)) (.fin false 1 (m : Int)) = sc (k + m) (.fin s c q) := by
    show Datum.fin (s != false) (c * 1) (q + (k : Int) + (m : Int)) = Datum.fin s c (q + ((k + m : Nat) : Int))
    rw [Nat.mul_one, show (s != false) = s by cases s <;> rfl, Int.natCast_add, Int.add_assoc]
  rw [e2] at this; exact this
theorem whole_mk {i : Int} {s : Bool} {c : Nat} {q : Int} (hs : i = 0 ∨ s = decide (i < 0)) (h : c * 2 ^ q.toNat = i.natAbs * 2 ^ (-q).toNat) : Whole i (.fin s c q) := by
  show signed s (c * 2 ^ q.toNat) = i * ((2 ^ (-q).toNat : Nat) : Int)
  rw [h, signed_mul]
  congr 1
  rcases hs with rfl | rfl
  · exact signed_zero s
  · unfold signed
    by_cases hi : i < 0
    · rw [if_pos (by simpa using hi)]; omega
    · rw [if_neg (by simpa using hi)]; omega
/-- what rounds to a small whole number over a power of two is just that -/
theorem ratio_dy {k : Nat} {i : Int} {s : Bool} {A D : Nat} {e : Int} (hD : 0 < D) (hi : i.natAbs < 2 ^ 53) (hk : k ≤ 1000) (hs : i = 0 ∨ s = decide (i < 0)) (h : A * 1 * 2 ^ (e - -(k : Int)).toNat = i.natAbs * D * 2 ^ (-(k : Int) - e).toNat) : Whole i (sc k (roundRatio b64 s A D e)) := by
  rw [roundRatio_congr hD (by decide) h]
  obtain ⟨c', q', h1, h2⟩ := round_exact good_b64 s (c := i.natAbs) (q := -(k : Int)) hi (by rw [qmin_b64]; omega) (by
    have : b64.qmax = 971 := by decide
    omega)
  have h1' : roundRatio b64 s i.natAbs 1 (-(k : Int)) = .fin s c' q' := h1
  rw [h1']
  have hf := round_fits good_b64 (.fin s i.natAbs (-(k : Int)))
  rw [h1] at hf
  have hq : b64.qmin ≤ q' := hf.2.1
  rw [qmin_b64] at hq
  show Whole i (.fin s c' (q' + (k : Int)))
  refine whole_mk hs ?_
  unfold inUnits at h2
  rw [qmin_b64] at h2
  obtain ⟨N, hN⟩ : ∃ N : Nat, N = 1074 - k := ⟨_, rfl⟩
  refine (bal c' i.natAbs (q' + (k : Int)) N (by omega)).mp ?_
  rw [show (q' + (k : Int) + (N : Int)).toNat = (q' - -1074).toNat by omega, h2, show (-(k : Int) - -1074).toNat = N by omega]
theorem round_dy {k : Nat} {i : Int} {d : Datum} (h : Whole i (sc k d)) (hi : i.natAbs < 2 ^ 53) (hk : k ≤ 1000) : Whole i (sc k (round b64 d)) := by
  cases d with
  | nan => exact h.elim
  | inf => exact h.elim
  | fin s c q =>
    have h' : Whole i (.fin s c (q + (k : Int))) := h
    refine ratio_dy (by decide) hi hk ?_ ?_
    · by_cases h0 : i = 0
      · exact Or.inl h0
      · exact Or.inr (whole_sign h' h0)
    · have := whole_natAbs h'
      rw [Nat.mul_one, Nat.mul_one, show q - -(k : Int) = q + (k : Int) by omega, show -(k : Int) - q = -(q + (k : Int)) by omega]
      exact this
theorem mulQ {k m : Nat} {i j : Int} {x y : UInt64} (hx : DQ k i x) (hy : DQ m j y) (hb : (i * j).natAbs < 2 ^ 53) (hk : k + m ≤ 1000) : ∃ v, DMul x y v ∧ DQ (k + m) (i * j) v := by
  have q : DQ (k + m) (i * j) (FP.dmul x y) := by
    obtain ⟨s, c, q, e⟩ := dq_fin hx
    obtain ⟨t, d, r, e'⟩ := dq_fin hy
    unfold DQ at hx hy ⊢
    rw [val64_dmul]
    refine round_dy ?_ hb hk
    rw [e] at hx ⊢; rw [e'] at hy ⊢
    have := whole_product hx hy
    have e2 : exactProduct (sc k (.fin s c q)) (sc m (.fin t d r)) = sc (k + m) (exactProduct (.fin s c q) (.fin t d r)) := by
      show Datum.fin (s != t) (c * d) (q + (k : Int) + (r + (m : Int))) = Datum.fin (s != t) (c * d) (q + r + ((k + m : Nat) : Int))
      rw [show q + (k : Int) + (r + (m : Int)) = q + r + ((k + m : Nat) : Int) by omega]
    rw [e2] at this; exact this
  exact ⟨_, ⟨rfl, dq_nn q⟩, q⟩
theorem sc_sum (k : Nat) (s t : Bool) (c d : Nat) (q r : Int) : exactSum (sc k (.fin s c q)) (sc k (.fin t d r)) = sc k (exactSum (.fin s c q) (.fin t d r)) := by
  have hm : min (q + (k : Int)) (r + (k : Int)) = min q r + (k : Int) := by omega
  show Datum.fin (sumSign s t (sumUnits s c (q + k) t d (r + k) (min (q + (k : Int)) (r + (k : Int))))) (sumUnits s c (q + k) t d (r + k) (min (q + (k : Int)) (r + (k : Int)))).natAbs (min (q + (k : Int)) (r + (k : Int))) = Datum.fin (sumSign s t (sumUnits s c q t d r (min q r))) (sumUnits s c q t d r (min q r)).natAbs (min q r + (k : Int))
  rw [hm]
  have hu : sumUnits s c (q + k) t d (r + k) (min q r + (k : Int)) = sumUnits s c q t d r (min q r) := by
    unfold sumUnits inUnits
    rw [show q + (k : Int) - (min q r + (k : Int)) = q - min q r by omega, show r + (k : Int) - (min q r + (k : Int)) = r - min q r by omega]
  rw [hu]
theorem addQ {k : Nat} {i j : Int} {x y : UInt64} (hx : DQ k i x) (hy : DQ k j y) (hb : (i + j).natAbs < 2 ^ 53) (hk : k ≤ 1000) : ∃ v, DAdd x y v ∧ DQ k (i + j) v := by
  have q : DQ k (i + j) (FP.dadd x y) := by
    obtain ⟨s, c, q, e⟩ := dq_fin hx
    obtain ⟨t, d, r, e'⟩ := dq_fin hy
    unfold DQ at hx hy ⊢
    rw [val64_dadd]
    refine round_dy ?_ hb hk
    rw [e] at hx ⊢; rw [e'] at hy ⊢
    rw [← sc_sum]; exact whole_sum hx hy
  exact ⟨_, ⟨rfl, dq_nn q⟩, q⟩
theorem subQ {k : Nat} {i j : Int} {x y : UInt64} (hx : DQ k i x) (hy : DQ k j y) (hb : (i - j).natAbs < 2 ^ 53) (hk : k ≤ 1000) : ∃ v, DSub x y v ∧ DQ k (i - j) v := by
  have q : DQ k (i - j) (FP.dsub x y) := by
    obtain ⟨s, c, q, e⟩ := dq_fin hx
    obtain ⟨t, d, r, e'⟩ := dq_fin hy
    unfold DQ at hx hy ⊢
    rw [val64_dsub]
    refine round_dy ?_ hb hk
    rw [e] at hx ⊢; rw [e'] at hy ⊢
    show Whole (i - j) (sc k (exactSum (.fin s c q) (.fin (!t) d r)))
    rw [← sc_sum, Int.sub_eq_add_neg]; exact whole_sum hx (whole_negate hy)
  exact ⟨_, ⟨rfl, dq_nn q⟩, q⟩
theorem cmpQ {k : Nat} {i j : Int} {x y : UInt64} (hx : DQ k i x) (hy : DQ k j y) (o : ClassFile.CmpOp) : Op.cmpValue (FP.dcmp x y) o = sg i j := by
  have q : FP.dcmp x y = some (compare i j) := by
    obtain ⟨s, c, q, e⟩ := dq_fin hx
    obtain ⟨t, d, r, e'⟩ := dq_fin hy
    unfold DQ at hx hy
    have := order_whole hx hy
    show order (val64 x) (val64 y) = _
    rw [← this, e, e']
    show order _ _ = order (.fin s c (q + (k : Int))) (.fin t d (r + (k : Int)))
    unfold order inUnits
    have hm : min (q + (k : Int)) (r + (k : Int)) = min q r + (k : Int) := by omega
    dsimp only
    rw [hm, show q + (k : Int) - (min q r + (k : Int)) = q - min q r by omega, show r + (k : Int) - (min q r + (k : Int)) = r - min q r by omega]
  rw [q]; exact cmpV_sg i j o
/-- a quotient that comes out even: x / y = t / 2^n -/
theorem divQ {k m n : Nat} {i j t : Int} {x y : UInt64} (hx : DQ k i x) (hy : DQ m j y) (hj : 0 < j) (e : i * 2 ^ (m + n) = t * j * 2 ^ k) (hb : t.natAbs < 2 ^ 53) (hn : n ≤ 1000) : ∃ v, DDiv x y v ∧ DQ n t v := by
  have q : DQ n t (FP.ddiv x y) := by
    obtain ⟨s, c, q, ex⟩ := dq_fin hx
    obtain ⟨u, d, r, ey⟩ := dq_fin hy
    unfold DQ at hx hy ⊢
    rw [val64_ddiv, ex, ey]
    rw [ex] at hx; rw [ey] at hy
    have hx' : Whole i (.fin s c (q + (k : Int))) := hx
    have hy' : Whole j (.fin u d (r + (m : Int))) := hy
    have hd : d ≠ 0 := fun h0 => by have := (whole_zero hy').mp h0; omega
    have hu : u = false := by rw [whole_sign hy' (by omega)]; simp; omega
    show Whole t (sc n (if d = 0 then (if c = 0 then .nan else .inf (s != u)) else roundRatio b64 (s != u) c d (q - r)))
    rw [if_neg hd, hu, show (s != false) = s by cases s <;> rfl]
    have c1 := whole_natAbs hx'
    have c2 := whole_natAbs hy'
    have ea : i.natAbs * 2 ^ (m + n) = t.natAbs * j.natAbs * 2 ^ k := by
      have := congrArg Int.natAbs e
      simpa [Int.natAbs_mul, Int.natAbs_pow] using this
    have sgn : (t = 0 ↔ i = 0) ∧ (t < 0 ↔ i < 0) := by
      have p1 : (0 : Int) < 2 ^ (m + n) := Int.pow_pos (by decide)
      have p2 : (0 : Int) < 2 ^ k := Int.pow_pos (by decide)
      have p3 : (0 : Int) < j * 2 ^ k := Int.mul_pos hj p2
      have e' : i * 2 ^ (m + n) = t * (j * 2 ^ k) := by rw [e, Int.mul_assoc]
      constructor
      · constructor
        · intro h0; rw [h0, Int.zero_mul] at e'
          rcases Int.mul_eq_zero.mp e' with h | h
          · exact h
          · omega
        · intro h0; rw [h0, Int.zero_mul] at e'
          rcases Int.mul_eq_zero.mp e'.symm with h | h
          · exact h
          · omega
      · constructor
        · intro h0
          have : t * (j * 2 ^ k) < 0 := Int.mul_neg_of_neg_of_pos h0 p3
          rw [← e'] at this
          exact Int.lt_of_not_ge fun hh => Int.not_lt.mpr (Int.mul_nonneg hh (Int.le_of_lt p1)) this
        · intro h0
          have : i * 2 ^ (m + n) < 0 := Int.mul_neg_of_neg_of_pos h0 p1
          rw [e'] at this
          exact Int.lt_of_not_ge fun hh => Int.not_lt.mpr (Int.mul_nonneg hh (Int.le_of_lt p3)) this
    refine ratio_dy (Nat.pos_of_ne_zero hd) hb hn ?_ ?_
    · by_cases h0 : t = 0
      · exact Or.inl h0
      · refine Or.inr ?_
        rw [whole_sign hx' (fun h => h0 (sgn.1.mpr h))]
        exact decide_eq_decide.mpr sgn.2.symm
    · rw [Nat.mul_one, show q - r - -(n : Int) = q - r + (n : Int) by omega, show -(n : Int) - (q - r) = -(q - r + (n : Int)) by omega]
      obtain ⟨N1, h1⟩ : ∃ N : Nat, 0 ≤ q + (k : Int) + N ∧ 0 ≤ q + (N : Int) := ⟨(-q).toNat + (-(q + k)).toNat, by omega⟩
      obtain ⟨N2, h2⟩ : ∃ N : Nat, 0 ≤ r + (m : Int) + N ∧ 0 ≤ r + (N : Int) := ⟨(-r).toNat + (-(r + m)).toNat, by omega⟩
      obtain ⟨N3, h3⟩ : ∃ N : Nat, 0 ≤ q - r + (n : Int) + N := ⟨(-(q - r + n)).toNat, by omega⟩
      have b1 := (bal c i.natAbs (q + (k : Int)) N1 h1.1).mpr c1
      have b2 := (bal d j.natAbs (r + (m : Int)) N2 h2.1).mpr c2
      refine (bal c (t.natAbs * d) (q - r + (n : Int)) N3 h3).mp ?_
      obtain ⟨A, hA⟩ : ∃ A : Nat, (A : Int) = q + (k : Int) + N1 := ⟨(q + (k : Int) + N1).toNat, by omega⟩
      obtain ⟨D, hD⟩ : ∃ D : Nat, (D : Int) = r + (m : Int) + N2 := ⟨(r + (m : Int) + N2).toNat, by omega⟩
      obtain ⟨G, hG⟩ : ∃ G : Nat, (G : Int) = q - r + (n : Int) + N3 := ⟨(q - r + (n : Int) + N3).toNat, by omega⟩
      rw [show (q + (k : Int) + N1).toNat = A by omega] at b1
      rw [show (r + (m : Int) + N2).toNat = D by omega] at b2
      rw [show (q - r + (n : Int) + (N3 : Int)).toNat = G by omega]
      have hGD : G + D + (k + N1) = A + (m + n) + (N2 + N3) := by omega
      refine Nat.eq_of_mul_eq_mul_right (Nat.two_pow_pos (D + (k + N1))) ?_
      calc c * 2 ^ G * 2 ^ (D + (k + N1)) = c * 2 ^ (G + D + (k + N1)) := by rw [Nat.mul_assoc, ← Nat.pow_add, Nat.add_assoc]
        _ = c * 2 ^ A * (2 ^ (m + n) * 2 ^ (N2 + N3)) := by rw [hGD, Nat.pow_add, Nat.pow_add 2 A]; ac_rfl
        _ = i.natAbs * 2 ^ (m + n) * (2 ^ N1 * 2 ^ (N2 + N3)) := by rw [b1]; ac_rfl
        _ = t.natAbs * j.natAbs * 2 ^ k * (2 ^ N1 * 2 ^ (N2 + N3)) := by rw [ea]
        _ = t.natAbs * (j.natAbs * 2 ^ N2) * 2 ^ N3 * (2 ^ k * 2 ^ N1) := by rw [Nat.pow_add 2 N2]; ac_rfl
        _ = t.natAbs * d * 2 ^ N3 * 2 ^ (D + (k + N1)) := by rw [← b2, Nat.pow_add 2 D, Nat.pow_add 2 k]; ac_rfl
  exact ⟨_, ⟨rfl, dq_nn q⟩, q⟩
end Jvm.GoK
namespace Jvm.GoK
theorem dq_zero (k : Nat) : DQ k 0 0 := by
  have := dq_up k (dq_of_int dint_zero)
  exact dq_cast this (by omega) (by omega)
end Jvm.GoK
namespace Jvm.GoK
theorem sg_zero {i j : Int} (e : i = j) : sg i j = 0 := by subst e; simp [sg]
theorem cmpQ0 {k : Nat} {i j : Int} {x y : UInt64} (hx : DQ k i x) (hy : DQ k j y) (e : i = j) (o : ClassFile.CmpOp) : Op.cmpValue (FP.dcmp x y) o = 0 := (cmpQ hx hy o).trans (sg_zero e)
end Jvm.GoK
namespace Jvm.Pilot.@@N@@
open Jvm Jvm.ClassFile Sem Op Lib Jvm.Free Jvm.Stand Jvm.LawKit Jvm.RoadKit Bundle Jvm.GoK Jvm.Pilot.@@N@@.Jvm.D
theorem d1_0 : decode method_2_code 0 = .ok (.lload_n 0, 1) := by decide +kernel
theorem d1_1 : decode method_2_code 1 = .ok (.iconst 3, 1) := by decide +kernel
theorem d1_2 : decode method_2_code 2 = .ok (.iload 6, 2) := by decide +kernel
theorem d1_4 : decode method_2_code 4 = .ok (.imul, 1) := by decide +kernel
theorem d1_5 : decode method_2_code 5 = .ok (.lushr, 1) := by decide +kernel
theorem d1_6 : decode method_2_code 6 = .ok (.ldc2_w 7, 3) := by decide +kernel
theorem d1_9 : decode method_2_code 9 = .ok (.land, 1) := by decide +kernel
theorem d1_10 : decode method_2_code 10 = .ok (.l2i, 1) := by decide +kernel
theorem d1_11 : decode method_2_code 11 = .ok (.istore 9, 2) := by decide +kernel
theorem d1_13 : decode method_2_code 13 = .ok (.aload_n 2, 1) := by decide +kernel
theorem d1_14 : decode method_2_code 14 = .ok (.iload 6, 2) := by decide +kernel
theorem d1_16 : decode method_2_code 16 = .ok (.iload 9, 2) := by decide +kernel
theorem d1_18 : decode method_2_code 18 = .ok (.iconst 4, 1) := by decide +kernel
theorem d1_19 : decode method_2_code 19 = .ok (.if_icmp .ge 7, 3) := by decide +kernel
theorem d1_22 : decode method_2_code 22 = .ok (.iconst 0, 1) := by decide +kernel
theorem d1_23 : decode method_2_code 23 = .ok (.goto 7, 3) := by decide +kernel
theorem d1_26 : decode method_2_code 26 = .ok (.iload 9, 2) := by decide +kernel
theorem d1_28 : decode method_2_code 28 = .ok (.iconst 3, 1) := by decide +kernel
theorem d1_29 : decode method_2_code 29 = .ok (.isub, 1) := by decide +kernel
theorem d1_30 : decode method_2_code 30 = .ok (.iastore, 1) := by decide +kernel
theorem d1_31 : decode method_2_code 31 = .ok (.aload 5, 2) := by decide +kernel
theorem d1_33 : decode method_2_code 33 = .ok (.iload 6, 2) := by decide +kernel
theorem d1_35 : decode method_2_code 35 = .ok (.aload_n 2, 1) := by decide +kernel
theorem d1_36 : decode method_2_code 36 = .ok (.iload 6, 2) := by decide +kernel
theorem d1_38 : decode method_2_code 38 = .ok (.iaload, 1) := by decide +kernel
theorem d1_39 : decode method_2_code 39 = .ok (.i2d, 1) := by decide +kernel
theorem d1_40 : decode method_2_code 40 = .ok (.dastore, 1) := by decide +kernel
theorem d1_41 : decode method_2_code 41 = .ok (.iload 6, 2) := by decide +kernel
theorem d1_43 : decode method_2_code 43 = .ok (.iload 7, 2) := by decide +kernel
theorem d1_45 : decode method_2_code 45 = .ok (.if_icmp .ge 11, 3) := by decide +kernel
theorem d1_48 : decode method_2_code 48 = .ok (.aload_n 3, 1) := by decide +kernel
theorem d1_49 : decode method_2_code 49 = .ok (.iload 6, 2) := by decide +kernel
theorem d1_51 : decode method_2_code 51 = .ok (.iconst 0, 1) := by decide +kernel
theorem d1_52 : decode method_2_code 52 = .ok (.iastore, 1) := by decide +kernel
theorem d1_53 : decode method_2_code 53 = .ok (.goto 36, 3) := by decide +kernel
theorem d1_56 : decode method_2_code 56 = .ok (.iload 6, 2) := by decide +kernel
theorem d1_58 : decode method_2_code 58 = .ok (.iload 7, 2) := by decide +kernel
theorem d1_60 : decode method_2_code 60 = .ok (.if_icmp .ne 14, 3) := by decide +kernel
theorem d1_63 : decode method_2_code 63 = .ok (.aload_n 3, 1) := by decide +kernel
theorem d1_64 : decode method_2_code 64 = .ok (.iload 6, 2) := by decide +kernel
theorem d1_66 : decode method_2_code 66 = .ok (.aload_n 2, 1) := by decide +kernel
theorem d1_67 : decode method_2_code 67 = .ok (.iload 6, 2) := by decide +kernel
theorem d1_69 : decode method_2_code 69 = .ok (.iaload, 1) := by decide +kernel
theorem d1_70 : decode method_2_code 70 = .ok (.iastore, 1) := by decide +kernel
theorem d1_71 : decode method_2_code 71 = .ok (.goto 18, 3) := by decide +kernel
theorem d1_74 : decode method_2_code 74 = .ok (.aload_n 3, 1) := by decide +kernel
theorem d1_75 : decode method_2_code 75 = .ok (.iload 6, 2) := by decide +kernel
theorem d1_77 : decode method_2_code 77 = .ok (.aload_n 3, 1) := by decide +kernel
theorem d1_78 : decode method_2_code 78 = .ok (.iload 6, 2) := by decide +kernel
theorem d1_80 : decode method_2_code 80 = .ok (.iconst 1, 1) := by decide +kernel
theorem d1_81 : decode method_2_code 81 = .ok (.isub, 1) := by decide +kernel
theorem d1_82 : decode method_2_code 82 = .ok (.iaload, 1) := by decide +kernel
theorem d1_83 : decode method_2_code 83 = .ok (.aload_n 2, 1) := by decide +kernel
theorem d1_84 : decode method_2_code 84 = .ok (.iload 6, 2) := by decide +kernel
theorem d1_86 : decode method_2_code 86 = .ok (.iaload, 1) := by decide +kernel
theorem d1_87 : decode method_2_code 87 = .ok (.iadd, 1) := by decide +kernel
theorem d1_88 : decode method_2_code 88 = .ok (.iastore, 1) := by decide +kernel
theorem d1_89 : decode method_2_code 89 = .ok (.iload 6, 2) := by decide +kernel
theorem d1_91 : decode method_2_code 91 = .ok (.iload 7, 2) := by decide +kernel
theorem d1_93 : decode method_2_code 93 = .ok (.if_icmp .ge 14, 3) := by decide +kernel
theorem d1_96 : decode method_2_code 96 = .ok (.aload 4, 2) := by decide +kernel
theorem d1_98 : decode method_2_code 98 = .ok (.iload 6, 2) := by decide +kernel
theorem d1_100 : decode method_2_code 100 = .ok (.ldc2_w 9, 3) := by decide +kernel
theorem d1_103 : decode method_2_code 103 = .ok (.dastore, 1) := by decide +kernel
theorem d1_104 : decode method_2_code 104 = .ok (.goto 31, 3) := by decide +kernel
theorem d1_107 : decode method_2_code 107 = .ok (.iload 6, 2) := by decide +kernel
theorem d1_109 : decode method_2_code 109 = .ok (.iload 8, 2) := by decide +kernel
theorem d1_111 : decode method_2_code 111 = .ok (.if_icmp .lt 14, 3) := by decide +kernel
theorem d1_114 : decode method_2_code 114 = .ok (.aload 4, 2) := by decide +kernel
theorem d1_116 : decode method_2_code 116 = .ok (.iload 6, 2) := by decide +kernel
theorem d1_118 : decode method_2_code 118 = .ok (.ldc2_w 11, 3) := by decide +kernel
theorem d1_121 : decode method_2_code 121 = .ok (.dastore, 1) := by decide +kernel
theorem d1_122 : decode method_2_code 122 = .ok (.goto 13, 3) := by decide +kernel
theorem d1_125 : decode method_2_code 125 = .ok (.aload 4, 2) := by decide +kernel
theorem d1_127 : decode method_2_code 127 = .ok (.iload 6, 2) := by decide +kernel
theorem d1_129 : decode method_2_code 129 = .ok (.aload_n 3, 1) := by decide +kernel
theorem d1_130 : decode method_2_code 130 = .ok (.iload 6, 2) := by decide +kernel
theorem d1_132 : decode method_2_code 132 = .ok (.iaload, 1) := by decide +kernel
theorem d1_133 : decode method_2_code 133 = .ok (.i2d, 1) := by decide +kernel
theorem d1_134 : decode method_2_code 134 = .ok (.dastore, 1) := by decide +kernel
theorem d1_135 : decode method_2_code 135 = .ok (.return_, 1) := by decide +kernel
theorem d2_0 : decode prog_207_method_9_code 0 = .ok (.iload_n 2, 1) := by decide +kernel
theorem d2_1 : decode prog_207_method_9_code 1 = .ok (.istore 6, 2) := by decide +kernel
theorem d2_3 : decode prog_207_method_9_code 3 = .ok (.iload_n 3, 1) := by decide +kernel
theorem d2_4 : decode prog_207_method_9_code 4 = .ok (.iload_n 2, 1) := by decide +kernel
theorem d2_5 : decode prog_207_method_9_code 5 = .ok (.isub, 1) := by decide +kernel
theorem d2_6 : decode prog_207_method_9_code 6 = .ok (.bipush 8, 2) := by decide +kernel
theorem d2_8 : decode prog_207_method_9_code 8 = .ok (.if_icmp .gt 41, 3) := by decide +kernel
theorem d2_11 : decode prog_207_method_9_code 11 = .ok (.iload_n 2, 1) := by decide +kernel
theorem d2_12 : decode prog_207_method_9_code 12 = .ok (.istore 7, 2) := by decide +kernel
theorem d2_14 : decode prog_207_method_9_code 14 = .ok (.iload 7, 2) := by decide +kernel
theorem d2_16 : decode prog_207_method_9_code 16 = .ok (.iload_n 3, 1) := by decide +kernel
theorem d2_17 : decode prog_207_method_9_code 17 = .ok (.if_icmp .ge 29, 3) := by decide +kernel
theorem d2_20 : decode prog_207_method_9_code 20 = .ok (.iload 6, 2) := by decide +kernel
theorem d2_22 : decode prog_207_method_9_code 22 = .ok (.aload_n 0, 1) := by decide +kernel
theorem d2_23 : decode prog_207_method_9_code 23 = .ok (.iload 7, 2) := by decide +kernel
theorem d2_25 : decode prog_207_method_9_code 25 = .ok (.daload, 1) := by decide +kernel
theorem d2_26 : decode prog_207_method_9_code 26 = .ok (.dload 4, 2) := by decide +kernel
theorem d2_28 : decode prog_207_method_9_code 28 = .ok (.dcmp .g, 1) := by decide +kernel
theorem d2_29 : decode prog_207_method_9_code 29 = .ok (.ifCond .gt 7, 3) := by decide +kernel
theorem d2_32 : decode prog_207_method_9_code 32 = .ok (.iconst 1, 1) := by decide +kernel
theorem d2_33 : decode prog_207_method_9_code 33 = .ok (.goto 4, 3) := by decide +kernel
theorem d2_36 : decode prog_207_method_9_code 36 = .ok (.iconst 0, 1) := by decide +kernel
theorem d2_37 : decode prog_207_method_9_code 37 = .ok (.iadd, 1) := by decide +kernel
theorem d2_38 : decode prog_207_method_9_code 38 = .ok (.istore 6, 2) := by decide +kernel
theorem d2_40 : decode prog_207_method_9_code 40 = .ok (.iinc 7 1, 3) := by decide +kernel
theorem d2_43 : decode prog_207_method_9_code 43 = .ok (.goto (-29), 3) := by decide +kernel
theorem d2_46 : decode prog_207_method_9_code 46 = .ok (.goto 48, 3) := by decide +kernel
theorem d2_49 : decode prog_207_method_9_code 49 = .ok (.iload_n 3, 1) := by decide +kernel
theorem d2_50 : decode prog_207_method_9_code 50 = .ok (.istore 7, 2) := by decide +kernel
theorem d2_52 : decode prog_207_method_9_code 52 = .ok (.iload 6, 2) := by decide +kernel
theorem d2_54 : decode prog_207_method_9_code 54 = .ok (.iload 7, 2) := by decide +kernel
theorem d2_56 : decode prog_207_method_9_code 56 = .ok (.if_icmp .ge 38, 3) := by decide +kernel
theorem d2_59 : decode prog_207_method_9_code 59 = .ok (.iload 6, 2) := by decide +kernel
theorem d2_61 : decode prog_207_method_9_code 61 = .ok (.iload 7, 2) := by decide +kernel
theorem d2_63 : decode prog_207_method_9_code 63 = .ok (.iadd, 1) := by decide +kernel
theorem d2_64 : decode prog_207_method_9_code 64 = .ok (.iconst 1, 1) := by decide +kernel
theorem d2_65 : decode prog_207_method_9_code 65 = .ok (.iushr, 1) := by decide +kernel
theorem d2_66 : decode prog_207_method_9_code 66 = .ok (.istore 8, 2) := by decide +kernel
theorem d2_68 : decode prog_207_method_9_code 68 = .ok (.aload_n 0, 1) := by decide +kernel
theorem d2_69 : decode prog_207_method_9_code 69 = .ok (.iload 8, 2) := by decide +kernel
theorem d2_71 : decode prog_207_method_9_code 71 = .ok (.daload, 1) := by decide +kernel
theorem d2_72 : decode prog_207_method_9_code 72 = .ok (.dload 4, 2) := by decide +kernel
theorem d2_74 : decode prog_207_method_9_code 74 = .ok (.dcmp .l, 1) := by decide +kernel
theorem d2_75 : decode prog_207_method_9_code 75 = .ok (.ifCond .le 10, 3) := by decide +kernel
theorem d2_78 : decode prog_207_method_9_code 78 = .ok (.iload 8, 2) := by decide +kernel
theorem d2_80 : decode prog_207_method_9_code 80 = .ok (.istore 7, 2) := by decide +kernel
theorem d2_82 : decode prog_207_method_9_code 82 = .ok (.goto 9, 3) := by decide +kernel
theorem d2_85 : decode prog_207_method_9_code 85 = .ok (.iload 8, 2) := by decide +kernel
theorem d2_87 : decode prog_207_method_9_code 87 = .ok (.iconst 1, 1) := by decide +kernel
theorem d2_88 : decode prog_207_method_9_code 88 = .ok (.iadd, 1) := by decide +kernel
theorem d2_89 : decode prog_207_method_9_code 89 = .ok (.istore 6, 2) := by decide +kernel
theorem d2_91 : decode prog_207_method_9_code 91 = .ok (.goto (-39), 3) := by decide +kernel
theorem d2_94 : decode prog_207_method_9_code 94 = .ok (.iload 6, 2) := by decide +kernel
theorem d2_96 : decode prog_207_method_9_code 96 = .ok (.iload_n 3, 1) := by decide +kernel
theorem d2_97 : decode prog_207_method_9_code 97 = .ok (.if_icmp .ne 29, 3) := by decide +kernel
theorem d2_100 : decode prog_207_method_9_code 100 = .ok (.iload_n 3, 1) := by decide +kernel
theorem d2_101 : decode prog_207_method_9_code 101 = .ok (.iconst 1, 1) := by decide +kernel
theorem d2_102 : decode prog_207_method_9_code 102 = .ok (.isub, 1) := by decide +kernel
theorem d2_103 : decode prog_207_method_9_code 103 = .ok (.istore 6, 2) := by decide +kernel
theorem d2_105 : decode prog_207_method_9_code 105 = .ok (.iload 6, 2) := by decide +kernel
theorem d2_107 : decode prog_207_method_9_code 107 = .ok (.iload_n 2, 1) := by decide +kernel
theorem d2_108 : decode prog_207_method_9_code 108 = .ok (.if_icmp .le 18, 3) := by decide +kernel
theorem d2_111 : decode prog_207_method_9_code 111 = .ok (.aload_n 1, 1) := by decide +kernel
theorem d2_112 : decode prog_207_method_9_code 112 = .ok (.iload 6, 2) := by decide +kernel
theorem d2_114 : decode prog_207_method_9_code 114 = .ok (.daload, 1) := by decide +kernel
theorem d2_115 : decode prog_207_method_9_code 115 = .ok (.dconst 0, 1) := by decide +kernel
theorem d2_116 : decode prog_207_method_9_code 116 = .ok (.dcmp .l, 1) := by decide +kernel
theorem d2_117 : decode prog_207_method_9_code 117 = .ok (.ifCond .ne 9, 3) := by decide +kernel
theorem d2_120 : decode prog_207_method_9_code 120 = .ok (.iinc 6 (-1), 3) := by decide +kernel
theorem d2_123 : decode prog_207_method_9_code 123 = .ok (.goto (-18), 3) := by decide +kernel
theorem d2_126 : decode prog_207_method_9_code 126 = .ok (.iload 6, 2) := by decide +kernel
theorem d2_128 : decode prog_207_method_9_code 128 = .ok (.ireturn, 1) := by decide +kernel
theorem ef_1_JAAAAIII (x0 : Int64) (x1 : Nat) (x2 : Nat) (x3 : Nat) (x4 : Nat) (x5 : Int32) (x6 : Int32) (x7 : Int32) (m : MethodId) : entryFrame m #[(.long x0), (.ref x1), (.ref x2), (.ref x3), (.ref x4), (.int x5), (.int x6), (.int x7)] 10 = mkF m 0 #[.val (.long x0), .second, .val (.ref x1), .val (.ref x2), .val (.ref x3), .val (.ref x4), .val (.int x5), .val (.int x6), .val (.int x7), .unset] [] := by first | (simp [entryFrame, mkF, argsToLocals, Value.category, maxLocals]; done) | rfl
theorem pn_1 : plainName "com/example/orderly_crowd/orderlycrowd/simulation/EventsFirstPastPinLaw" = true := by first | (simp [plainName, overriddenIn]; done) | decide +kernel
theorem pd_2 : parseMethodDescriptor "(J[I[I[D[DIII)V" = some ⟨[.long, (.array .int), (.array .int), (.array .double), (.array .double), .int, .int, .int], none⟩ := by decide +kernel
theorem ef_2_AAIID (x0 : Nat) (x1 : Nat) (x2 : Int32) (x3 : Int32) (x4 : UInt64) (m : MethodId) : entryFrame m #[(.ref x0), (.ref x1), (.int x2), (.int x3), (.double x4)] 9 = mkF m 0 #[.val (.ref x0), .val (.ref x1), .val (.int x2), .val (.int x3), .val (.double x4), .second, .unset, .unset, .unset] [] := by first | (simp [entryFrame, mkF, argsToLocals, Value.category, maxLocals]; done) | rfl
theorem pn_4 : plainName "com/example/orderly_crowd/orderlycrowd/simulation/Events" = true := by first | (simp [plainName, overriddenIn]; done) | decide +kernel
theorem pd_5 : parseMethodDescriptor "([D[DIID)I" = some ⟨[(.array .double), (.array .double), .int, .int, .double], some .int⟩ := by decide +kernel
theorem ef_0_JIII (x0 : Int64) (x1 : Int32) (x2 : Int32) (x3 : Int32) (m : MethodId) : entryFrame m #[(.long x0), (.int x1), (.int x2), (.int x3)] maxLocals = mkF m 0 #[.val (.long x0), .second, .val (.int x1), .val (.int x2), .val (.int x3), .unset, .unset, .unset, .unset, .unset, .unset, .unset, .unset, .unset, .unset] [] := by first | (simp [entryFrame, mkF, argsToLocals, Value.category, maxLocals]; done) | rfl
theorem law_pn0 : plainName "com/example/orderly_crowd/orderlycrowd/simulation/EventsFirstPastPinLaw" = true := by first | (simp [plainName, overriddenIn]; done) | decide +kernel
theorem law_pn : plainName x.cls = true := law_pn0
def Q1 (v : Option Value) (_ : Heap) : Prop := v = some (.int 1)
def gI (xs : List Int32) (i : Nat) : Int := (xs[i]?.getD 0).toInt
theorem gI_same {xs : List Int32} {k : Nat} {v : Int32} (h : k < xs.length) : gI (xs.set k v) k = v.toInt := by unfold gI; rw [List.getElem?_set_self h]; rfl
theorem gI_ne {xs : List Int32} {k i : Nat} {v : Int32} (h : k ≠ i) : gI (xs.set k v) i = gI xs i := by unfold gI; rw [List.getElem?_set_ne h]
theorem gI_get {xs : List Int32} {i : Nat} (h : i < xs.length) : ∃ x, xs[i]? = some x ∧ gI xs i = x.toInt := ⟨xs[i], List.getElem?_eq_getElem h, by unfold gI; rw [List.getElem?_eq_getElem h]; rfl⟩
/-- what the first k turns have laid -/
def Inv (fr to k : Nat) (ps cs : List Int32) (ss qs : List UInt64) : Prop := ∀ i, i < k → 0 ≤ gI ps i ∧ gI ps i ≤ 4 ∧ 0 ≤ gI cs i ∧ gI cs i ≤ 4 * ((i : Int) + 1) ∧ (∃ q, qs[i]? = some q ∧ FP.Core.DInt (gI ps i) q) ∧ (i < fr → gI cs i = 0) ∧ (i = fr → gI cs i = gI ps i) ∧ (fr < i → gI cs i = gI cs (i - 1) + gI ps i) ∧ (fr ≤ i → i < to → ∃ s, ss[i]? = some s ∧ FP.Core.DInt (gI cs i) s)
theorem Inv.next {fr to k : Nat} {ps cs : List Int32} {ss qs : List UInt64} {pv cv : Int32} {sv qv : UInt64} (I : Inv fr to k ps cs ss qs) (l1 : k < ps.length) (l2 : k < cs.length) (l3 : k < ss.length) (l4 : k < qs.length) (p1 : 0 ≤ pv.toInt ∧ pv.toInt ≤ 4) (c1 : 0 ≤ cv.toInt ∧ cv.toInt ≤ 4 * ((k : Int) + 1)) (dq : FP.Core.DInt pv.toInt qv)
    (e1 : k < fr → cv.toInt = 0) (e2 : k = fr → cv.toInt = pv.toInt) (e3 : fr < k → cv.toInt = gI cs (k - 1) + pv.toInt) (ds : fr ≤ k → k < to → FP.Core.DInt cv.toInt sv) : Inv fr to (k + 1) (ps.set k pv) (cs.set k cv) (ss.set k sv) (qs.set k qv) := by
  intro i hi
  by_cases hik : i = k
  · subst hik
    rw [gI_same l1, gI_same l2]
    refine ⟨p1.1, p1.2, c1.1, c1.2, ⟨qv, List.getElem?_set_self l4, dq⟩, e1, e2, fun h => ?_, fun h1 h2 => ⟨sv, List.getElem?_set_self l3, ds h1 h2⟩⟩
    rw [gI_ne (by omega)]; exact e3 h
  · have h := I i (by omega)
    rw [gI_ne (Ne.symm hik), gI_ne (Ne.symm hik), List.getElem?_set_ne (Ne.symm hik), List.getElem?_set_ne (Ne.symm hik)]
    refine ⟨h.1, h.2.1, h.2.2.1, h.2.2.2.1, h.2.2.2.2.1, h.2.2.2.2.2.1, h.2.2.2.2.2.2.1, fun q => ?_, h.2.2.2.2.2.2.2.2⟩
    rw [gI_ne (by omega)]; exact h.2.2.2.2.2.2.2.1 q
def AR (Z : State) (n0 : Nat) (h : Heap) (pa ca sa qa : Nat) (ps cs : List Int32) (ss qs : List UInt64) : Prop :=
  ArI Z h pa ps ∧ ArI Z h ca cs ∧ ArD Z h sa ss ∧ ArD Z h qa qs ∧ (ps.length = 12 ∧ cs.length = 12 ∧ ss.length = 12 ∧ qs.length = 12) ∧ (pa ≠ ca ∧ pa ≠ sa ∧ pa ≠ qa ∧ ca ≠ sa ∧ ca ≠ qa ∧ sa ≠ qa) ∧ n0 ≤ pa ∧ n0 ≤ ca ∧ n0 ≤ sa ∧ n0 ≤ qa
section AR
variable {Z : State} {n0 : Nat} {h h' : Heap} {pa ca sa qa : Nat} {ps cs ps' : List Int32} {ss qs ss' : List UInt64}
theorem AR.pset (H : AR Z n0 h pa ca sa qa ps cs ss qs) (K : Keep h h' [pa]) (A : ArI Z h' pa ps') (e : ps'.length = 12) : AR Z n0 h' pa ca sa qa ps' cs ss qs :=
  have D := H.2.2.2.2.2.1
  ⟨A, H.2.1.keep K (ninS (Ne.symm D.1) nin0), H.2.2.1.keep K (ninS (Ne.symm D.2.1) nin0), H.2.2.2.1.keep K (ninS (Ne.symm D.2.2.1) nin0), ⟨e, H.2.2.2.2.1.2⟩, H.2.2.2.2.2⟩
theorem AR.cset (H : AR Z n0 h pa ca sa qa ps cs ss qs) (K : Keep h h' [ca]) (A : ArI Z h' ca ps') (e : ps'.length = 12) : AR Z n0 h' pa ca sa qa ps ps' ss qs :=
  have D := H.2.2.2.2.2.1
  ⟨H.1.keep K (ninS D.1 nin0), A, H.2.2.1.keep K (ninS (Ne.symm D.2.2.2.1) nin0), H.2.2.2.1.keep K (ninS (Ne.symm D.2.2.2.2.1) nin0), ⟨H.2.2.2.2.1.1, e, H.2.2.2.2.1.2.2⟩, H.2.2.2.2.2⟩
theorem AR.sset (H : AR Z n0 h pa ca sa qa ps cs ss qs) (K : Keep h h' [sa]) (A : ArD Z h' sa ss') (e : ss'.length = 12) : AR Z n0 h' pa ca sa qa ps cs ss' qs :=
  have D := H.2.2.2.2.2.1
  ⟨H.1.keep K (ninS D.2.1 nin0), H.2.1.keep K (ninS D.2.2.2.1 nin0), A, H.2.2.2.1.keep K (ninS (Ne.symm D.2.2.2.2.2) nin0), ⟨H.2.2.2.2.1.1, H.2.2.2.2.1.2.1, e, H.2.2.2.2.1.2.2.2⟩, H.2.2.2.2.2⟩
theorem AR.qset (H : AR Z n0 h pa ca sa qa ps cs ss qs) (K : Keep h h' [qa]) (A : ArD Z h' qa ss') (e : ss'.length = 12) : AR Z n0 h' pa ca sa qa ps cs ss ss' :=
  have D := H.2.2.2.2.2.1
  ⟨H.1.keep K (ninS D.2.2.1 nin0), H.2.1.keep K (ninS D.2.2.2.2.1 nin0), H.2.2.1.keep K (ninS D.2.2.2.2.2 nin0), A, ⟨H.2.2.2.2.1.1, H.2.2.2.2.1.2.1, H.2.2.2.2.1.2.2.1, e⟩, H.2.2.2.2.2⟩
end AR
theorem and7 (x : Int64) : 0 ≤ (x &&& 7).toInt32.toInt ∧ (x &&& 7).toInt32.toInt ≤ 7 := by
  have h : (x &&& 7).toInt = ((x.toBitVec &&& 7#64).toNat : Int) := by
    show (x.toBitVec &&& 7#64).toInt = _
    rw [BitVec.toInt_eq_toNat_of_lt]
    have h2 : (x.toBitVec &&& 7#64).toNat ≤ 7 := by rw [BitVec.toNat_and]; exact Nat.and_le_right
    omega
  have h2 : (x.toBitVec &&& 7#64).toNat ≤ 7 := by rw [BitVec.toNat_and]; exact Nat.and_le_right
  rw [XT.narrowInt (show XT.fits32 _ from ⟨by omega, by omega⟩), h]
  omega
set_option maxRecDepth 65536 in
set_option maxHeartbeats 40000000 in
theorem step_go (l : Launch) (Z : State) (a0 : Array Value) (hw : ∀ d ∈ tables_1, d.before a0 Z = true) {n0 : Nat} {h : Heap} {pa ca sa qa : Nat} {ps cs : List Int32} {ss qs : List UInt64} {draws : Int64} {i fr_ to_ : Int32} {k fr to : Nat} (H : AR Z n0 h pa ca sa qa ps cs ss qs) (I : Inv fr to k ps cs ss qs) (hk : k < 12) (hi : i.toInt = (k : Int)) (hfr : fr_.toInt = (fr : Int)) (hto : to_.toInt = (to : Int)) :
    Go l Z ({ frames := 0, cells := 0, slots := 0, locals := 0 } : Room) ((⟨"com/example/orderly_crowd/orderlycrowd/simulation/EventsFirstPastPinLaw", "step", "(J[I[I[D[DIII)V"⟩ : MethodName), method_2_code, 10, none) n0 (fun r h' => r = none ∧ ∃ ps' cs' ss' qs', AR Z n0 h' pa ca sa qa ps' cs' ss' qs' ∧ Inv fr to (k + 1) ps' cs' ss' qs') h 0 0 0 #[.val (.long draws), .second, .val (.ref pa), .val (.ref ca), .val (.ref sa), .val (.ref qa), .val (.int i), .val (.int fr_), .val (.int to_), .unset] [] := by
  obtain ⟨v, hv⟩ : ∃ v : Int32, (XT.ushrL draws ((3 : Int32) * i) &&& 7).toInt32 = v := ⟨_, rfl⟩
  have bv := and7 (XT.ushrL draws ((3 : Int32) * i))
  rw [hv] at bv
  have LL := H.2.2.2.2.1
  have NN := H.2.2.2.2.2.2
  have g89 : ∀ (h3 : Heap) (pv cv : Int32), AR Z n0 h3 pa ca sa qa (ps.set k pv) (cs.set k cv) ss (qs.set k (FP.i2d pv)) → 0 ≤ pv.toInt ∧ pv.toInt ≤ 4 → 0 ≤ cv.toInt ∧ cv.toInt ≤ 4 * ((k : Int) + 1) → (k < fr → cv.toInt = 0) → (k = fr → cv.toInt = pv.toInt) → (fr < k → cv.toInt = gI cs (k - 1) + pv.toInt) → Go l Z ({ frames := 0, cells := 0, slots := 0, locals := 0 } : Room) ((⟨"com/example/orderly_crowd/orderlycrowd/simulation/EventsFirstPastPinLaw", "step", "(J[I[I[D[DIII)V"⟩ : MethodName), method_2_code, 10, none) n0 (fun r h' => r = none ∧ ∃ ps' cs' ss' qs', AR Z n0 h' pa ca sa qa ps' cs' ss' qs' ∧ Inv fr to (k + 1) ps' cs' ss' qs') h3 0 0 89 #[.val (.long draws), .second, .val (.ref pa), .val (.ref ca), .val (.ref sa), .val (.ref qa), .val (.int i), .val (.int fr_), .val (.int to_), .val (.int v)] [] := by
    intro h3 pv cv H3 p1 c1 e1 e2 e3
    have I3 : ∀ sv : UInt64, (fr ≤ k → k < to → FP.Core.DInt cv.toInt sv) → Inv fr to (k + 1) (ps.set k pv) (cs.set k cv) (ss.set k sv) (qs.set k (FP.i2d pv)) := fun sv q => I.next (by omega) (by omega) (by omega) (by omega) p1 c1 (FP.Core.i2d_int pv) e1 e2 e3 q
    refine Go.iload 91 d1_89 rfl rfl ?_
    refine Go.iload 93 d1_91 rfl rfl ?_
    refine Go.icmpB 107 96 d1_93 (by decide) (by decide) rfl (fun (hc : (fr_).toInt ≤ (i).toInt) => ?_) (fun (hc : (i).toInt < (fr_).toInt) => ?_)
    · refine Go.iload 109 d1_107 rfl rfl ?_
      refine Go.iload 111 d1_109 rfl rfl ?_
      refine Go.icmpB 125 114 d1_111 (by decide) (by decide) rfl (fun (hc2 : (i).toInt < (to_).toInt) => ?_) (fun (hc2 : (to_).toInt ≤ (i).toInt) => ?_)
      · refine Go.aload 127 d1_125 rfl rfl rfl ?_
        refine Go.iload 129 d1_127 rfl rfl ?_
        refine Go.aloadN 130 d1_129 rfl rfl rfl ?_
        refine Go.iload 132 d1_130 rfl rfl ?_
        refine Go.iaload 133 H3.2.1 hi (List.getElem?_set_self (by omega)) d1_132 rfl ?_
        refine Go.i2d 134 (FP.i2d cv) d1_133 rfl rfl ?_
        refine Go.dastore 135 H3.2.2.1 (i := k) hi (by omega) NN.2.2.1 d1_134 rfl ?_
        intro h4 K4 A4
        exact Go.ret d1_135 rfl (by decide) (by decide) ⟨rfl, _, _, _, _, H3.sset K4 A4 (by rw [List.length_set]; omega), I3 _ (fun _ _ => FP.Core.i2d_int cv)⟩
      · refine Go.aload 116 d1_114 rfl rfl rfl ?_
        refine Go.iload 118 d1_116 rfl rfl ?_
        refine Go.ldc2D 121 13875379345695965184 (hw _ (List.mem_of_getElem? (i := 9) rfl)) d1_118 rfl ?_
        refine Go.dastore 122 H3.2.2.1 (i := k) hi (by omega) NN.2.2.1 d1_121 rfl ?_
        intro h4 K4 A4
        refine Go.goto 135 d1_122 (by decide) (by decide) ?_
        exact Go.ret d1_135 rfl (by decide) (by decide) ⟨rfl, _, _, _, _, H3.sset K4 A4 (by rw [List.length_set]; omega), I3 _ (fun _ q => by omega)⟩
    · refine Go.aload 98 d1_96 rfl rfl rfl ?_
      refine Go.iload 100 d1_98 rfl rfl ?_
      refine Go.ldc2D 103 4652007308841189376 (hw _ (List.mem_of_getElem? (i := 8) rfl)) d1_100 rfl ?_
      refine Go.dastore 104 H3.2.2.1 (i := k) hi (by omega) NN.2.2.1 d1_103 rfl ?_
      intro h4 K4 A4
      refine Go.goto 135 d1_104 (by decide) (by decide) ?_
      exact Go.ret d1_135 rfl (by decide) (by decide) ⟨rfl, _, _, _, _, H3.sset K4 A4 (by rw [List.length_set]; omega), I3 _ (fun q _ => by omega)⟩
  have g30 : ∀ pv : Int32, 0 ≤ pv.toInt ∧ pv.toInt ≤ 4 → Go l Z ({ frames := 0, cells := 0, slots := 0, locals := 0 } : Room) ((⟨"com/example/orderly_crowd/orderlycrowd/simulation/EventsFirstPastPinLaw", "step", "(J[I[I[D[DIII)V"⟩ : MethodName), method_2_code, 10, none) n0 (fun r h' => r = none ∧ ∃ ps' cs' ss' qs', AR Z n0 h' pa ca sa qa ps' cs' ss' qs' ∧ Inv fr to (k + 1) ps' cs' ss' qs') h 0 0 30 #[.val (.long draws), .second, .val (.ref pa), .val (.ref ca), .val (.ref sa), .val (.ref qa), .val (.int i), .val (.int fr_), .val (.int to_), .val (.int v)] [(.int pv), (.int i), (.ref pa)] := by
    intro pv p1
    refine Go.iastore 31 H.1 (i := k) hi (by omega) NN.1 d1_30 rfl ?_
    intro h1 K1 A1
    have H1 := H.pset K1 A1 (by rw [List.length_set]; omega)
    refine Go.aload 33 d1_31 rfl rfl rfl ?_
    refine Go.iload 35 d1_33 rfl rfl ?_
    refine Go.aloadN 36 d1_35 rfl rfl rfl ?_
    refine Go.iload 38 d1_36 rfl rfl ?_
    refine Go.iaload 39 A1 hi (List.getElem?_set_self (by omega)) d1_38 rfl ?_
    refine Go.i2d 40 (FP.i2d pv) d1_39 rfl rfl ?_
    refine Go.dastore 41 H1.2.2.2.1 (i := k) hi (by omega) NN.2.2.2 d1_40 rfl ?_
    intro h2 K2 A2
    have H2 := H1.qset K2 A2 (by rw [List.length_set]; omega)
    refine Go.iload 43 d1_41 rfl rfl ?_
    refine Go.iload 45 d1_43 rfl rfl ?_
    refine Go.icmpB 56 48 d1_45 (by decide) (by decide) rfl (fun (hc : (fr_).toInt ≤ (i).toInt) => ?_) (fun (hc : (i).toInt < (fr_).toInt) => ?_)
    · refine Go.iload 58 d1_56 rfl rfl ?_
      refine Go.iload 60 d1_58 rfl rfl ?_
      refine Go.icmpB 74 63 d1_60 (by decide) (by decide) rfl (fun (hc2 : (i).toInt ≠ (fr_).toInt) => ?_) (fun (hc2 : (i).toInt = (fr_).toInt) => ?_)
      · obtain ⟨c9, e9, g9⟩ := gI_get (xs := cs) (i := k - 1) (by omega)
        have I9 := I (k - 1) (by omega)
        rw [g9] at I9
        refine Go.aloadN 75 d1_74 rfl rfl rfl ?_
        refine Go.iload 77 d1_75 rfl rfl ?_
        refine Go.aloadN 78 d1_77 rfl rfl rfl ?_
        refine Go.iload 80 d1_78 rfl rfl ?_
        refine Go.iconst 81 (1 : Int32) d1_80 rfl (by decide) ?_
        refine Go.isub 82 (i - (1 : Int32)) d1_81 rfl rfl ?_
        refine Go.iaload 83 H2.2.1 (i := k - 1) (toInt_sub hi lit1 (by omega) (by omega) (by omega)) e9 d1_82 rfl ?_
        refine Go.aloadN 84 d1_83 rfl rfl rfl ?_
        refine Go.iload 86 d1_84 rfl rfl ?_
        refine Go.iaload 87 H2.1 hi (List.getElem?_set_self (by omega)) d1_86 rfl ?_
        have ic : (c9 + pv).toInt = c9.toInt + pv.toInt := toInt_add rfl rfl (by omega) (by omega) rfl
        refine Go.iadd 88 (c9 + pv) d1_87 rfl rfl ?_
        refine Go.iastore 89 H2.2.1 (i := k) hi (by omega) NN.2.1 d1_88 rfl ?_
        intro h3 K3 A3
        exact g89 h3 pv (c9 + pv) (H2.cset K3 A3 (by rw [List.length_set]; omega)) p1 ⟨by omega, by omega⟩ (fun q => by omega) (fun q => by omega) (fun _ => by rw [ic, g9])
      · refine Go.aloadN 64 d1_63 rfl rfl rfl ?_
        refine Go.iload 66 d1_64 rfl rfl ?_
        refine Go.aloadN 67 d1_66 rfl rfl rfl ?_
        refine Go.iload 69 d1_67 rfl rfl ?_
        refine Go.iaload 70 H2.1 hi (List.getElem?_set_self (by omega)) d1_69 rfl ?_
        refine Go.iastore 71 H2.2.1 (i := k) hi (by omega) NN.2.1 d1_70 rfl ?_
        intro h3 K3 A3
        refine Go.goto 89 d1_71 (by decide) (by decide) ?_
        exact g89 h3 pv pv (H2.cset K3 A3 (by rw [List.length_set]; omega)) p1 ⟨p1.1, by omega⟩ (fun q => by omega) (fun _ => rfl) (fun q => by omega)
    · refine Go.aloadN 49 d1_48 rfl rfl rfl ?_
      refine Go.iload 51 d1_49 rfl rfl ?_
      refine Go.iconst 52 (0 : Int32) d1_51 rfl (by decide) ?_
      refine Go.iastore 53 H2.2.1 (i := k) hi (by omega) NN.2.1 d1_52 rfl ?_
      intro h3 K3 A3
      refine Go.goto 89 d1_53 (by decide) (by decide) ?_
      exact g89 h3 pv 0 (H2.cset K3 A3 (by rw [List.length_set]; omega)) p1 ⟨by decide, by have : (0 : Int32).toInt = 0 := (by decide); omega⟩ (fun _ => by decide) (fun q => by omega) (fun q => by omega)
  refine Go.lloadN 1 d1_0 rfl rfl ?_
  refine Go.iconst 2 (3 : Int32) d1_1 rfl (by decide) ?_
  refine Go.iload 4 d1_2 rfl rfl ?_
  refine Go.imul 5 ((3 : Int32) * i) d1_4 rfl rfl ?_
  refine Go.lushr 6 (XT.ushrL draws ((3 : Int32) * i)) d1_5 rfl rfl ?_
  refine Go.ldc2J 9 7 (hw _ (List.mem_of_getElem? (i := 7) rfl)) d1_6 rfl ?_
  refine Go.land 10 ((XT.ushrL draws ((3 : Int32) * i)) &&& 7) d1_9 rfl rfl ?_
  refine Go.l2i 11 v d1_10 rfl hv ?_
  refine Go.istore 13 #[.val (.long draws), .second, .val (.ref pa), .val (.ref ca), .val (.ref sa), .val (.ref qa), .val (.int i), .val (.int fr_), .val (.int to_), .val (.int v)] d1_11 rfl rfl ?_
  refine Go.aloadN 14 d1_13 rfl rfl rfl ?_
  refine Go.iload 16 d1_14 rfl rfl ?_
  refine Go.iload 18 d1_16 rfl rfl ?_
  refine Go.iconst 19 (4 : Int32) d1_18 rfl (by decide) ?_
  refine Go.icmpB 26 22 d1_19 (by decide) (by decide) rfl (fun (hc : (4 : Int) ≤ (v).toInt) => ?_) (fun (hc : (v).toInt < (4 : Int)) => ?_)
  · refine Go.iload 28 d1_26 rfl rfl ?_
    refine Go.iconst 29 (3 : Int32) d1_28 rfl (by decide) ?_
    refine Go.isub 30 (v - (3 : Int32)) d1_29 rfl rfl ?_
    have iv : (v - 3).toInt = v.toInt - 3 := toInt_sub rfl lit3 (by omega) (by omega) rfl
    exact g30 _ ⟨by omega, by omega⟩
  · refine Go.iconst 23 (0 : Int32) d1_22 rfl (by decide) ?_
    refine Go.goto 30 d1_23 (by decide) (by decide) ?_
    exact g30 _ ⟨by decide, by decide⟩
/-- what firstPast is given -/
def FP0 (Z : State) (h : Heap) (sa qa : Nat) (ss qs : List UInt64) (C P : Nat → Int) (fr to : Nat) (fr_ to_ : Int32) (t : Int) (tg : UInt64) : Prop :=
  ArD Z h sa ss ∧ ArD Z h qa qs ∧ (∀ i, fr ≤ i → i < to → ∃ s, ss[i]? = some s ∧ FP.Core.DInt (C i) s) ∧ (∀ i, fr ≤ i → i < to → ∃ q, qs[i]? = some q ∧ FP.Core.DInt (P i) q) ∧ (∀ i j, fr ≤ i → i ≤ j → j < to → C i ≤ C j) ∧ DQ 1 t tg ∧ fr < to ∧ to ≤ 12 ∧ fr_.toInt = (fr : Int) ∧ to_.toInt = (to : Int)
theorem mid_ (x y : Int32) {a b : Nat} (hx : x.toInt = (a : Int)) (hy : y.toInt = (b : Int)) (ha : a ≤ 1000) (hb : b ≤ 1000) : (XT.ushr (x + y) 1).toInt = (((a + b) / 2 : Nat) : Int) := by
  have h : (x + y).toInt = ((a + b : Nat) : Int) := toInt_add hx hy (by omega) (by omega) (by omega)
  have hn : (x + y).toUInt32.toNat = a + b := by
    have h2 : (x + y).toInt = (x + y).toBitVec.toInt := rfl
    have h3 := BitVec.toInt_eq_toNat_cond (x + y).toBitVec
    have h4 : (x + y).toUInt32.toNat = (x + y).toBitVec.toNat := rfl
    have h5 := (x + y).toBitVec.isLt
    rw [h4]
    rw [h2, h3] at h
    split at h <;> omega
  have e : XT.ushr (x + y) 1 = ((x + y).toUInt32 >>> 1).toInt32 := rfl
  have hs : ((x + y).toUInt32 >>> (1 : UInt32)).toNat = (a + b) / 2 := by
    rw [UInt32.toNat_shiftRight, hn]
    show (a + b) >>> 1 = _
    rw [Nat.shiftRight_eq_div_pow]
  rw [e]
  show ((x + y).toUInt32 >>> (1 : UInt32)).toBitVec.toInt = _
  rw [BitVec.toInt_eq_toNat_of_lt (by show 2 * ((x + y).toUInt32 >>> (1 : UInt32)).toNat < 2 ^ 32; rw [hs]; omega)]
  show ((((x + y).toUInt32 >>> (1 : UInt32)).toNat : Nat) : Int) = _
  rw [hs]
set_option maxRecDepth 65536 in
set_option maxHeartbeats 40000000 in
theorem fp_tail (l : Launch) (Z : State) (a0 : Array Value) (hw : ∀ d ∈ tables_1, d.before a0 Z = true) {n0 : Nat} {h : Heap} {sa qa : Nat} {ss qs : List UInt64} {C P : Nat → Int} {fr to : Nat} {fr_ to_ : Int32} {t : Int} {tg : UInt64} (F : FP0 Z h sa qa ss qs C P fr to fr_ to_ t tg) (hall : ∀ i, fr ≤ i → i < to → 2 * C i ≤ t) (s7 s8 : Slot) : ∀ (f j : Nat) (lw : Int32), j = fr + f → fr ≤ j → j < to → (∀ i, j < i → i < to → P i = 0) → lw.toInt = (j : Int) → Go l Z ({ frames := 0, cells := 0, slots := 0, locals := 0 } : Room) ((⟨"com/example/orderly_crowd/orderlycrowd/simulation/Events", "firstPast", "([D[DIID)I"⟩ : MethodName), prog_207_method_9_code, 9, some .int) n0 (fun v h' => ∃ (r : Int32) (k : Nat), v = some (.int r) ∧ r.toInt = (k : Int) ∧ fr ≤ k ∧ k < to ∧ ((t < 2 * C k ∧ (k = fr ∨ 2 * C (k - 1) ≤ t)) ∨ ((∀ i, fr ≤ i → i < to → 2 * C i ≤ t) ∧ (k = fr ∨ P k ≠ 0) ∧ ∀ j, k < j → j < to → P j = 0)) ∧ h' = h) h 0 0 105 #[.val (.ref sa), .val (.ref qa), .val (.int fr_), .val (.int to_), .val (.double tg), .second, .val (.int lw), s7, s8] [] := by
  obtain ⟨AS, AQ, hC, hP, mono, dt, hlt, h12, ifr, ito⟩ := F
  intro f
  induction f with
  | zero =>
    intro j lw hf h1 h2 hz hl
    refine Go.iload 107 d2_105 rfl rfl ?_
    refine Go.iloadN 108 d2_107 rfl rfl ?_
    refine Go.icmpT 126 d2_108 (by decide) (by decide) (show (lw).toInt ≤ (fr_).toInt from by omega) ?_
    refine Go.iload 128 d2_126 rfl rfl ?_
    exact Go.iret d2_128 rfl (by decide) (by decide) ⟨lw, j, rfl, hl, by omega, by omega, Or.inr ⟨hall, Or.inl (by omega), hz⟩, rfl⟩
  | succ f ih =>
    intro j lw hf h1 h2 hz hl
    refine Go.iload 107 d2_105 rfl rfl ?_
    refine Go.iloadN 108 d2_107 rfl rfl ?_
    refine Go.icmpF 111 d2_108 rfl (show (fr_).toInt < (lw).toInt from by omega) ?_
    obtain ⟨q, hq, dq⟩ := hP j (by omega) (by omega)
    refine Go.aloadN 112 d2_111 rfl rfl rfl ?_
    refine Go.iload 114 d2_112 rfl rfl ?_
    refine Go.daload 115 AQ hl hq d2_114 rfl ?_
    refine Go.dconst0 116 (0 : UInt64) d2_115 rfl rfl ?_
    refine Go.dcmp 117 (sg (P j) 0) d2_116 rfl (cmpI dq dint_zero _) ?_
    refine Go.ifCB 126 120 d2_117 (by decide) (by decide) rfl (fun (hc : ((sg (P j) 0)).toInt ≠ 0) => ?_) (fun (hc : ((sg (P j) 0)).toInt = 0) => ?_)
    · have := sg_cases (P j) 0
      refine Go.iload 128 d2_126 rfl rfl ?_
      exact Go.iret d2_128 rfl (by decide) (by decide) ⟨lw, j, rfl, hl, by omega, by omega, Or.inr ⟨hall, Or.inr (by omega), hz⟩, rfl⟩
    · have := sg_cases (P j) 0
      obtain ⟨l2, hl2⟩ : ∃ l2 : Int32, lw + Int32.ofInt (-1) = l2 := ⟨_, rfl⟩
      refine Go.iinc 123 #[.val (.ref sa), .val (.ref qa), .val (.int fr_), .val (.int to_), .val (.double tg), .second, .val (.int l2), s7, s8] l2 d2_120 rfl rfl hl2 rfl ?_
      refine Go.goto 105 d2_123 (by decide) (by decide) ?_
      exact ih (j - 1) l2 (by omega) (by omega) (by omega) (fun i h1 h2 => if e : i = j then (by subst e; omega) else hz i (by omega) h2) (toInt_add' hl olitm hl2 (by omega) (by omega) (by omega))
set_option maxRecDepth 65536 in
set_option maxHeartbeats 40000000 in
theorem fp_94 (l : Launch) (Z : State) (a0 : Array Value) (hw : ∀ d ∈ tables_1, d.before a0 Z = true) {n0 : Nat} {h : Heap} {sa qa : Nat} {ss qs : List UInt64} {C P : Nat → Int} {fr to : Nat} {fr_ to_ : Int32} {t : Int} {tg : UInt64} (F : FP0 Z h sa qa ss qs C P fr to fr_ to_ t tg) (s7 s8 : Slot) (k : Nat) (lw : Int32) (hl : lw.toInt = (k : Int)) (h1 : fr ≤ k) (h2 : k ≤ to) (hle : ∀ i, fr ≤ i → i < k → 2 * C i ≤ t) (hgt : k < to → t < 2 * C k) : Go l Z ({ frames := 0, cells := 0, slots := 0, locals := 0 } : Room) ((⟨"com/example/orderly_crowd/orderlycrowd/simulation/Events", "firstPast", "([D[DIID)I"⟩ : MethodName), prog_207_method_9_code, 9, some .int) n0 (fun v h' => ∃ (r : Int32) (k : Nat), v = some (.int r) ∧ r.toInt = (k : Int) ∧ fr ≤ k ∧ k < to ∧ ((t < 2 * C k ∧ (k = fr ∨ 2 * C (k - 1) ≤ t)) ∨ ((∀ i, fr ≤ i → i < to → 2 * C i ≤ t) ∧ (k = fr ∨ P k ≠ 0) ∧ ∀ j, k < j → j < to → P j = 0)) ∧ h' = h) h 0 0 94 #[.val (.ref sa), .val (.ref qa), .val (.int fr_), .val (.int to_), .val (.double tg), .second, .val (.int lw), s7, s8] [] := by
  have F' := F
  obtain ⟨AS, AQ, hC, hP, mono, dt, hlt, h12, ifr, ito⟩ := F'
  refine Go.iload 96 d2_94 rfl rfl ?_
  refine Go.iloadN 97 d2_96 rfl rfl ?_
  refine Go.icmpB 126 100 d2_97 (by decide) (by decide) rfl (fun (hc : (lw).toInt ≠ (to_).toInt) => ?_) (fun (hc : (lw).toInt = (to_).toInt) => ?_)
  · refine Go.iload 128 d2_126 rfl rfl ?_
    exact Go.iret d2_128 rfl (by decide) (by decide) ⟨lw, k, rfl, hl, h1, by omega, Or.inl ⟨hgt (by omega), if hk : k = fr then Or.inl hk else Or.inr (hle (k - 1) (by omega) (by omega))⟩, rfl⟩
  · obtain ⟨l2, hl2⟩ : ∃ l2 : Int32, to_ - (1 : Int32) = l2 := ⟨_, rfl⟩
    refine Go.iloadN 101 d2_100 rfl rfl ?_
    refine Go.iconst 102 (1 : Int32) d2_101 rfl (by decide) ?_
    refine Go.isub 103 l2 d2_102 rfl hl2 ?_
    refine Go.istore 105 #[.val (.ref sa), .val (.ref qa), .val (.int fr_), .val (.int to_), .val (.double tg), .second, .val (.int l2), s7, s8] d2_103 rfl rfl ?_
    exact fp_tail l Z a0 hw F (fun i q1 q2 => hle i q1 (by omega)) s7 s8 (to - 1 - fr) (to - 1) l2 (by omega) (by omega) (by omega) (fun i q1 q2 => by omega) (by rw [← hl2]; exact toInt_sub ito lit1 (by omega) (by omega) (by omega))
set_option maxRecDepth 65536 in
set_option maxHeartbeats 40000000 in
theorem fp_count (l : Launch) (Z : State) (a0 : Array Value) (hw : ∀ d ∈ tables_1, d.before a0 Z = true) {n0 : Nat} {h : Heap} {sa qa : Nat} {ss qs : List UInt64} {C P : Nat → Int} {fr to : Nat} {fr_ to_ : Int32} {t : Int} {tg : UInt64} (F : FP0 Z h sa qa ss qs C P fr to fr_ to_ t tg) : ∀ (f e k : Nat) (ev lw : Int32), e + f = to → fr ≤ e → fr ≤ k → k ≤ e → (∀ i, fr ≤ i → i < k → 2 * C i ≤ t) → (k < e → t < 2 * C k) → ev.toInt = (e : Int) → lw.toInt = (k : Int) → Go l Z ({ frames := 0, cells := 0, slots := 0, locals := 0 } : Room) ((⟨"com/example/orderly_crowd/orderlycrowd/simulation/Events", "firstPast", "([D[DIID)I"⟩ : MethodName), prog_207_method_9_code, 9, some .int) n0 (fun v h' => ∃ (r : Int32) (k : Nat), v = some (.int r) ∧ r.toInt = (k : Int) ∧ fr ≤ k ∧ k < to ∧ ((t < 2 * C k ∧ (k = fr ∨ 2 * C (k - 1) ≤ t)) ∨ ((∀ i, fr ≤ i → i < to → 2 * C i ≤ t) ∧ (k = fr ∨ P k ≠ 0) ∧ ∀ j, k < j → j < to → P j = 0)) ∧ h' = h) h 0 0 14 #[.val (.ref sa), .val (.ref qa), .val (.int fr_), .val (.int to_), .val (.double tg), .second, .val (.int lw), .val (.int ev), .unset] [] := by
  have F' := F
  obtain ⟨AS, AQ, hC, hP, mono, dt, hlt, h12, ifr, ito⟩ := F'
  intro f
  induction f with
  | zero =>
    intro e k ev lw hf h0 h1 h3 hle hgt he hl
    refine Go.iload 16 d2_14 rfl rfl ?_
    refine Go.iloadN 17 d2_16 rfl rfl ?_
    refine Go.icmpT 46 d2_17 (by decide) (by decide) (show (to_).toInt ≤ (ev).toInt from by omega) ?_
    refine Go.goto 94 d2_46 (by decide) (by decide) ?_
    exact fp_94 l Z a0 hw F _ _ k lw hl h1 (by omega) hle (fun q => hgt (by omega))
  | succ f ih =>
    intro e k ev lw hf h0 h1 h3 hle hgt he hl
    refine Go.iload 16 d2_14 rfl rfl ?_
    refine Go.iloadN 17 d2_16 rfl rfl ?_
    refine Go.icmpF 20 d2_17 rfl (show (ev).toInt < (to_).toInt from by omega) ?_
    obtain ⟨sv, hs, ds⟩ := hC e (by omega) (by omega)
    have ds2 := dq_cast (dq_up 1 (dq_of_int ds)) rfl (show C e * 2 ^ 1 = 2 * C e by omega)
    refine Go.iload 22 d2_20 rfl rfl ?_
    refine Go.aloadN 23 d2_22 rfl rfl rfl ?_
    refine Go.iload 25 d2_23 rfl rfl ?_
    refine Go.daload 26 AS he hs d2_25 rfl ?_
    refine Go.dload 28 d2_26 rfl rfl ?_
    refine Go.dcmp 29 (sg (2 * C e) t) d2_28 rfl (cmpQ ds2 dt _) ?_
    obtain ⟨e2, he2⟩ : ∃ e2 : Int32, ev + Int32.ofInt 1 = e2 := ⟨_, rfl⟩
    have ie2 := toInt_add' he (show (Int32.ofInt 1).toInt = 1 by decide) he2 (by omega) (by omega) rfl
    refine Go.ifCB 36 32 d2_29 (by decide) (by decide) rfl (fun (hc : 0 < ((sg (2 * C e) t)).toInt) => ?_) (fun (hc : ((sg (2 * C e) t)).toInt ≤ 0) => ?_)
    · have := sg_cases (2 * C e) t
      refine Go.iconst 37 (0 : Int32) d2_36 rfl (by decide) ?_
      refine Go.iadd 38 lw d2_37 rfl (by rw [Int32.add_zero]) ?_
      refine Go.istore 40 #[.val (.ref sa), .val (.ref qa), .val (.int fr_), .val (.int to_), .val (.double tg), .second, .val (.int lw), .val (.int ev), .unset] d2_38 rfl rfl ?_
      refine Go.iinc 43 #[.val (.ref sa), .val (.ref qa), .val (.int fr_), .val (.int to_), .val (.double tg), .second, .val (.int lw), .val (.int e2), .unset] e2 d2_40 rfl rfl he2 rfl ?_
      refine Go.goto 14 d2_43 (by decide) (by decide) ?_
      refine ih (e + 1) k e2 lw (by omega) (by omega) h1 (by omega) hle (fun q => ?_) (by omega) hl
      by_cases hke : k = e
      · subst hke; omega
      · exact hgt (by omega)
    · have := sg_cases (2 * C e) t
      have hke : k = e := by
        apply Nat.le_antisymm h3
        apply Nat.le_of_not_lt; intro hlt2
        have := hgt hlt2; have := mono k e h1 (by omega) (by omega); omega
      obtain ⟨l2, hl2⟩ : ∃ l2 : Int32, lw + (1 : Int32) = l2 := ⟨_, rfl⟩
      refine Go.iconst 33 (1 : Int32) d2_32 rfl (by decide) ?_
      refine Go.goto 37 d2_33 (by decide) (by decide) ?_
      refine Go.iadd 38 l2 d2_37 rfl hl2 ?_
      refine Go.istore 40 #[.val (.ref sa), .val (.ref qa), .val (.int fr_), .val (.int to_), .val (.double tg), .second, .val (.int l2), .val (.int ev), .unset] d2_38 rfl rfl ?_
      refine Go.iinc 43 #[.val (.ref sa), .val (.ref qa), .val (.int fr_), .val (.int to_), .val (.double tg), .second, .val (.int l2), .val (.int e2), .unset] e2 d2_40 rfl rfl he2 rfl ?_
      refine Go.goto 14 d2_43 (by decide) (by decide) ?_
      refine ih (e + 1) (e + 1) e2 l2 (by omega) (by omega) (by omega) (by omega) (fun i q1 q2 => ?_) (fun q => by omega) (by omega) (toInt_add' hl (show (1 : Int32).toInt = 1 by decide) hl2 (by omega) (by omega) (by omega))
      by_cases hie : i = e
      · subst hie; omega
      · exact hle i q1 (by omega)
set_option maxRecDepth 65536 in
set_option maxHeartbeats 40000000 in
theorem fp_halve (l : Launch) (Z : State) (a0 : Array Value) (hw : ∀ d ∈ tables_1, d.before a0 Z = true) {n0 : Nat} {h : Heap} {sa qa : Nat} {ss qs : List UInt64} {C P : Nat → Int} {fr to : Nat} {fr_ to_ : Int32} {t : Int} {tg : UInt64} (F : FP0 Z h sa qa ss qs C P fr to fr_ to_ t tg) : ∀ (f : Nat) (k m : Nat) (lw hw_ : Int32) (s8 : Slot), (s8 = .unset ∨ ∃ z : Int32, s8 = .val (.int z)) → m - k = f → fr ≤ k → k ≤ m → m ≤ to → (∀ i, fr ≤ i → i < k → 2 * C i ≤ t) → (m < to → t < 2 * C m) → lw.toInt = (k : Int) → hw_.toInt = (m : Int) → Go l Z ({ frames := 0, cells := 0, slots := 0, locals := 0 } : Room) ((⟨"com/example/orderly_crowd/orderlycrowd/simulation/Events", "firstPast", "([D[DIID)I"⟩ : MethodName), prog_207_method_9_code, 9, some .int) n0 (fun v h' => ∃ (r : Int32) (k : Nat), v = some (.int r) ∧ r.toInt = (k : Int) ∧ fr ≤ k ∧ k < to ∧ ((t < 2 * C k ∧ (k = fr ∨ 2 * C (k - 1) ≤ t)) ∨ ((∀ i, fr ≤ i → i < to → 2 * C i ≤ t) ∧ (k = fr ∨ P k ≠ 0) ∧ ∀ j, k < j → j < to → P j = 0)) ∧ h' = h) h 0 0 52 #[.val (.ref sa), .val (.ref qa), .val (.int fr_), .val (.int to_), .val (.double tg), .second, .val (.int lw), .val (.int hw_), s8] [] := by
  have F' := F
  obtain ⟨AS, AQ, hC, hP, mono, dt, hlt, h12, ifr, ito⟩ := F'
  intro f
  induction f using Nat.strongRecOn with
  | _ f ih =>
    intro k m lw hw_ s8 h8 hf h1 h2 h3 hle hgt hl hm
    subst hf
    refine Go.iload 54 d2_52 rfl rfl ?_
    refine Go.iload 56 d2_54 rfl rfl ?_
    refine Go.icmpB 94 59 d2_56 (by decide) (by decide) rfl (fun (hc : (hw_).toInt ≤ (lw).toInt) => ?_) (fun (hc : (lw).toInt < (hw_).toInt) => ?_)
    · exact fp_94 l Z a0 hw F _ _ k lw hl h1 (by omega) hle (fun q => by have e : k = m := (by omega); subst e; exact hgt q)
    · obtain ⟨d, hd⟩ : ∃ d : Nat, d = (k + m) / 2 := ⟨_, rfl⟩
      obtain ⟨md, hmd⟩ : ∃ md : Int32, XT.ushr (lw + hw_) 1 = md := ⟨_, rfl⟩
      have imd : md.toInt = (d : Int) := by rw [← hmd, hd]; exact mid_ lw hw_ hl hm (by omega) (by omega)
      obtain ⟨sv, hs, ds⟩ := hC d (by omega) (by omega)
      have ds2 := dq_cast (dq_up 1 (dq_of_int ds)) rfl (show C d * 2 ^ 1 = 2 * C d by omega)
      refine Go.iload 61 d2_59 rfl rfl ?_
      refine Go.iload 63 d2_61 rfl rfl ?_
      refine Go.iadd 64 (lw + hw_) d2_63 rfl rfl ?_
      refine Go.iconst 65 (1 : Int32) d2_64 rfl (by decide) ?_
      refine Go.iushr 66 md d2_65 rfl hmd ?_
      rcases h8 with rfl | ⟨z8, rfl⟩
      · refine Go.istore 68 #[.val (.ref sa), .val (.ref qa), .val (.int fr_), .val (.int to_), .val (.double tg), .second, .val (.int lw), .val (.int hw_), .val (.int md)] d2_66 rfl rfl ?_
        refine Go.aloadN 69 d2_68 rfl rfl rfl ?_
        refine Go.iload 71 d2_69 rfl rfl ?_
        refine Go.daload 72 AS imd hs d2_71 rfl ?_
        refine Go.dload 74 d2_72 rfl rfl ?_
        refine Go.dcmp 75 (sg (2 * C d) t) d2_74 rfl (cmpQ ds2 dt _) ?_
        refine Go.ifCB 85 78 d2_75 (by decide) (by decide) rfl (fun (hc2 : ((sg (2 * C d) t)).toInt ≤ 0) => ?_) (fun (hc2 : 0 < ((sg (2 * C d) t)).toInt) => ?_)
        · have := sg_cases (2 * C d) t
          obtain ⟨l2, hl2⟩ : ∃ l2 : Int32, md + (1 : Int32) = l2 := ⟨_, rfl⟩
          refine Go.iload 87 d2_85 rfl rfl ?_
          refine Go.iconst 88 (1 : Int32) d2_87 rfl (by decide) ?_
          refine Go.iadd 89 l2 d2_88 rfl hl2 ?_
          refine Go.istore 91 #[.val (.ref sa), .val (.ref qa), .val (.int fr_), .val (.int to_), .val (.double tg), .second, .val (.int l2), .val (.int hw_), .val (.int md)] d2_89 rfl rfl ?_
          refine Go.goto 52 d2_91 (by decide) (by decide) ?_
          exact ih (m - (d + 1)) (by omega) (d + 1) m l2 hw_ _ (Or.inr ⟨md, rfl⟩) rfl (by omega) (by omega) (by omega) (fun i q1 q2 => by have := mono i d q1 (by omega) (by omega); omega) hgt (toInt_add' imd (show (1 : Int32).toInt = 1 by decide) hl2 (by omega) (by omega) (by omega)) hm
        · have := sg_cases (2 * C d) t
          refine Go.iload 80 d2_78 rfl rfl ?_
          refine Go.istore 82 #[.val (.ref sa), .val (.ref qa), .val (.int fr_), .val (.int to_), .val (.double tg), .second, .val (.int lw), .val (.int md), .val (.int md)] d2_80 rfl rfl ?_
          refine Go.goto 91 d2_82 (by decide) (by decide) ?_
          refine Go.goto 52 d2_91 (by decide) (by decide) ?_
          exact ih (d - k) (by omega) k d lw md _ (Or.inr ⟨md, rfl⟩) rfl h1 (by omega) (by omega) hle (fun _ => by omega) hl imd
      · refine Go.istore 68 #[.val (.ref sa), .val (.ref qa), .val (.int fr_), .val (.int to_), .val (.double tg), .second, .val (.int lw), .val (.int hw_), .val (.int md)] d2_66 rfl rfl ?_
        refine Go.aloadN 69 d2_68 rfl rfl rfl ?_
        refine Go.iload 71 d2_69 rfl rfl ?_
        refine Go.daload 72 AS imd hs d2_71 rfl ?_
        refine Go.dload 74 d2_72 rfl rfl ?_
        refine Go.dcmp 75 (sg (2 * C d) t) d2_74 rfl (cmpQ ds2 dt _) ?_
        refine Go.ifCB 85 78 d2_75 (by decide) (by decide) rfl (fun (hc2 : ((sg (2 * C d) t)).toInt ≤ 0) => ?_) (fun (hc2 : 0 < ((sg (2 * C d) t)).toInt) => ?_)
        · have := sg_cases (2 * C d) t
          obtain ⟨l2, hl2⟩ : ∃ l2 : Int32, md + (1 : Int32) = l2 := ⟨_, rfl⟩
          refine Go.iload 87 d2_85 rfl rfl ?_
          refine Go.iconst 88 (1 : Int32) d2_87 rfl (by decide) ?_
          refine Go.iadd 89 l2 d2_88 rfl hl2 ?_
          refine Go.istore 91 #[.val (.ref sa), .val (.ref qa), .val (.int fr_), .val (.int to_), .val (.double tg), .second, .val (.int l2), .val (.int hw_), .val (.int md)] d2_89 rfl rfl ?_
          refine Go.goto 52 d2_91 (by decide) (by decide) ?_
          exact ih (m - (d + 1)) (by omega) (d + 1) m l2 hw_ _ (Or.inr ⟨md, rfl⟩) rfl (by omega) (by omega) (by omega) (fun i q1 q2 => by have := mono i d q1 (by omega) (by omega); omega) hgt (toInt_add' imd (show (1 : Int32).toInt = 1 by decide) hl2 (by omega) (by omega) (by omega)) hm
        · have := sg_cases (2 * C d) t
          refine Go.iload 80 d2_78 rfl rfl ?_
          refine Go.istore 82 #[.val (.ref sa), .val (.ref qa), .val (.int fr_), .val (.int to_), .val (.double tg), .second, .val (.int lw), .val (.int md), .val (.int md)] d2_80 rfl rfl ?_
          refine Go.goto 91 d2_82 (by decide) (by decide) ?_
          refine Go.goto 52 d2_91 (by decide) (by decide) ?_
          exact ih (d - k) (by omega) k d lw md _ (Or.inr ⟨md, rfl⟩) rfl h1 (by omega) (by omega) hle (fun _ => by omega) hl imd
set_option maxRecDepth 65536 in
set_option maxHeartbeats 40000000 in
theorem fp_go (l : Launch) (Z : State) (a0 : Array Value) (hw : ∀ d ∈ tables_1, d.before a0 Z = true) {n0 : Nat} {h : Heap} {sa qa : Nat} {ss qs : List UInt64} {C P : Nat → Int} {fr to : Nat} {fr_ to_ : Int32} {t : Int} {tg : UInt64} (F : FP0 Z h sa qa ss qs C P fr to fr_ to_ t tg) : Go l Z ({ frames := 0, cells := 0, slots := 0, locals := 0 } : Room) ((⟨"com/example/orderly_crowd/orderlycrowd/simulation/Events", "firstPast", "([D[DIID)I"⟩ : MethodName), prog_207_method_9_code, 9, some .int) n0 (fun v h' => ∃ (r : Int32) (k : Nat), v = some (.int r) ∧ r.toInt = (k : Int) ∧ fr ≤ k ∧ k < to ∧ ((t < 2 * C k ∧ (k = fr ∨ 2 * C (k - 1) ≤ t)) ∨ ((∀ i, fr ≤ i → i < to → 2 * C i ≤ t) ∧ (k = fr ∨ P k ≠ 0) ∧ ∀ j, k < j → j < to → P j = 0)) ∧ h' = h) h 0 0 0 #[.val (.ref sa), .val (.ref qa), .val (.int fr_), .val (.int to_), .val (.double tg), .second, .unset, .unset, .unset] [] := by
  have F' := F
  obtain ⟨AS, AQ, hC, hP, mono, dt, hlt, h12, ifr, ito⟩ := F'
  have isub : (to_ - fr_).toInt = (to : Int) - fr := toInt_sub ito ifr (by omega) (by omega) rfl
  refine Go.iloadN 1 d2_0 rfl rfl ?_
  refine Go.istore 3 #[.val (.ref sa), .val (.ref qa), .val (.int fr_), .val (.int to_), .val (.double tg), .second, .val (.int fr_), .unset, .unset] d2_1 rfl rfl ?_
  refine Go.iloadN 4 d2_3 rfl rfl ?_
  refine Go.iloadN 5 d2_4 rfl rfl ?_
  refine Go.isub 6 (to_ - fr_) d2_5 rfl rfl ?_
  refine Go.bipush 8 (8 : Int32) d2_6 rfl (by decide) ?_
  refine Go.icmpB 49 11 d2_8 (by decide) (by decide) rfl (fun (hc : (8 : Int) < ((to_ - fr_)).toInt) => ?_) (fun (hc : ((to_ - fr_)).toInt ≤ (8 : Int)) => ?_)
  · refine Go.iloadN 50 d2_49 rfl rfl ?_
    refine Go.istore 52 #[.val (.ref sa), .val (.ref qa), .val (.int fr_), .val (.int to_), .val (.double tg), .second, .val (.int fr_), .val (.int to_), .unset] d2_50 rfl rfl ?_
    exact fp_halve l Z a0 hw F _ fr to fr_ to_ _ (Or.inl rfl) rfl (Nat.le_refl _) (by omega) (Nat.le_refl _) (fun i q1 q2 => by omega) (fun q => by omega) ifr ito
  · refine Go.iloadN 12 d2_11 rfl rfl ?_
    refine Go.istore 14 #[.val (.ref sa), .val (.ref qa), .val (.int fr_), .val (.int to_), .val (.double tg), .second, .val (.int fr_), .val (.int fr_), .unset] d2_12 rfl rfl ?_
    exact fp_count l Z a0 hw F (to - fr) fr fr fr_ fr_ (by omega) (Nat.le_refl _) (Nat.le_refl _) (Nat.le_refl _) (fun i q1 q2 => by omega) (fun q => by omega) ifr ifr
theorem rem_nat {x y : Int32} {a b : Nat} (hx : x.toInt = (a : Int)) (hy : y.toInt = (b : Int)) (hb : 0 < b) : (x % y).toInt = ((a % b : Nat) : Int) := by
  rw [Int32.toInt_mod, hx, hy]; exact (Int.ofNat_tmod a b).symm
theorem ushr2 (t : Int32) : ∃ j : Nat, j < 1073741824 ∧ (XT.ushr t 2).toInt = (j : Int) := by
  have e : XT.ushr t 2 = (t.toUInt32 >>> 2).toInt32 := rfl
  have hs : (t.toUInt32 >>> (2 : UInt32)).toNat = t.toUInt32.toNat / 4 := by
    rw [UInt32.toNat_shiftRight]
    show t.toUInt32.toNat >>> 2 = _
    rw [Nat.shiftRight_eq_div_pow]
  have hl := t.toUInt32.toNat_lt
  refine ⟨t.toUInt32.toNat / 4, by omega, ?_⟩
  rw [e]
  show (t.toUInt32 >>> (2 : UInt32)).toBitVec.toInt = _
  rw [BitVec.toInt_eq_toNat_of_lt (by show 2 * (t.toUInt32 >>> (2 : UInt32)).toNat < 2 ^ 32; rw [hs]; omega)]
  show (((t.toUInt32 >>> (2 : UInt32)).toNat : Nat) : Int) = _
  rw [hs]
theorem d2 : FP.Core.DInt 2 4611686018427387904 := by
  unfold FP.Core.DInt
  have : FP.Core.val64 4611686018427387904 = .fin false (2 ^ 52) (-51) := by decide +kernel
  rw [this]
  show FP.Core.signed false _ = _
  decide +kernel
set_option maxRecDepth 65536 in
set_option maxHeartbeats 40000000 in
theorem law_go (l : Launch) (Z : State) (a0 : Array Value) (hw : ∀ d ∈ tables_1, d.before a0 Z = true) (draws : Int64) (a b t : Int32) {h : Heap} {n0 : Nat} : Go l Z room_1 (x, code, maxLocals, ret) n0 Q1 h 0 0 0 #[.val (.long draws), .second, .val (.int a), .val (.int b), .val (.int t), .unset, .unset, .unset, .unset, .unset, .unset, .unset, .unset, .unset, .unset] [] := by
  obtain ⟨ja, ha1, ha2⟩ := and_nat a 2147483647 (by decide)
  replace ha2 : (a &&& 2147483647).toInt = (ja : Int) := ha2
  obtain ⟨jb, hb1, hb2⟩ := and_nat b 2147483647 (by decide)
  replace hb2 : (b &&& 2147483647).toInt = (jb : Int) := hb2
  obtain ⟨fr_, hfr⟩ : ∃ z : Int32, (a &&& 2147483647) % 12 = z := ⟨_, rfl⟩
  obtain ⟨fr, efr⟩ : ∃ n : Nat, n = ja % 12 := ⟨_, rfl⟩
  have ifr : fr_.toInt = (fr : Int) := by rw [← hfr, efr]; exact rem_nat ha2 (show (12 : Int32).toInt = ((12 : Nat) : Int) by decide) (by omega)
  obtain ⟨dd, hdd⟩ : ∃ z : Int32, (12 : Int32) - fr_ = z := ⟨_, rfl⟩
  have idd : dd.toInt = ((12 - fr : Nat) : Int) := by rw [← hdd]; exact toInt_sub (show (12 : Int32).toInt = 12 by decide) ifr (by omega) (by omega) (by omega)
  have hd0 : dd ≠ 0 := fun q => by rw [q] at idd; have : (0 : Int32).toInt = 0 := (by decide); omega
  obtain ⟨rb, hrb⟩ : ∃ z : Int32, (b &&& 2147483647) % dd = z := ⟨_, rfl⟩
  have irb : rb.toInt = ((jb % (12 - fr) : Nat) : Int) := by rw [← hrb]; exact rem_nat hb2 idd (by omega)
  have hrb2 : jb % (12 - fr) < 12 - fr := Nat.mod_lt _ (by omega)
  obtain ⟨to_, hto⟩ : ∃ z : Int32, fr_ + (1 : Int32) + rb = z := ⟨_, rfl⟩
  obtain ⟨to, eto⟩ : ∃ n : Nat, n = fr + 1 + jb % (12 - fr) := ⟨_, rfl⟩
  have ito : to_.toInt = (to : Int) := by rw [← hto]; exact toInt_add (toInt_add ifr (show (1 : Int32).toInt = 1 by decide) (by omega) (by omega) rfl) irb (by omega) (by omega) (by omega)
  have hft : fr < to ∧ to ≤ 12 ∧ fr < 12 := by omega
  refine Go.iloadN 1 at_0 rfl rfl ?_
  refine Go.ldcI 3 (2147483647 : Int32) (hw _ (List.mem_of_getElem? (i := 0) rfl)) at_1 rfl ?_
  refine Go.iand 4 (a &&& (2147483647 : Int32)) at_3 rfl rfl ?_
  refine Go.bipush 6 (12 : Int32) at_4 rfl (by decide) ?_
  refine Go.irem 7 fr_ at_6 rfl (by decide) hfr ?_
  refine Go.istore 9 #[.val (.long draws), .second, .val (.int a), .val (.int b), .val (.int t), .val (.int fr_), .unset, .unset, .unset, .unset, .unset, .unset, .unset, .unset, .unset] at_7 rfl rfl ?_
  refine Go.iload 11 at_9 rfl rfl ?_
  refine Go.iconst 12 (1 : Int32) at_11 rfl (by decide) ?_
  refine Go.iadd 13 (fr_ + (1 : Int32)) at_12 rfl rfl ?_
  refine Go.iloadN 14 at_13 rfl rfl ?_
  refine Go.ldcI 16 (2147483647 : Int32) (hw _ (List.mem_of_getElem? (i := 0) rfl)) at_14 rfl ?_
  refine Go.iand 17 (b &&& (2147483647 : Int32)) at_16 rfl rfl ?_
  refine Go.bipush 19 (12 : Int32) at_17 rfl (by decide) ?_
  refine Go.iload 21 at_19 rfl rfl ?_
  refine Go.isub 22 dd at_21 rfl hdd ?_
  refine Go.irem 23 rb at_22 rfl hd0 hrb ?_
  refine Go.iadd 24 to_ at_23 rfl hto ?_
  refine Go.istore 26 #[.val (.long draws), .second, .val (.int a), .val (.int b), .val (.int t), .val (.int fr_), .val (.int to_), .unset, .unset, .unset, .unset, .unset, .unset, .unset, .unset] at_24 rfl rfl ?_
  refine Go.bipush 28 (12 : Int32) at_26 rfl (by decide) ?_
  refine Go.newI 30 12 (hw _ (List.mem_of_getElem? (i := 1) rfl)) (i := 12) (by decide) (by decide) (by decide) at_28 rfl (by decide) (by decide) ?_
  intro h1 pa E1 g1 n1 A1
  refine Go.astore 32 #[.val (.long draws), .second, .val (.int a), .val (.int b), .val (.int t), .val (.int fr_), .val (.int to_), .val (.ref pa), .unset, .unset, .unset, .unset, .unset, .unset, .unset] at_30 rfl rfl rfl ?_
  refine Go.bipush 34 (12 : Int32) at_32 rfl (by decide) ?_
  refine Go.newI 36 12 (hw _ (List.mem_of_getElem? (i := 1) rfl)) (i := 12) (by decide) (by decide) (by decide) at_34 rfl (by decide) (by decide) ?_
  intro h2 ca E2 g2 n2 A2
  refine Go.astore 38 #[.val (.long draws), .second, .val (.int a), .val (.int b), .val (.int t), .val (.int fr_), .val (.int to_), .val (.ref pa), .val (.ref ca), .unset, .unset, .unset, .unset, .unset, .unset] at_36 rfl rfl rfl ?_
  refine Go.bipush 40 (12 : Int32) at_38 rfl (by decide) ?_
  refine Go.newD 42 12 (hw _ (List.mem_of_getElem? (i := 2) rfl)) (i := 12) (by decide) (by decide) (by decide) at_40 rfl (by decide) (by decide) ?_
  intro h3 sa E3 g3 n3 A3
  refine Go.astore 44 #[.val (.long draws), .second, .val (.int a), .val (.int b), .val (.int t), .val (.int fr_), .val (.int to_), .val (.ref pa), .val (.ref ca), .val (.ref sa), .unset, .unset, .unset, .unset, .unset] at_42 rfl rfl rfl ?_
  refine Go.bipush 46 (12 : Int32) at_44 rfl (by decide) ?_
  refine Go.newD 48 12 (hw _ (List.mem_of_getElem? (i := 2) rfl)) (i := 12) (by decide) (by decide) (by decide) at_46 rfl (by decide) (by decide) ?_
  intro h4 qa E4 g4 n4 A4
  refine Go.astore 50 #[.val (.long draws), .second, .val (.int a), .val (.int b), .val (.int t), .val (.int fr_), .val (.int to_), .val (.ref pa), .val (.ref ca), .val (.ref sa), .val (.ref qa), .unset, .unset, .unset, .unset] at_48 rfl rfl rfl ?_
  refine Go.lloadN 51 at_50 rfl rfl ?_
  refine Go.aload 53 at_51 rfl rfl rfl ?_
  refine Go.aload 55 at_53 rfl rfl rfl ?_
  refine Go.aload 57 at_55 rfl rfl rfl ?_
  refine Go.aload 59 at_57 rfl rfl rfl ?_
  refine Go.iconst 60 (0 : Int32) at_59 rfl (by decide) ?_
  refine Go.iload 62 at_60 rfl rfl ?_
  refine Go.iload 64 at_62 rfl rfl ?_
  have B1 := (A1.ext E2)
  have B2 := (B1.ext E3)
  have C2 := A2.ext E3
  have H : AR Z n0 h4 pa ca sa qa (List.replicate 12 0) (List.replicate 12 0) (List.replicate 12 0) (List.replicate 12 0) := ⟨B2.ext E4, C2.ext E4, A3.ext E4, A4, ⟨rfl, rfl, rfl, rfl⟩, ⟨Nat.ne_of_lt (Nat.lt_of_lt_of_le A1.lt g2), Nat.ne_of_lt (Nat.lt_of_lt_of_le B1.lt g3), Nat.ne_of_lt (Nat.lt_of_lt_of_le B2.lt g4), Nat.ne_of_lt (Nat.lt_of_lt_of_le A2.lt g3), Nat.ne_of_lt (Nat.lt_of_lt_of_le C2.lt g4), Nat.ne_of_lt (Nat.lt_of_lt_of_le A3.lt g4)⟩, n1, n2, n3, n4⟩
  have I : Inv fr to 0 (List.replicate 12 0) (List.replicate 12 0) (List.replicate 12 0) (List.replicate 12 0) := fun i hi => by omega
  refine Go.callS 67 [(.long draws), (.ref pa), (.ref ca), (.ref sa), (.ref qa), (.int (0 : Int32)), (.int fr_), (.int to_)] [] (hw _ (List.mem_of_getElem? (i := 3) rfl)) (hw _ (List.mem_of_getElem? (i := 4) rfl)) (hw _ (List.mem_of_getElem? (i := 6) rfl)) (hw _ (List.mem_of_getElem? (i := 5) rfl)) (by decide) pn_1 pd_2 rfl (ef_1_JAAAAIII draws pa ca sa qa (0 : Int32) fr_ to_) (step_go l Z a0 hw (k := 0) H I (by decide) (by decide) ifr ito) rfl rfl (by decide) (leB rfl) (by decide) (by decide) at_64 rfl ?_
  rintro _ m0 ⟨rfl, ps0, cs0, ss0, qs0, H, I⟩
  refine Go.lloadN 68 at_67 rfl rfl ?_
  refine Go.aload 70 at_68 rfl rfl rfl ?_
  refine Go.aload 72 at_70 rfl rfl rfl ?_
  refine Go.aload 74 at_72 rfl rfl rfl ?_
  refine Go.aload 76 at_74 rfl rfl rfl ?_
  refine Go.iconst 77 (1 : Int32) at_76 rfl (by decide) ?_
  refine Go.iload 79 at_77 rfl rfl ?_
  refine Go.iload 81 at_79 rfl rfl ?_
  refine Go.callS 84 [(.long draws), (.ref pa), (.ref ca), (.ref sa), (.ref qa), (.int (1 : Int32)), (.int fr_), (.int to_)] [] (hw _ (List.mem_of_getElem? (i := 3) rfl)) (hw _ (List.mem_of_getElem? (i := 4) rfl)) (hw _ (List.mem_of_getElem? (i := 6) rfl)) (hw _ (List.mem_of_getElem? (i := 5) rfl)) (by decide) pn_1 pd_2 rfl (ef_1_JAAAAIII draws pa ca sa qa (1 : Int32) fr_ to_) (step_go l Z a0 hw (k := 1) H I (by decide) (by decide) ifr ito) rfl rfl (by decide) (leB rfl) (by decide) (by decide) at_81 rfl ?_
  rintro _ m1 ⟨rfl, ps1, cs1, ss1, qs1, H, I⟩
  refine Go.lloadN 85 at_84 rfl rfl ?_
  refine Go.aload 87 at_85 rfl rfl rfl ?_
  refine Go.aload 89 at_87 rfl rfl rfl ?_
  refine Go.aload 91 at_89 rfl rfl rfl ?_
  refine Go.aload 93 at_91 rfl rfl rfl ?_
  refine Go.iconst 94 (2 : Int32) at_93 rfl (by decide) ?_
  refine Go.iload 96 at_94 rfl rfl ?_
  refine Go.iload 98 at_96 rfl rfl ?_
  refine Go.callS 101 [(.long draws), (.ref pa), (.ref ca), (.ref sa), (.ref qa), (.int (2 : Int32)), (.int fr_), (.int to_)] [] (hw _ (List.mem_of_getElem? (i := 3) rfl)) (hw _ (List.mem_of_getElem? (i := 4) rfl)) (hw _ (List.mem_of_getElem? (i := 6) rfl)) (hw _ (List.mem_of_getElem? (i := 5) rfl)) (by decide) pn_1 pd_2 rfl (ef_1_JAAAAIII draws pa ca sa qa (2 : Int32) fr_ to_) (step_go l Z a0 hw (k := 2) H I (by decide) (by decide) ifr ito) rfl rfl (by decide) (leB rfl) (by decide) (by decide) at_98 rfl ?_
  rintro _ m2 ⟨rfl, ps2, cs2, ss2, qs2, H, I⟩
  refine Go.lloadN 102 at_101 rfl rfl ?_
  refine Go.aload 104 at_102 rfl rfl rfl ?_
  refine Go.aload 106 at_104 rfl rfl rfl ?_
  refine Go.aload 108 at_106 rfl rfl rfl ?_
  refine Go.aload 110 at_108 rfl rfl rfl ?_
  refine Go.iconst 111 (3 : Int32) at_110 rfl (by decide) ?_
  refine Go.iload 113 at_111 rfl rfl ?_
  refine Go.iload 115 at_113 rfl rfl ?_
  refine Go.callS 118 [(.long draws), (.ref pa), (.ref ca), (.ref sa), (.ref qa), (.int (3 : Int32)), (.int fr_), (.int to_)] [] (hw _ (List.mem_of_getElem? (i := 3) rfl)) (hw _ (List.mem_of_getElem? (i := 4) rfl)) (hw _ (List.mem_of_getElem? (i := 6) rfl)) (hw _ (List.mem_of_getElem? (i := 5) rfl)) (by decide) pn_1 pd_2 rfl (ef_1_JAAAAIII draws pa ca sa qa (3 : Int32) fr_ to_) (step_go l Z a0 hw (k := 3) H I (by decide) (by decide) ifr ito) rfl rfl (by decide) (leB rfl) (by decide) (by decide) at_115 rfl ?_
  rintro _ m3 ⟨rfl, ps3, cs3, ss3, qs3, H, I⟩
  refine Go.lloadN 119 at_118 rfl rfl ?_
  refine Go.aload 121 at_119 rfl rfl rfl ?_
  refine Go.aload 123 at_121 rfl rfl rfl ?_
  refine Go.aload 125 at_123 rfl rfl rfl ?_
  refine Go.aload 127 at_125 rfl rfl rfl ?_
  refine Go.iconst 128 (4 : Int32) at_127 rfl (by decide) ?_
  refine Go.iload 130 at_128 rfl rfl ?_
  refine Go.iload 132 at_130 rfl rfl ?_
  refine Go.callS 135 [(.long draws), (.ref pa), (.ref ca), (.ref sa), (.ref qa), (.int (4 : Int32)), (.int fr_), (.int to_)] [] (hw _ (List.mem_of_getElem? (i := 3) rfl)) (hw _ (List.mem_of_getElem? (i := 4) rfl)) (hw _ (List.mem_of_getElem? (i := 6) rfl)) (hw _ (List.mem_of_getElem? (i := 5) rfl)) (by decide) pn_1 pd_2 rfl (ef_1_JAAAAIII draws pa ca sa qa (4 : Int32) fr_ to_) (step_go l Z a0 hw (k := 4) H I (by decide) (by decide) ifr ito) rfl rfl (by decide) (leB rfl) (by decide) (by decide) at_132 rfl ?_
  rintro _ m4 ⟨rfl, ps4, cs4, ss4, qs4, H, I⟩
  refine Go.lloadN 136 at_135 rfl rfl ?_
  refine Go.aload 138 at_136 rfl rfl rfl ?_
  refine Go.aload 140 at_138 rfl rfl rfl ?_
  refine Go.aload 142 at_140 rfl rfl rfl ?_
  refine Go.aload 144 at_142 rfl rfl rfl ?_
  refine Go.iconst 145 (5 : Int32) at_144 rfl (by decide) ?_
  refine Go.iload 147 at_145 rfl rfl ?_
  refine Go.iload 149 at_147 rfl rfl ?_
  refine Go.callS 152 [(.long draws), (.ref pa), (.ref ca), (.ref sa), (.ref qa), (.int (5 : Int32)), (.int fr_), (.int to_)] [] (hw _ (List.mem_of_getElem? (i := 3) rfl)) (hw _ (List.mem_of_getElem? (i := 4) rfl)) (hw _ (List.mem_of_getElem? (i := 6) rfl)) (hw _ (List.mem_of_getElem? (i := 5) rfl)) (by decide) pn_1 pd_2 rfl (ef_1_JAAAAIII draws pa ca sa qa (5 : Int32) fr_ to_) (step_go l Z a0 hw (k := 5) H I (by decide) (by decide) ifr ito) rfl rfl (by decide) (leB rfl) (by decide) (by decide) at_149 rfl ?_
  rintro _ m5 ⟨rfl, ps5, cs5, ss5, qs5, H, I⟩
  refine Go.lloadN 153 at_152 rfl rfl ?_
  refine Go.aload 155 at_153 rfl rfl rfl ?_
  refine Go.aload 157 at_155 rfl rfl rfl ?_
  refine Go.aload 159 at_157 rfl rfl rfl ?_
  refine Go.aload 161 at_159 rfl rfl rfl ?_
  refine Go.bipush 163 (6 : Int32) at_161 rfl (by decide) ?_
  refine Go.iload 165 at_163 rfl rfl ?_
  refine Go.iload 167 at_165 rfl rfl ?_
  refine Go.callS 170 [(.long draws), (.ref pa), (.ref ca), (.ref sa), (.ref qa), (.int (6 : Int32)), (.int fr_), (.int to_)] [] (hw _ (List.mem_of_getElem? (i := 3) rfl)) (hw _ (List.mem_of_getElem? (i := 4) rfl)) (hw _ (List.mem_of_getElem? (i := 6) rfl)) (hw _ (List.mem_of_getElem? (i := 5) rfl)) (by decide) pn_1 pd_2 rfl (ef_1_JAAAAIII draws pa ca sa qa (6 : Int32) fr_ to_) (step_go l Z a0 hw (k := 6) H I (by decide) (by decide) ifr ito) rfl rfl (by decide) (leB rfl) (by decide) (by decide) at_167 rfl ?_
  rintro _ m6 ⟨rfl, ps6, cs6, ss6, qs6, H, I⟩
  refine Go.lloadN 171 at_170 rfl rfl ?_
  refine Go.aload 173 at_171 rfl rfl rfl ?_
  refine Go.aload 175 at_173 rfl rfl rfl ?_
  refine Go.aload 177 at_175 rfl rfl rfl ?_
  refine Go.aload 179 at_177 rfl rfl rfl ?_
  refine Go.bipush 181 (7 : Int32) at_179 rfl (by decide) ?_
  refine Go.iload 183 at_181 rfl rfl ?_
  refine Go.iload 185 at_183 rfl rfl ?_
  refine Go.callS 188 [(.long draws), (.ref pa), (.ref ca), (.ref sa), (.ref qa), (.int (7 : Int32)), (.int fr_), (.int to_)] [] (hw _ (List.mem_of_getElem? (i := 3) rfl)) (hw _ (List.mem_of_getElem? (i := 4) rfl)) (hw _ (List.mem_of_getElem? (i := 6) rfl)) (hw _ (List.mem_of_getElem? (i := 5) rfl)) (by decide) pn_1 pd_2 rfl (ef_1_JAAAAIII draws pa ca sa qa (7 : Int32) fr_ to_) (step_go l Z a0 hw (k := 7) H I (by decide) (by decide) ifr ito) rfl rfl (by decide) (leB rfl) (by decide) (by decide) at_185 rfl ?_
  rintro _ m7 ⟨rfl, ps7, cs7, ss7, qs7, H, I⟩
  refine Go.lloadN 189 at_188 rfl rfl ?_
  refine Go.aload 191 at_189 rfl rfl rfl ?_
  refine Go.aload 193 at_191 rfl rfl rfl ?_
  refine Go.aload 195 at_193 rfl rfl rfl ?_
  refine Go.aload 197 at_195 rfl rfl rfl ?_
  refine Go.bipush 199 (8 : Int32) at_197 rfl (by decide) ?_
  refine Go.iload 201 at_199 rfl rfl ?_
  refine Go.iload 203 at_201 rfl rfl ?_
  refine Go.callS 206 [(.long draws), (.ref pa), (.ref ca), (.ref sa), (.ref qa), (.int (8 : Int32)), (.int fr_), (.int to_)] [] (hw _ (List.mem_of_getElem? (i := 3) rfl)) (hw _ (List.mem_of_getElem? (i := 4) rfl)) (hw _ (List.mem_of_getElem? (i := 6) rfl)) (hw _ (List.mem_of_getElem? (i := 5) rfl)) (by decide) pn_1 pd_2 rfl (ef_1_JAAAAIII draws pa ca sa qa (8 : Int32) fr_ to_) (step_go l Z a0 hw (k := 8) H I (by decide) (by decide) ifr ito) rfl rfl (by decide) (leB rfl) (by decide) (by decide) at_203 rfl ?_
  rintro _ m8 ⟨rfl, ps8, cs8, ss8, qs8, H, I⟩
  refine Go.lloadN 207 at_206 rfl rfl ?_
  refine Go.aload 209 at_207 rfl rfl rfl ?_
  refine Go.aload 211 at_209 rfl rfl rfl ?_
  refine Go.aload 213 at_211 rfl rfl rfl ?_
  refine Go.aload 215 at_213 rfl rfl rfl ?_
  refine Go.bipush 217 (9 : Int32) at_215 rfl (by decide) ?_
  refine Go.iload 219 at_217 rfl rfl ?_
  refine Go.iload 221 at_219 rfl rfl ?_
  refine Go.callS 224 [(.long draws), (.ref pa), (.ref ca), (.ref sa), (.ref qa), (.int (9 : Int32)), (.int fr_), (.int to_)] [] (hw _ (List.mem_of_getElem? (i := 3) rfl)) (hw _ (List.mem_of_getElem? (i := 4) rfl)) (hw _ (List.mem_of_getElem? (i := 6) rfl)) (hw _ (List.mem_of_getElem? (i := 5) rfl)) (by decide) pn_1 pd_2 rfl (ef_1_JAAAAIII draws pa ca sa qa (9 : Int32) fr_ to_) (step_go l Z a0 hw (k := 9) H I (by decide) (by decide) ifr ito) rfl rfl (by decide) (leB rfl) (by decide) (by decide) at_221 rfl ?_
  rintro _ m9 ⟨rfl, ps9, cs9, ss9, qs9, H, I⟩
  refine Go.lloadN 225 at_224 rfl rfl ?_
  refine Go.aload 227 at_225 rfl rfl rfl ?_
  refine Go.aload 229 at_227 rfl rfl rfl ?_
  refine Go.aload 231 at_229 rfl rfl rfl ?_
  refine Go.aload 233 at_231 rfl rfl rfl ?_
  refine Go.bipush 235 (10 : Int32) at_233 rfl (by decide) ?_
  refine Go.iload 237 at_235 rfl rfl ?_
  refine Go.iload 239 at_237 rfl rfl ?_
  refine Go.callS 242 [(.long draws), (.ref pa), (.ref ca), (.ref sa), (.ref qa), (.int (10 : Int32)), (.int fr_), (.int to_)] [] (hw _ (List.mem_of_getElem? (i := 3) rfl)) (hw _ (List.mem_of_getElem? (i := 4) rfl)) (hw _ (List.mem_of_getElem? (i := 6) rfl)) (hw _ (List.mem_of_getElem? (i := 5) rfl)) (by decide) pn_1 pd_2 rfl (ef_1_JAAAAIII draws pa ca sa qa (10 : Int32) fr_ to_) (step_go l Z a0 hw (k := 10) H I (by decide) (by decide) ifr ito) rfl rfl (by decide) (leB rfl) (by decide) (by decide) at_239 rfl ?_
  rintro _ m10 ⟨rfl, ps10, cs10, ss10, qs10, H, I⟩
  refine Go.lloadN 243 at_242 rfl rfl ?_
  refine Go.aload 245 at_243 rfl rfl rfl ?_
  refine Go.aload 247 at_245 rfl rfl rfl ?_
  refine Go.aload 249 at_247 rfl rfl rfl ?_
  refine Go.aload 251 at_249 rfl rfl rfl ?_
  refine Go.bipush 253 (11 : Int32) at_251 rfl (by decide) ?_
  refine Go.iload 255 at_253 rfl rfl ?_
  refine Go.iload 257 at_255 rfl rfl ?_
  refine Go.callS 260 [(.long draws), (.ref pa), (.ref ca), (.ref sa), (.ref qa), (.int (11 : Int32)), (.int fr_), (.int to_)] [] (hw _ (List.mem_of_getElem? (i := 3) rfl)) (hw _ (List.mem_of_getElem? (i := 4) rfl)) (hw _ (List.mem_of_getElem? (i := 6) rfl)) (hw _ (List.mem_of_getElem? (i := 5) rfl)) (by decide) pn_1 pd_2 rfl (ef_1_JAAAAIII draws pa ca sa qa (11 : Int32) fr_ to_) (step_go l Z a0 hw (k := 11) H I (by decide) (by decide) ifr ito) rfl rfl (by decide) (leB rfl) (by decide) (by decide) at_257 rfl ?_
  rintro _ m11 ⟨rfl, ps11, cs11, ss11, qs11, H, I⟩
  have LL := H.2.2.2.2.1
  obtain ⟨tot, etot, itot⟩ := gI_get (xs := cs11) (i := to - 1) (by omega)
  have Bt := I (to - 1) (by omega)
  rw [itot] at Bt
  refine Go.aload 262 at_260 rfl rfl rfl ?_
  refine Go.iload 264 at_262 rfl rfl ?_
  refine Go.iconst 265 (1 : Int32) at_264 rfl (by decide) ?_
  refine Go.isub 266 (to_ - (1 : Int32)) at_265 rfl rfl ?_
  refine Go.iaload 267 H.2.1 (i := to - 1) (toInt_sub ito (show (1 : Int32).toInt = 1 by decide) (by omega) (by omega) (by omega)) etot at_266 rfl ?_
  have g298 : ∀ (tg : UInt64) (u : Int), DQ 1 u tg → 0 ≤ u → u ≤ 2 * tot.toInt → Go l Z room_1 (x, code, maxLocals, ret) n0 Q1 m11 (0 + 1 + 1 + 1 + 1 + 0 + 0 + 0 + 0 + 0 + 0 + 0 + 0 + 0 + 0 + 0 + 0) (0 + 12 + 12 + 12 + 12 + 0 + 0 + 0 + 0 + 0 + 0 + 0 + 0 + 0 + 0 + 0 + 0) 298 #[.val (.long draws), .second, .val (.int a), .val (.int b), .val (.int t), .val (.int fr_), .val (.int to_), .val (.ref pa), .val (.ref ca), .val (.ref sa), .val (.ref qa), .val (.int tot), .unset, .unset, .unset] [(.double tg)] := by
    intro tg u du u0 u1
    have hsum : ∀ d i, fr ≤ i → i + d < to → gI cs11 i ≤ gI cs11 (i + d) := by
      intro d
      induction d with
      | zero => intro i _ _; exact Int.le_refl _
      | succ d ih =>
        intro i q1 q2
        have a1 := ih i q1 (by omega)
        have a2 := I (i + (d + 1)) (by omega)
        have a3 := a2.2.2.2.2.2.2.2.1 (by omega)
        rw [show i + (d + 1) - 1 = i + d by omega] at a3
        have := a2.1
        omega
    have F : FP0 Z m11 sa qa ss11 qs11 (gI cs11) (gI ps11) fr to fr_ to_ u tg := ⟨H.2.2.1, H.2.2.2.1, fun i q1 q2 => (I i (by omega)).2.2.2.2.2.2.2.2 q1 q2, fun i q1 q2 => (I i (by omega)).2.2.2.2.1, fun i j q1 q2 q3 => by have := hsum (j - i) i q1 (by omega); rw [show i + (j - i) = j by omega] at this; exact this, du, hft.1, hft.2.1, ifr, ito⟩
    refine Go.dstore 300 #[.val (.long draws), .second, .val (.int a), .val (.int b), .val (.int t), .val (.int fr_), .val (.int to_), .val (.ref pa), .val (.ref ca), .val (.ref sa), .val (.ref qa), .val (.int tot), .val (.double tg), .second, .unset] at_298 rfl rfl ?_
    refine Go.aload 302 at_300 rfl rfl rfl ?_
    refine Go.aload 304 at_302 rfl rfl rfl ?_
    refine Go.iload 306 at_304 rfl rfl ?_
    refine Go.iload 308 at_306 rfl rfl ?_
    refine Go.dload 310 at_308 rfl rfl ?_
    refine Go.callS 313 [(.ref sa), (.ref qa), (.int fr_), (.int to_), (.double tg)] [] (hw _ (List.mem_of_getElem? (i := 10) rfl)) (hw _ (List.mem_of_getElem? (i := 11) rfl)) (hw _ (List.mem_of_getElem? (i := 13) rfl)) (hw _ (List.mem_of_getElem? (i := 12) rfl)) (by decide) pn_4 pd_5 rfl (ef_2_AAIID sa qa fr_ to_ tg) (fp_go l Z a0 hw F) rfl rfl (by decide) (leB rfl) (by decide) (by decide) at_310 rfl ?_
    rintro _ _ ⟨r, k, rfl, ir, k1, k2, kk, rfl⟩
    refine Go.istore 315 #[.val (.long draws), .second, .val (.int a), .val (.int b), .val (.int t), .val (.int fr_), .val (.int to_), .val (.ref pa), .val (.ref ca), .val (.ref sa), .val (.ref qa), .val (.int tot), .val (.double tg), .second, .val (.int r)] at_313 rfl rfl ?_
    refine Go.iload 317 at_315 rfl rfl ?_
    refine Go.iload 319 at_317 rfl rfl ?_
    refine Go.icmpF 322 at_319 rfl (show (fr_).toInt ≤ (r).toInt from by omega) ?_
    refine Go.iload 324 at_322 rfl rfl ?_
    refine Go.iload 326 at_324 rfl rfl ?_
    refine Go.icmpT 331 at_326 (by decide) (by decide) (show (r).toInt < (to_).toInt from by omega) ?_
    have dtot := dq_cast (dq_up 1 (dq_of_int (FP.Core.i2d_int tot))) rfl (show tot.toInt * 2 ^ 1 = 2 * tot.toInt by omega)
    refine Go.dload 333 at_331 rfl rfl ?_
    refine Go.iload 335 at_333 rfl rfl ?_
    refine Go.i2d 336 (FP.i2d tot) at_335 rfl rfl ?_
    refine Go.dcmp 337 (sg u (2 * tot.toInt)) at_336 rfl (cmpQ du dtot _) ?_
    refine Go.ifCB 377 340 at_337 (by decide) (by decide) rfl (fun (hc : 0 ≤ ((sg u (2 * tot.toInt))).toInt) => ?_) (fun (hc : ((sg u (2 * tot.toInt))).toInt < 0) => ?_)
    · have := sg_cases u (2 * tot.toInt)
      have kk2 : (k = fr ∨ gI ps11 k ≠ 0) ∧ ∀ j, k < j → j < to → gI ps11 j = 0 := by
        rcases kk with q | q
        · have := hsum (to - 1 - k) k k1 (by omega); rw [show k + (to - 1 - k) = to - 1 by omega, itot] at this; omega
        · exact q.2
      have hck : ∀ d, k + d < to → gI cs11 (k + d) = gI cs11 k := by
        intro d
        induction d with
        | zero => intro _; rfl
        | succ d ih =>
          intro q2
          have a1 := ih (by omega)
          have a3 := (I (k + (d + 1)) (by omega)).2.2.2.2.2.2.2.1 (by omega)
          rw [show k + (d + 1) - 1 = k + d by omega, kk2.2 (k + (d + 1)) (by omega) q2] at a3
          omega
      obtain ⟨ck, eck, ick⟩ := gI_get (xs := cs11) (i := k) (by omega)
      have hct : ck.toInt = tot.toInt := by have := hck (to - 1 - k) (by omega); rw [show k + (to - 1 - k) = to - 1 by omega, itot, ick] at this; exact this.symm
      refine Go.aload 379 at_377 rfl rfl rfl ?_
      refine Go.iload 381 at_379 rfl rfl ?_
      refine Go.iaload 382 H.2.1 ir eck at_381 rfl ?_
      refine Go.iload 384 at_382 rfl rfl ?_
      refine Go.icmpF 387 at_384 rfl (show (ck).toInt = (tot).toInt from by omega) ?_
      refine Go.iload 389 at_387 rfl rfl ?_
      refine Go.iload 391 at_389 rfl rfl ?_
      refine Go.icmpB 402 394 at_391 (by decide) (by decide) rfl (fun (hc2 : (r).toInt = (fr_).toInt) => ?_) (fun (hc2 : (r).toInt ≠ (fr_).toInt) => ?_)
      · refine Go.iconst 403 (1 : Int32) at_402 rfl (by decide) ?_
        refine Go.goto 407 at_403 (by decide) (by decide) ?_
        exact Go.zret at_407 rfl (Or.inr rfl) (by decide) (by decide) rfl
      · obtain ⟨pk, epk, ipk⟩ := gI_get (xs := ps11) (i := k) (by omega)
        have Ik := I k (by omega)
        have hpk : pk.toInt ≠ 0 := kk2.1.elim (fun q => by omega) (fun q => by rw [ipk] at q; exact q)
        rw [ipk] at Ik
        refine Go.aload 396 at_394 rfl rfl rfl ?_
        refine Go.iload 398 at_396 rfl rfl ?_
        refine Go.iaload 399 H.1 ir epk at_398 rfl ?_
        refine Go.ifCF 402 at_399 rfl (show 0 < (pk).toInt from by omega) ?_
        refine Go.iconst 403 (1 : Int32) at_402 rfl (by decide) ?_
        refine Go.goto 407 at_403 (by decide) (by decide) ?_
        exact Go.zret at_407 rfl (Or.inr rfl) (by decide) (by decide) rfl
    · have := sg_cases u (2 * tot.toInt)
      obtain ⟨sv, hsv, dsv⟩ := (I k (by omega)).2.2.2.2.2.2.2.2 k1 k2
      have dsv2 := dq_cast (dq_up 1 (dq_of_int dsv)) rfl (show gI cs11 k * 2 ^ 1 = 2 * gI cs11 k by omega)
      have kk2 : u < 2 * gI cs11 k ∧ (k = fr ∨ 2 * gI cs11 (k - 1) ≤ u) := by
        rcases kk with q | q
        · exact q
        · have := q.1 (to - 1) (by omega) (by omega); rw [itot] at this; omega
      refine Go.aload 342 at_340 rfl rfl rfl ?_
      refine Go.iload 344 at_342 rfl rfl ?_
      refine Go.daload 345 H.2.2.1 ir hsv at_344 rfl ?_
      refine Go.dload 347 at_345 rfl rfl ?_
      refine Go.dcmp 348 (sg (2 * gI cs11 k) u) at_347 rfl (cmpQ dsv2 du _) ?_
      refine Go.ifCF 351 at_348 rfl (show 0 < ((sg (2 * gI cs11 k) u)).toInt from by have := sg_cases (2 * gI cs11 k) u; omega) ?_
      refine Go.iload 353 at_351 rfl rfl ?_
      refine Go.iload 355 at_353 rfl rfl ?_
      refine Go.icmpB 371 358 at_355 (by decide) (by decide) rfl (fun (hc2 : (r).toInt = (fr_).toInt) => ?_) (fun (hc2 : (r).toInt ≠ (fr_).toInt) => ?_)
      · refine Go.iconst 372 (1 : Int32) at_371 rfl (by decide) ?_
        refine Go.goto 376 at_372 (by decide) (by decide) ?_
        exact Go.zret at_376 rfl (Or.inr rfl) (by decide) (by decide) rfl
      · have hk1 : k ≠ fr := fun q => by omega
        obtain ⟨sw, hsw, dsw⟩ := (I (k - 1) (by omega)).2.2.2.2.2.2.2.2 (by omega) (by omega)
        have dsw2 := dq_cast (dq_up 1 (dq_of_int dsw)) rfl (show gI cs11 (k - 1) * 2 ^ 1 = 2 * gI cs11 (k - 1) by omega)
        refine Go.aload 360 at_358 rfl rfl rfl ?_
        refine Go.iload 362 at_360 rfl rfl ?_
        refine Go.iconst 363 (1 : Int32) at_362 rfl (by decide) ?_
        refine Go.isub 364 (r - (1 : Int32)) at_363 rfl rfl ?_
        refine Go.daload 365 H.2.2.1 (i := k - 1) (toInt_sub ir (show (1 : Int32).toInt = 1 by decide) (by omega) (by omega) (by omega)) hsw at_364 rfl ?_
        refine Go.dload 367 at_365 rfl rfl ?_
        refine Go.dcmp 368 (sg (2 * gI cs11 (k - 1)) u) at_367 rfl (cmpQ dsw2 du _) ?_
        refine Go.ifCF 371 at_368 rfl (show ((sg (2 * gI cs11 (k - 1)) u)).toInt ≤ 0 from by have := sg_cases (2 * gI cs11 (k - 1)) u; omega) ?_
        refine Go.iconst 372 (1 : Int32) at_371 rfl (by decide) ?_
        refine Go.goto 376 at_372 (by decide) (by decide) ?_
        exact Go.zret at_376 rfl (Or.inr rfl) (by decide) (by decide) rfl
  refine Go.istore 269 #[.val (.long draws), .second, .val (.int a), .val (.int b), .val (.int t), .val (.int fr_), .val (.int to_), .val (.ref pa), .val (.ref ca), .val (.ref sa), .val (.ref qa), .val (.int tot), .unset, .unset, .unset] at_267 rfl rfl ?_
  refine Go.iload 271 at_269 rfl rfl ?_
  refine Go.iconst 272 (3 : Int32) at_271 rfl (by decide) ?_
  refine Go.iand 273 (t &&& (3 : Int32)) at_272 rfl rfl ?_
  refine Go.ifCB 282 276 at_273 (by decide) (by decide) rfl (fun (hc : ((t &&& (3 : Int32))).toInt ≠ 0) => ?_) (fun (hc : ((t &&& (3 : Int32))).toInt = 0) => ?_)
  · obtain ⟨ju, hju, iju⟩ := ushr2 t
    obtain ⟨m2, hm2⟩ : ∃ z : Int32, (2 : Int32) * tot + (1 : Int32) = z := ⟨_, rfl⟩
    have im2 : m2.toInt = ((2 * tot.toInt + 1).toNat : Int) := by rw [← hm2]; exact toInt_add (toInt_mul (show (2 : Int32).toInt = 2 by decide) rfl (by omega) (by omega) rfl) (show (1 : Int32).toInt = 1 by decide) (by omega) (by omega) (by omega)
    have hm0 : m2 ≠ 0 := fun q => by rw [q] at im2; have : (0 : Int32).toInt = 0 := (by decide); omega
    obtain ⟨rr, hrr⟩ : ∃ z : Int32, XT.ushr t 2 % m2 = z := ⟨_, rfl⟩
    have irr : rr.toInt = ((ju % (2 * tot.toInt + 1).toNat : Nat) : Int) := by rw [← hrr]; exact rem_nat iju im2 (by omega)
    have hrr2 : ju % (2 * tot.toInt + 1).toNat < (2 * tot.toInt + 1).toNat := Nat.mod_lt _ (by omega)
    obtain ⟨tg, qtg, dtg⟩ := divQ (n := 1) (t := rr.toInt) (dq_of_int (FP.Core.i2d_int rr)) (dq_of_int d2) (by decide) (by omega) (by omega) (by decide)
    refine Go.iload 284 at_282 rfl rfl ?_
    refine Go.iconst 285 (2 : Int32) at_284 rfl (by decide) ?_
    refine Go.iushr 286 (XT.ushr t (2 : Int32)) at_285 rfl rfl ?_
    refine Go.iconst 287 (2 : Int32) at_286 rfl (by decide) ?_
    refine Go.iload 289 at_287 rfl rfl ?_
    refine Go.imul 290 ((2 : Int32) * tot) at_289 rfl rfl ?_
    refine Go.iconst 291 (1 : Int32) at_290 rfl (by decide) ?_
    refine Go.iadd 292 m2 at_291 rfl hm2 ?_
    refine Go.irem 293 rr at_292 rfl hm0 hrr ?_
    refine Go.i2d 294 (FP.i2d rr) at_293 rfl rfl ?_
    refine Go.ldc2D 297 4611686018427387904 (hw _ (List.mem_of_getElem? (i := 14) rfl)) at_294 rfl ?_
    refine Go.ddiv 298 tg at_297 rfl qtg.1 qtg.2 ?_
    exact g298 tg rr.toInt dtg (by omega) (by omega)
  · refine Go.iload 278 at_276 rfl rfl ?_
    refine Go.i2d 279 (FP.i2d tot) at_278 rfl rfl ?_
    refine Go.goto 298 at_279 (by decide) (by decide) ?_
    exact g298 _ (2 * tot.toInt) (dq_cast (dq_up 1 (dq_of_int (FP.Core.i2d_int tot))) rfl (by omega)) (by omega) (by omega)
set_option maxRecDepth 65536 in
set_option maxHeartbeats 40000000 in
theorem comes_1 {Post : Tables → Env → Array Value → State → Outcome → State → Prop} (hpost : ∀ tb e args s v u, (limb_1_1.after args s (.returned v) u = true ∧ limb_1_2.after args s (.returned v) u = true ∧ True) → FrameEnd s (.returned v) u (Jvm.fieldLocs frame_1_writes args s ++ Jvm.arrayLocs frame_1_arrays args s ++ Jvm.staticLocs frame_1_statics s) 16 192 → Post tb e args s (.returned v) u) :
    ArmFor flags0 classFile x code maxLocals ret World_1 tables_1 room_1 Calls_1 rest_1 Pre_1 Post := by
  intro l hfl _ _ p e ha hc hk s m args below hf hA hF happ hP
  obtain ⟨hcalls, hrest, hpre⟩ := hP
  obtain ⟨-, -, -, hnamed, -, -, -, hat⟩ := (Spec.applies_iff hf).mp happ
  obtain ⟨hg, hn⟩ := and_e (Cond.before_iff.mp (show (Jvm.Cond.and given_1 narrow_1).before args s = true from hpre))
  obtain ⟨h1, g0⟩ := and_e hg
  obtain ⟨k0, g1⟩ := and_e g0
  obtain ⟨k1, g2⟩ := and_e g1
  obtain ⟨k2, g3⟩ := and_e g2
  obtain ⟨w0, w1, w2, w3, rfl⟩ : ∃ w0 w1 w2 w3 : Value, args = #[w0, w1, w2, w3] := by
    have hs : args.size = 4 := by simpa [Cond.value, given_1] using h1
    obtain ⟨L⟩ := args
    match L, hs with
    | [w0, w1, w2, w3], _ => exact ⟨w0, w1, w2, w3, rfl⟩
  have hw := fun d (hd : d ∈ tables_1) => atoms_spec (ws := Jvm.Cond.code x code maxLocals ret :: tables_1) hat d (List.mem_cons_of_mem _ hd)
  obtain ⟨i0, e0⟩ := isL_v k0
  obtain rfl : w0 = (.long i0) := Option.some.inj e0
  obtain ⟨i1, e1⟩ := is_v k1
  obtain rfl : w1 = (.int i1) := Option.some.inj e1
  obtain ⟨i2, e2⟩ := is_v k2
  obtain rfl : w2 = (.int i2) := Option.some.inj e2
  obtain ⟨i3, e3⟩ := is_v g3
  obtain rfl : w3 = (.int i3) := Option.some.inj e3
  obtain ⟨n, o, h1, h2, h3, _, L, rfl, ⟨rfl, -, N⟩, hq⟩ := (law_go l s _ hw i0 i1 i2 i3 (h := s.heap) (n0 := s.heap.size)).met (ws := tables_1) (Q := Q1) law_pn (Nat.le_refl s.heap.size) (ef_0_JIII i0 i1 i2 i3) p e ha hc hk s m _ below hf ((Spec.applies_iff_loose hf).mp happ).1 ⟨rfl, State.WarmedH.refl s, rfl⟩ trivial
  refine ⟨n, _, h1, h2, h3, hpost _ _ _ _ _ _ ⟨Cond.after_iff.mpr rfl, Cond.after_iff.mpr (eq_i res_at (Term.int_eval (1)) rfl), trivial⟩ ⟨hq.1, hq.2.1, (hq.2.2.sift fun y hy => Or.inr (N y hy)).mono (by decide) (by decide)⟩⟩
theorem main_1_1 : Claimed_1_1 := comes_1 fun _ _ _ _ _ _ h hF => ⟨h.1, hF⟩
theorem main_1_2 : Claimed_1_2 := comes_1 fun _ _ _ _ _ _ h hF => ⟨h.2.1, hF⟩
end Jvm.Pilot.@@N@@
namespace Jvm.Pilot.@@N@@
open Jvm Jvm.ClassFile Sem Op Lib Jvm.Free Jvm.Stand Jvm.Pilot.@@N@@.Jvm.D
/-! MADE BY PROGRAM (witnessworld.py) out of the Statement's table words and the real class files: 11 classes; the members and pool entries that the words name. The judged class is class 1, her method 2. -/
namespace start1
open Jvm.ClassFile
def u (s : String) : CpInfo := .utf8 (stringToUtf16 s)
/-- a pool by its gaps: so many unusable entries, then the entry; so many at the end -/
def gap : Nat → List CpInfo → List CpInfo
  | 0, r => r
  | n + 1, r => .unusable :: gap n r
def poolList (es : List (Nat × CpInfo)) (last : Nat) : List CpInfo := es.foldr (fun e r => gap e.1 (e.2 :: r)) (gap last [])
def pool (es : List (Nat × CpInfo)) (last : Nat) : Array CpInfo := ⟨poolList es last⟩
def fileOf (pool : Array CpInfo) (this : Nat) (attrs : Array Attribute := #[]) (ms : Array MethodInfo := #[]) (fl : Nat := 33) (sup : Nat := 0) (ifs : Array Nat := #[]) (fds : Array FieldInfo := #[]) : ClassFile where
  minorVersion := 0
  majorVersion := 65
  constantPool := pool
  accessFlags := fl
  thisClass := this
  superClass := sup
  interfaces := ifs
  fields := fds
  methods := ms
  attributes := attrs
def plain (name : String) (sup : Option ClassId) : Class where
  name := name
  kind := .ordinary
  loader := none
  accessFlags := 33
  super := sup
  interfaces := #[]
  cf := none
  fields := #[]
  methods := #[]
  instanceTypes := #[]
  staticTypes := #[]
  resolved := #[]
  callSites := []
  init := .initialized
  statics := none
  mirror := none

def pool0 : Array CpInfo := pool [(5, u "<init>"), (0, u "()V"), (1, .class_ 10), (1, u "java/lang/Object")] 113

def k0m0 : Method := { name := "<init>", desc := "()V", sig := { parameters := [], returnType := none }, accessFlags := 1, code := none }
/-- java/lang/Object -/
def k0 : Class := { plain "java/lang/Object" none with
  accessFlags := 33
  interfaces := #[]
  cf := some (fileOf pool0 8 #[] #[{ accessFlags := 1, nameIndex := 5, descriptorIndex := 6, attributes := #[] }] 33 0 #[] #[])
  fields := #[]
  methods := #[k0m0]
  instanceTypes := #[]
  staticTypes := #[]
  resolved := Array.replicate 124 none
  statics := none }

def pool1 : Array CpInfo := pool [(2, .class_ 4), (1, u "java/lang/Object"), (0, u "<init>"), (0, u "()V"), (0, .long 7), (1, .double 4652007308841189376), (1, .double 13875379345695965184), (1, .integer 2147483647), (0, .methodref 15 16), (0, .class_ 17), (0, .nameAndType 18 19), (0, u "com/example/orderly_crowd/orderlycrowd/simulation/EventsFirstPastPinLaw"), (0, u "step"), (0, u "(J[I[I[D[DIII)V"), (0, .double 4611686018427387904), (1, .methodref 23 24), (0, .class_ 25), (0, .nameAndType 26 27), (0, u "com/example/orderly_crowd/orderlycrowd/simulation/Events"), (0, u "firstPast"), (0, u "([D[DIID)I"), (7, u "law"), (0, u "(JIII)Z")] 2

def k1m0 : Method := { name := "<init>", desc := "()V", sig := { parameters := [], returnType := none }, accessFlags := 1, code := none }
def k1c1 : Code := { maxStack := 5, maxLocals := 10, code := method_2_code, exceptionTable := #[], attributes := #[] }
def k1m1 : Method := { name := "step", desc := "(J[I[I[D[DIII)V", sig := { parameters := [.long, (.array .int), (.array .int), (.array .double), (.array .double), .int, .int, .int], returnType := none }, accessFlags := 10, code := some k1c1 }
def k1c2 : Code := { maxStack := 9, maxLocals := 15, code := code, exceptionTable := #[], attributes := #[] }
def k1m2 : Method := { name := "law", desc := "(JIII)Z", sig := { parameters := [.long, .int, .int, .int], returnType := some .boolean }, accessFlags := 9, code := some k1c2 }
/-- com/example/orderly_crowd/orderlycrowd/simulation/EventsFirstPastPinLaw -/
def k1 : Class := { plain "com/example/orderly_crowd/orderlycrowd/simulation/EventsFirstPastPinLaw" (some 0) with
  accessFlags := 49
  interfaces := #[]
  cf := some (fileOf pool1 15 #[] #[{ accessFlags := 1, nameIndex := 5, descriptorIndex := 6, attributes := #[] }, { accessFlags := 10, nameIndex := 18, descriptorIndex := 19, attributes := #[] }, { accessFlags := 9, nameIndex := 35, descriptorIndex := 36, attributes := #[] }] 49 2 #[] #[])
  fields := #[]
  methods := #[k1m0, k1m1, k1m2]
  instanceTypes := #[]
  staticTypes := #[]
  resolved := Array.replicate 39 none
  statics := none }

def pool2 : Array CpInfo := pool [(2, .class_ 4), (1, u "java/lang/Object"), (0, u "<init>"), (0, u "()V"), (1, .class_ 10), (1, u "com/example/orderly_crowd/orderlycrowd/simulation/Events"), (0, u "localStates"), (0, u "[I"), (2, u "outputs"), (2, u "propensities"), (0, u "[D"), (2, u "sums"), (2, u "size"), (0, u "I"), (2, u "summed"), (15, u "firstPast"), (0, u "([D[DIID)I"), (0, u "COUNTED")] 19

def k2m0 : Method := { name := "<init>", desc := "()V", sig := { parameters := [], returnType := none }, accessFlags := 0, code := none }
def k2c1 : Code := { maxStack := 5, maxLocals := 9, code := prog_207_method_9_code, exceptionTable := #[], attributes := #[] }
def k2m1 : Method := { name := "firstPast", desc := "([D[DIID)I", sig := { parameters := [(.array .double), (.array .double), .int, .int, .double], returnType := some .int }, accessFlags := 8, code := some k2c1 }
/-- com/example/orderly_crowd/orderlycrowd/simulation/Events -/
def k2 : Class := { plain "com/example/orderly_crowd/orderlycrowd/simulation/Events" (some 0) with
  accessFlags := 48
  interfaces := #[]
  cf := some (fileOf pool2 8 #[] #[{ accessFlags := 0, nameIndex := 5, descriptorIndex := 6, attributes := #[] }, { accessFlags := 8, nameIndex := 45, descriptorIndex := 46, attributes := #[] }] 48 2 #[] #[{ accessFlags := 26, nameIndex := 47, descriptorIndex := 26, attributes := #[] }, { accessFlags := 2, nameIndex := 25, descriptorIndex := 26, attributes := #[] }, { accessFlags := 2, nameIndex := 11, descriptorIndex := 12, attributes := #[] }, { accessFlags := 2, nameIndex := 15, descriptorIndex := 12, attributes := #[] }, { accessFlags := 2, nameIndex := 18, descriptorIndex := 19, attributes := #[] }, { accessFlags := 2, nameIndex := 22, descriptorIndex := 19, attributes := #[] }, { accessFlags := 2, nameIndex := 29, descriptorIndex := 26, attributes := #[] }])
  fields := #[{ name := "COUNTED", type := .int, accessFlags := 26, slot := 0, constantValue := 0 }, { name := "size", type := .int, accessFlags := 2, slot := 0, constantValue := 0 }, { name := "localStates", type := (.array .int), accessFlags := 2, slot := 1, constantValue := 0 }, { name := "outputs", type := (.array .int), accessFlags := 2, slot := 2, constantValue := 0 }, { name := "propensities", type := (.array .double), accessFlags := 2, slot := 3, constantValue := 0 }, { name := "sums", type := (.array .double), accessFlags := 2, slot := 4, constantValue := 0 }, { name := "summed", type := .int, accessFlags := 2, slot := 5, constantValue := 0 }]
  methods := #[k2m0, k2m1]
  instanceTypes := #[.int, (.array .int), (.array .int), (.array .double), (.array .double), .int]
  staticTypes := #[.int]
  resolved := Array.replicate 67 none
  statics := none }

def pool3 : Array CpInfo := pool [(1, u "java/lang/Cloneable"), (0, .class_ 1), (0, u "java/lang/Object"), (0, .class_ 3)] 3

/-- java/lang/Cloneable -/
def k3 : Class := { plain "java/lang/Cloneable" (some 0) with
  accessFlags := 1537
  interfaces := #[]
  cf := some (fileOf pool3 2 #[] #[] 1537 4 #[] #[])
  fields := #[]
  methods := #[]
  instanceTypes := #[]
  staticTypes := #[]
  resolved := Array.replicate 8 none
  statics := none }

def pool4 : Array CpInfo := pool [(1, u "java/io/Serializable"), (0, .class_ 1), (0, u "java/lang/Object"), (0, .class_ 3)] 3

/-- java/io/Serializable -/
def k4 : Class := { plain "java/io/Serializable" (some 0) with
  accessFlags := 1537
  interfaces := #[]
  cf := some (fileOf pool4 2 #[] #[] 1537 4 #[] #[])
  fields := #[]
  methods := #[]
  instanceTypes := #[]
  staticTypes := #[]
  resolved := Array.replicate 8 none
  statics := none }

/-- the primitive byte -/
def k5 : Class := { plain "byte" none with kind := .primitive 'B', accessFlags := 0x411 }
/-- [B -/
def k6 : Class := { plain "[B" (some 0) with kind := .array 5 .byte, interfaces := #[3, 4], accessFlags := 1041 }

/-- the primitive double -/
def k7 : Class := { plain "double" none with kind := .primitive 'D', accessFlags := 0x411 }
/-- [D -/
def k8 : Class := { plain "[D" (some 0) with kind := .array 7 .double, interfaces := #[3, 4], accessFlags := 1041 }

/-- the primitive int -/
def k9 : Class := { plain "int" none with kind := .primitive 'I', accessFlags := 0x411 }
/-- [I -/
def k10 : Class := { plain "[I" (some 0) with kind := .array 9 .int, interfaces := #[3, 4], accessFlags := 1041 }

def heap : Heap := #[]
def classes : Array Class := #[k0, k1, k2, k3, k4, k5, k6, k7, k8, k9, k10]
def interned : List (Array UInt16 × Addr) := []
def slotsUsed : Nat := 0
def theMethod : MethodId := ⟨1, 2⟩
def args0 : Array Value := #[.long 5, .int 3, .int 4, .int 5]
def aboutOver (below : List Frame) : State where
  vm := { classes := classes, interned := interned.toArray }
  heap := heap
  slotsUsed := slotsUsed
  threads := #[{ frames := .invoking theMethod args0 :: below }]
def below0 : List Frame := [.native { method := ⟨0, 0⟩, args := #[] }]
def about1 : State := aboutOver below0
def p0 : Program := .bare "" "" ""
def e0 : Env := launch0.env 0 0 0
theorem w_frames : about1.frames = Frame.invoking theMethod args0 :: below0 := rfl
set_option maxRecDepth 65536 in
theorem w_args : argsFit about1.vm theMethod args0 = true := by decide +kernel
set_option maxRecDepth 65536 in
theorem w_heap : heapFits about1 = true := by decide +kernel
set_option maxRecDepth 65536 in
theorem w_runnable : about1.curStatus? = some .runnable := by decide +kernel
set_option maxRecDepth 65536 in
theorem w_alone : about1.alone = true := by decide +kernel
set_option maxRecDepth 65536 in
theorem w_named : about1.methodNamed? x = some theMethod := by decide +kernel
set_option maxRecDepth 65536 in
theorem w_hears : about1.hears theMethod below0 = true := by decide +kernel
set_option maxRecDepth 65536 in
theorem w_ripe : about1.ripe theMethod args0 below0 = true := by decide +kernel
theorem w_running : about1.status = .running := rfl
set_option maxRecDepth 65536 in
theorem w_room : about1.hasRoom e0.platform room_1 = true :=
  launch0.hasRoom_least _ room_1 (by decide +kernel) (by decide +kernel) (by decide +kernel) (by decide +kernel) (by decide +kernel) (by decide +kernel)
theorem allAtoms_all (ts : List Jvm.Cond) (a : Array Jvm.Value) (st : Jvm.State) : (allAtoms ts).before a st = ts.all (fun c => c.before a st) := by
  induction ts with
  | nil => rfl
  | cons c t ih =>
    show (Jvm.Cond.and c (allAtoms t)).before a st = _
    rw [Jvm.Cond.before_and, ih, List.all_cons]
def words1 : List Jvm.Cond := Jvm.Cond.code x code maxLocals ret :: tables_1
/-- a 'code' word, met by the world's own term for the bytes: nothing is compared byte by byte -/
theorem code_word {y : MethodName} {bytes : ByteArray} {mx : Nat} {rt : Option FieldType} {a : Array Value} {s : State} {m : MethodId} {meth : Method} {c : Code} (h1 : s.methodNamed? y = some m) (h2 : s.vm.method? m = some meth) (h3 : meth.code = some c) (h4 : c.code = bytes)
    (h5 : (c.maxLocals == mx && c.exceptionTable.isEmpty && decide (c.maxStack ≤ mostOperands) && decide (meth.sig.returnType = rt) && !meth.locks && decide (parseMethodDescriptor y.desc = some meth.sig)) = true) : (Jvm.Cond.code y bytes mx rt).before a s = true := by
  simp only [Bool.and_eq_true, beq_iff_eq, Bool.not_eq_true', decide_eq_true_eq] at h5
  obtain ⟨⟨⟨⟨⟨g1, g2⟩, g3⟩, g4⟩, g5⟩, g6⟩ := h5
  simp [Cond.before, Cond.holds, Cond.value, h1, h2, h3, h4, g1, g2, g3, g4, g5, g6]
def isCode : Jvm.Cond → Bool
  | .code _ _ _ _ => true
  | _ => false
theorem all_split {L : List Jvm.Cond} {P : Jvm.Cond → Bool} (h1 : L.all (fun c => isCode c || P c) = true) (h2 : ∀ c ∈ L.filter isCode, P c = true) : L.all P = true := by
  refine List.all_eq_true.mpr fun c hc => ?_
  have h := List.all_eq_true.mp h1 c hc
  rcases Bool.eq_false_or_eq_true (isCode c) with hi | hi
  · exact h2 c (List.mem_filter.mpr ⟨hc, hi⟩)
  · simpa [hi] using h
set_option maxRecDepth 65536 in
theorem w_c0 : (Jvm.Cond.code x code maxLocals ret).before args0 about1 = true := code_word (m := ⟨1, 2⟩) (meth := k1m2) (c := k1c2) (by decide +kernel) rfl rfl rfl (by decide +kernel)
set_option maxRecDepth 65536 in
theorem w_c1 : (Jvm.Cond.code ({ cls := "com/example/orderly_crowd/orderlycrowd/simulation/EventsFirstPastPinLaw", name := "step", desc := "(J[I[I[D[DIII)V" } : Jvm.MethodName) method_2_code (10 : Nat) (Option.none : Option Jvm.ClassFile.FieldType)).before args0 about1 = true := code_word (m := ⟨1, 1⟩) (meth := k1m1) (c := k1c1) (by decide +kernel) rfl rfl rfl (by decide +kernel)
set_option maxRecDepth 65536 in
theorem w_c2 : (Jvm.Cond.code ({ cls := "com/example/orderly_crowd/orderlycrowd/simulation/Events", name := "firstPast", desc := "([D[DIID)I" } : Jvm.MethodName) prog_207_method_9_code (9 : Nat) (Option.some Jvm.ClassFile.FieldType.int)).before args0 about1 = true := code_word (m := ⟨2, 1⟩) (meth := k2m1) (c := k2c1) (by decide +kernel) rfl rfl rfl (by decide +kernel)
def codes1 : List Jvm.Cond := [Jvm.Cond.code x code maxLocals ret, Jvm.Cond.code ({ cls := "com/example/orderly_crowd/orderlycrowd/simulation/EventsFirstPastPinLaw", name := "step", desc := "(J[I[I[D[DIII)V" } : Jvm.MethodName) method_2_code (10 : Nat) (Option.none : Option Jvm.ClassFile.FieldType), Jvm.Cond.code ({ cls := "com/example/orderly_crowd/orderlycrowd/simulation/Events", name := "firstPast", desc := "([D[DIID)I" } : Jvm.MethodName) prog_207_method_9_code (9 : Nat) (Option.some Jvm.ClassFile.FieldType.int)]
set_option maxRecDepth 65536 in
theorem codes_eq : words1.filter isCode = codes1 := rfl
theorem w_codes : ∀ c ∈ words1.filter isCode, c.before args0 about1 = true := by
  rw [codes_eq]
  intro c hc
  simp only [codes1, List.mem_cons, List.not_mem_nil, or_false] at hc
  rcases hc with rfl | rfl | rfl
  · exact w_c0
  · exact w_c1
  · exact w_c2
set_option maxRecDepth 65536 in
theorem w_t1 : words1.all (fun c => isCode c || c.before args0 about1) = true := by decide +kernel
theorem w_tables : (allAtoms (Jvm.Cond.code x code maxLocals ret :: tables_1)).before args0 about1 = true := by
  rw [allAtoms_all]
  show words1.all (fun c => c.before args0 about1) = true
  refine all_split ?_ w_codes
  rw [w_t1]
set_option maxRecDepth 65536 in
theorem w_case : (Jvm.Cond.and given_1 narrow_1).before args0 about1 = true := by decide +kernel
theorem w_applies : (headSpec (Jvm.Cond.code x code maxLocals ret :: tables_1) room_1).applies x e0.platform about1 = true :=
  (Spec.applies_iff w_frames).mpr ⟨w_running, w_runnable, w_alone, w_named, w_hears, w_ripe, w_room, w_tables⟩
theorem atStart : AtStart classFile x code maxLocals ret World_1 tables_1 room_1 Calls_1 rest_1 Pre_1 launch0 p0 e0 about1 theMethod args0 below0 :=
  ⟨lists_1, trivial, launch0.admits_env _ _ _, launch0.least_env, fairChoices_fair.cas, fairChoices_fair.clock, w_frames, w_args, w_heap, w_applies, trivial, trivial, w_case⟩
end start1
theorem witness_1 : WitnessClaimed_1 := ⟨start1.p0, start1.e0, start1.about1, start1.theMethod, start1.args0, start1.below0, start1.atStart⟩
end Jvm.Pilot.@@N@@
