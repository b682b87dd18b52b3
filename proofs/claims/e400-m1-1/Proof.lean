import JvmDerived
import JvmDerived.Pilot.@@N@@Statement
import JvmDerived.Pilot.@@N@@Code
set_option linter.unusedVariables false
set_option linter.unusedSimpArgs false
namespace Jvm.GoK
open Sem ClassFile Op Lib Jvm.Stand Jvm.Free Jvm.LawKit Jvm.RoadKit
/-- a body: its method, its bytes, how many locals, what it returns -/
abbrev Bdy : Type := MethodName × ByteArray × Nat × Option FieldType
/-- what is known all over the walk of one body -/
def Cx (p : Program) (s : State) (m : MethodId) (meth : Method) (c : Code) (Z : State) (B : Bdy) : Prop :=
  p.tables.exec = Jvm.exec ∧ Z.Warmed39 s.vm ∧ s.vm.findClass B.1.cls = some m.cls ∧ c.code = B.2.1 ∧ c.maxLocals = B.2.2.1 ∧ meth.sig.returnType = B.2.2.2 ∧ meth.locks = false ∧ meth.name = B.1.name ∧ Z.WarmedH s.vm ∧ s.methodNamed? B.1 = some m
/-- from pc, with these locals and this operand stack, over the heap h, the body B returns, and Q holds of what it returns and of the heap then; only cells from n0 on are written -/
def Go (l : Launch) (Z : State) (R : Room) (B : Bdy) (n0 : Nat) (Q : Option Value → Heap → Prop) (h : Heap) (cl sl pc : Nat) (Ls : Array Slot) (st : List Value) : Prop :=
  ∀ (p : Program) (e : Env) (s : State) (m : MethodId) (args : Array Value) (below : List Frame) (meth : Method) (c : Code) (T : State) (locs : List Loc),
    Stand p l e R s m args below meth c T locs cl sl → Cx p s m meth c Z B → Fr n0 locs → T.heap = h → n0 ≤ h.size →
    ∃ s₂ o, Steps p.tables e below (T.setTop (mkF m pc Ls st)) s₂ ∧ s₂.status = .running ∧ Ended s₂ below o ∧
      ∃ v L, o = .returned v ∧ (Q v s₂.heap ∧ n0 ≤ s₂.heap.size ∧ Fr n0 L) ∧ FrameEnd s o s₂ L R.cells R.slots
section Rules
variable {l : Launch} {Z : State} {R : Room} {B : Bdy} {n0 : Nat} {Q : Option Value → Heap → Prop} {h : Heap} {cl sl pc : Nat} {Ls : Array Slot} {st : List Value} {a0 : Array Value}
theorem Go.lift {pc' : Nat} {Ls' : Array Slot} {st' : List Value}
    (f : ∀ {p : Program} {e : Env} {below : List Frame} {T target : State} {m : MethodId} {c : Code}, At T m c below → p.tables.exec = Jvm.exec → c.code = B.2.1 → Steps p.tables e below (T.setTop (mkF m pc' Ls' st')) target → Steps p.tables e below (T.setTop (mkF m pc Ls st)) target)
    (k : Go l Z R B n0 Q h cl sl pc' Ls' st') : Go l Z R B n0 Q h cl sl pc Ls st := by
  intro p e s m args below meth c T locs X cx fr eT hn
  obtain ⟨s₂, o, h1, r⟩ := k _ _ _ _ _ _ _ _ _ _ X cx fr eT hn
  exact ⟨s₂, o, f X.here cx.1 cx.2.2.2.1 h1, r⟩
theorem Go.conseq {Q' : Option Value → Heap → Prop} (k : Go l Z R B n0 Q' h cl sl pc Ls st) (q : ∀ v h', Q' v h' → Q v h') : Go l Z R B n0 Q h cl sl pc Ls st := by
  intro p e s m args below meth c T locs X cx fr eT hn
  obtain ⟨s₂, o, h1, h2, h3, v, L, h4, h5, h6⟩ := k _ _ _ _ _ _ _ _ _ _ X cx fr eT hn
  exact ⟨s₂, o, h1, h2, h3, v, L, h4, ⟨q _ _ h5.1, h5.2⟩, h6⟩
/-! ### plain steps; each rule names the next pc first -/
theorem Go.aloadN (pc' : Nat) {i : Fin 4} {v : Value} (hd : decode B.2.1 pc = .ok (.aload_n i, 1)) (hp : pc + 1 = pc') (hl : Ls[i.val]? = some (.val v)) (hv : v.isRef = true) (k : Go l Z R B n0 Q h cl sl pc' Ls (v :: st)) : Go l Z R B n0 Q h cl sl pc Ls st := by
  subst hp; exact Go.lift (fun at_ hx hc q => XS.aloadN at_ hx rfl (hb hc hd) hl hv q) k
theorem Go.aload (pc' : Nat) {i : Nat} {v : Value} (hd : decode B.2.1 pc = .ok (.aload i, 2)) (hp : pc + 2 = pc') (hl : Ls[i]? = some (.val v)) (hv : v.isRef = true) (k : Go l Z R B n0 Q h cl sl pc' Ls (v :: st)) : Go l Z R B n0 Q h cl sl pc Ls st := by
  subst hp; exact Go.lift (fun at_ hx hc q => XS.aload at_ hx rfl (hb hc hd) hl hv q) k
theorem Go.iloadN (pc' : Nat) {i : Fin 4} {v : Int32} (hd : decode B.2.1 pc = .ok (.iload_n i, 1)) (hp : pc + 1 = pc') (hl : Ls[i.val]? = some (.val (.int v))) (k : Go l Z R B n0 Q h cl sl pc' Ls (.int v :: st)) : Go l Z R B n0 Q h cl sl pc Ls st := by
  subst hp; exact Go.lift (fun at_ hx hc q => XS.iloadN at_ hx rfl (hb hc hd) hl q) k
theorem Go.iload (pc' : Nat) {i : Nat} {v : Int32} (hd : decode B.2.1 pc = .ok (.iload i, 2)) (hp : pc + 2 = pc') (hl : Ls[i]? = some (.val (.int v))) (k : Go l Z R B n0 Q h cl sl pc' Ls (.int v :: st)) : Go l Z R B n0 Q h cl sl pc Ls st := by
  subst hp; exact Go.lift (fun at_ hx hc q => XS.iload at_ hx rfl (hb hc hd) hl q) k
theorem Go.lloadN (pc' : Nat) {i : Fin 4} {v : Int64} (hd : decode B.2.1 pc = .ok (.lload_n i, 1)) (hp : pc + 1 = pc') (hl : Ls[i.val]? = some (.val (.long v))) (k : Go l Z R B n0 Q h cl sl pc' Ls (.long v :: st)) : Go l Z R B n0 Q h cl sl pc Ls st := by
  subst hp; exact Go.lift (fun at_ hx hc q => XT.lloadN at_ hx rfl (hb hc hd) hl q) k
theorem Go.lload (pc' : Nat) {i : Nat} {v : Int64} (hd : decode B.2.1 pc = .ok (.lload i, 2)) (hp : pc + 2 = pc') (hl : Ls[i]? = some (.val (.long v))) (k : Go l Z R B n0 Q h cl sl pc' Ls (.long v :: st)) : Go l Z R B n0 Q h cl sl pc Ls st := by
  subst hp; exact Go.lift (fun at_ hx hc q => XT.lload at_ hx rfl (hb hc hd) hl q) k
theorem Go.dloadN (pc' : Nat) {i : Fin 4} {v : UInt64} (hd : decode B.2.1 pc = .ok (.dload_n i, 1)) (hp : pc + 1 = pc') (hl : Ls[i.val]? = some (.val (.double v))) (k : Go l Z R B n0 Q h cl sl pc' Ls (.double v :: st)) : Go l Z R B n0 Q h cl sl pc Ls st := by
  subst hp; exact Go.lift (fun at_ hx hc q => XS.dloadN at_ hx rfl (hb hc hd) hl q) k
theorem Go.dload (pc' : Nat) {i : Nat} {v : UInt64} (hd : decode B.2.1 pc = .ok (.dload i, 2)) (hp : pc + 2 = pc') (hl : Ls[i]? = some (.val (.double v))) (k : Go l Z R B n0 Q h cl sl pc' Ls (.double v :: st)) : Go l Z R B n0 Q h cl sl pc Ls st := by
  subst hp; exact Go.lift (fun at_ hx hc q => XS.dload at_ hx rfl (hb hc hd) hl q) k
theorem Go.istoreN (pc' : Nat) (Ls' : Array Slot) {i : Fin 4} {x : Int32} (hd : decode B.2.1 pc = .ok (.istore_n i, 1)) (hp : pc + 1 = pc') (hl : storeLocals Ls i.val (.int x) = some Ls') (k : Go l Z R B n0 Q h cl sl pc' Ls' st) : Go l Z R B n0 Q h cl sl pc Ls (.int x :: st) := by
  subst hp; exact Go.lift (fun at_ hx hc q => XS.istoreN at_ hx rfl (hb hc hd) rfl hl q) k
theorem Go.istore (pc' : Nat) (Ls' : Array Slot) {i : Nat} {x : Int32} (hd : decode B.2.1 pc = .ok (.istore i, 2)) (hp : pc + 2 = pc') (hl : storeLocals Ls i (.int x) = some Ls') (k : Go l Z R B n0 Q h cl sl pc' Ls' st) : Go l Z R B n0 Q h cl sl pc Ls (.int x :: st) := by
  subst hp; exact Go.lift (fun at_ hx hc q => XS.istore at_ hx rfl (hb hc hd) rfl hl q) k
theorem Go.lstoreN (pc' : Nat) (Ls' : Array Slot) {i : Fin 4} {x : Int64} (hd : decode B.2.1 pc = .ok (.lstore_n i, 1)) (hp : pc + 1 = pc') (hl : storeLocals Ls i.val (.long x) = some Ls') (k : Go l Z R B n0 Q h cl sl pc' Ls' st) : Go l Z R B n0 Q h cl sl pc Ls (.long x :: st) := by
  subst hp; exact Go.lift (fun at_ hx hc q => XT.lstoreN at_ hx rfl (hb hc hd) rfl hl q) k
theorem Go.lstore (pc' : Nat) (Ls' : Array Slot) {i : Nat} {x : Int64} (hd : decode B.2.1 pc = .ok (.lstore i, 2)) (hp : pc + 2 = pc') (hl : storeLocals Ls i (.long x) = some Ls') (k : Go l Z R B n0 Q h cl sl pc' Ls' st) : Go l Z R B n0 Q h cl sl pc Ls (.long x :: st) := by
  subst hp; exact Go.lift (fun at_ hx hc q => XT.lstore at_ hx rfl (hb hc hd) rfl hl q) k
theorem Go.dstoreN (pc' : Nat) (Ls' : Array Slot) {i : Fin 4} {x : UInt64} (hd : decode B.2.1 pc = .ok (.dstore_n i, 1)) (hp : pc + 1 = pc') (hl : storeLocals Ls i.val (.double x) = some Ls') (k : Go l Z R B n0 Q h cl sl pc' Ls' st) : Go l Z R B n0 Q h cl sl pc Ls (.double x :: st) := by
  subst hp; exact Go.lift (fun at_ hx hc q => XS.dstoreN at_ hx rfl (hb hc hd) rfl hl q) k
theorem Go.dstore (pc' : Nat) (Ls' : Array Slot) {i : Nat} {x : UInt64} (hd : decode B.2.1 pc = .ok (.dstore i, 2)) (hp : pc + 2 = pc') (hl : storeLocals Ls i (.double x) = some Ls') (k : Go l Z R B n0 Q h cl sl pc' Ls' st) : Go l Z R B n0 Q h cl sl pc Ls (.double x :: st) := by
  subst hp; exact Go.lift (fun at_ hx hc q => XS.dstore at_ hx rfl (hb hc hd) rfl hl q) k
theorem Go.astoreN (pc' : Nat) (Ls' : Array Slot) {i : Fin 4} {x : Value} (hd : decode B.2.1 pc = .ok (.astore_n i, 1)) (hp : pc + 1 = pc') (hv : x.isRef = true) (hl : storeLocals Ls i.val x = some Ls') (k : Go l Z R B n0 Q h cl sl pc' Ls' st) : Go l Z R B n0 Q h cl sl pc Ls (x :: st) := by
  subst hp; exact Go.lift (fun at_ hx hc q => XS.astoreN at_ hx rfl (hb hc hd) rfl hv hl q) k
theorem Go.astore (pc' : Nat) (Ls' : Array Slot) {i : Nat} {x : Value} (hd : decode B.2.1 pc = .ok (.astore i, 2)) (hp : pc + 2 = pc') (hv : x.isRef = true) (hl : storeLocals Ls i x = some Ls') (k : Go l Z R B n0 Q h cl sl pc' Ls' st) : Go l Z R B n0 Q h cl sl pc Ls (x :: st) := by
  subst hp; exact Go.lift (fun at_ hx hc q => XS.astore at_ hx rfl (hb hc hd) rfl hv hl q) k
theorem Go.iinc (pc' : Nat) (Ls' : Array Slot) (v : Int32) {i : Nat} {cst : Int} {x : Int32} (hd : decode B.2.1 pc = .ok (.iinc i cst, 3)) (hp : pc + 3 = pc') (hl : Ls[i]? = some (.val (.int x))) (hv : x + Int32.ofInt cst = v) (hl' : storeLocals Ls i (.int v) = some Ls') (k : Go l Z R B n0 Q h cl sl pc' Ls' st) : Go l Z R B n0 Q h cl sl pc Ls st := by
  subst hp; subst hv; exact Go.lift (fun at_ hx hc q => XS.iinc at_ hx rfl (hb hc hd) hl hl' q) k
theorem Go.iconst (pc' : Nat) (v : Int32) {i : Int} (hd : decode B.2.1 pc = .ok (.iconst i, 1)) (hp : pc + 1 = pc') (hv : Int32.ofInt i = v) (k : Go l Z R B n0 Q h cl sl pc' Ls (.int v :: st)) : Go l Z R B n0 Q h cl sl pc Ls st := by
  subst hp; exact Go.lift (fun at_ hx hc q => XT.iconstV at_ hx rfl v (hb hc hd) hv q) k
theorem Go.bipush (pc' : Nat) (v : Int32) {i : Int} (hd : decode B.2.1 pc = .ok (.bipush i, 2)) (hp : pc + 2 = pc') (hv : (Int8.ofInt i).toInt32 = v) (k : Go l Z R B n0 Q h cl sl pc' Ls (.int v :: st)) : Go l Z R B n0 Q h cl sl pc Ls st := by
  subst hp; exact Go.lift (fun at_ hx hc q => XT.bipushV at_ hx rfl v (hb hc hd) hv q) k
theorem Go.sipush (pc' : Nat) (v : Int32) {i : Int} (hd : decode B.2.1 pc = .ok (.sipush i, 3)) (hp : pc + 3 = pc') (hv : (Int16.ofInt i).toInt32 = v) (k : Go l Z R B n0 Q h cl sl pc' Ls (.int v :: st)) : Go l Z R B n0 Q h cl sl pc Ls st := by
  subst hp; exact Go.lift (fun at_ hx hc q => XT.sipushV at_ hx rfl v (hb hc hd) hv q) k
theorem Go.lconst (pc' : Nat) (v : Int64) {i : Fin 2} (hd : decode B.2.1 pc = .ok (.lconst i, 1)) (hp : pc + 1 = pc') (hv : Int64.ofNat i = v) (k : Go l Z R B n0 Q h cl sl pc' Ls (.long v :: st)) : Go l Z R B n0 Q h cl sl pc Ls st := by
  subst hp; exact Go.lift (fun at_ hx hc q => XT.lconstV at_ hx rfl v (hb hc hd) hv q) k
theorem Go.dconst0 (pc' : Nat) (v : UInt64) (hd : decode B.2.1 pc = .ok (.dconst 0, 1)) (hp : pc + 1 = pc') (hv : FP.dconst0 = v) (k : Go l Z R B n0 Q h cl sl pc' Ls (.double v :: st)) : Go l Z R B n0 Q h cl sl pc Ls st := by
  subst hp; exact Go.lift (fun at_ hx hc q => XS.dconst0 at_ hx rfl (hb hc hd) hv q) k
theorem Go.dconst1 (pc' : Nat) (v : UInt64) (hd : decode B.2.1 pc = .ok (.dconst 1, 1)) (hp : pc + 1 = pc') (hv : FP.dconst1 = v) (k : Go l Z R B n0 Q h cl sl pc' Ls (.double v :: st)) : Go l Z R B n0 Q h cl sl pc Ls st := by
  subst hp; exact Go.lift (fun at_ hx hc q => XS.dconst1 at_ hx rfl (hb hc hd) hv q) k
theorem Go.aconstNull (pc' : Nat) (hd : decode B.2.1 pc = .ok (.aconst_null, 1)) (hp : pc + 1 = pc') (k : Go l Z R B n0 Q h cl sl pc' Ls (.null :: st)) : Go l Z R B n0 Q h cl sl pc Ls st := by
  subst hp; exact Go.lift (fun at_ hx hc q => XS.aconstNull at_ hx rfl (hb hc hd) q) k
/-! arithmetic; the value is named: v, by an equation -/
theorem Go.iadd (pc' : Nat) (v : Int32) {x y : Int32} (hd : decode B.2.1 pc = .ok (.iadd, 1)) (hp : pc + 1 = pc') (hv : x + y = v) (k : Go l Z R B n0 Q h cl sl pc' Ls (.int v :: st)) : Go l Z R B n0 Q h cl sl pc Ls (.int y :: .int x :: st) := by
  subst hp; subst hv; exact Go.lift (fun at_ hx hc q => XS.iadd at_ hx rfl (hb hc hd) rfl q) k
theorem Go.isub (pc' : Nat) (v : Int32) {x y : Int32} (hd : decode B.2.1 pc = .ok (.isub, 1)) (hp : pc + 1 = pc') (hv : x - y = v) (k : Go l Z R B n0 Q h cl sl pc' Ls (.int v :: st)) : Go l Z R B n0 Q h cl sl pc Ls (.int y :: .int x :: st) := by
  subst hp; subst hv; exact Go.lift (fun at_ hx hc q => XS.isub at_ hx rfl (hb hc hd) rfl q) k
theorem Go.imul (pc' : Nat) (v : Int32) {x y : Int32} (hd : decode B.2.1 pc = .ok (.imul, 1)) (hp : pc + 1 = pc') (hv : x * y = v) (k : Go l Z R B n0 Q h cl sl pc' Ls (.int v :: st)) : Go l Z R B n0 Q h cl sl pc Ls (.int y :: .int x :: st) := by
  subst hp; subst hv; exact Go.lift (fun at_ hx hc q => XS.imul at_ hx rfl (hb hc hd) rfl q) k
theorem Go.idiv (pc' : Nat) (v : Int32) {x y : Int32} (hd : decode B.2.1 pc = .ok (.idiv, 1)) (hp : pc + 1 = pc') (hy : y ≠ 0) (hv : x / y = v) (k : Go l Z R B n0 Q h cl sl pc' Ls (.int v :: st)) : Go l Z R B n0 Q h cl sl pc Ls (.int y :: .int x :: st) := by
  subst hp; subst hv; exact Go.lift (fun at_ hx hc q => XS.idiv at_ hx rfl (hb hc hd) rfl hy q) k
theorem Go.irem (pc' : Nat) (v : Int32) {x y : Int32} (hd : decode B.2.1 pc = .ok (.irem, 1)) (hp : pc + 1 = pc') (hy : y ≠ 0) (hv : x % y = v) (k : Go l Z R B n0 Q h cl sl pc' Ls (.int v :: st)) : Go l Z R B n0 Q h cl sl pc Ls (.int y :: .int x :: st) := by
  subst hp; subst hv
  have q0 : x - x / y * y = x % y := irem_eq_mod x y
  have k' : Go l Z R B n0 Q h cl sl (pc + 1) Ls (.int (x - x / y * y) :: st) := by rw [q0]; exact k
  intro p e s m args below meth c T locs X cx fr eT hn
  obtain ⟨s₂, o, h1, r⟩ := k' _ _ _ _ _ _ _ _ _ _ X cx fr eT hn
  exact ⟨s₂, o, XS.irem X.here cx.1 (g := mkF m pc Ls (.int y :: .int x :: st)) rfl (hb cx.2.2.2.1 hd) rfl hy h1, r⟩
theorem Go.iand (pc' : Nat) (v : Int32) {x y : Int32} (hd : decode B.2.1 pc = .ok (.iand, 1)) (hp : pc + 1 = pc') (hv : x &&& y = v) (k : Go l Z R B n0 Q h cl sl pc' Ls (.int v :: st)) : Go l Z R B n0 Q h cl sl pc Ls (.int y :: .int x :: st) := by
  subst hp; subst hv; exact Go.lift (fun at_ hx hc q => XS.iand at_ hx rfl (hb hc hd) rfl q) k
theorem Go.ixor (pc' : Nat) (v : Int32) {x y : Int32} (hd : decode B.2.1 pc = .ok (.ixor, 1)) (hp : pc + 1 = pc') (hv : x ^^^ y = v) (k : Go l Z R B n0 Q h cl sl pc' Ls (.int v :: st)) : Go l Z R B n0 Q h cl sl pc Ls (.int y :: .int x :: st) := by
  subst hp; subst hv; exact Go.lift (fun at_ hx hc q => XT.ixor at_ hx rfl (hb hc hd) rfl q) k
theorem Go.ishl (pc' : Nat) (v : Int32) {x y : Int32} (hd : decode B.2.1 pc = .ok (.ishl, 1)) (hp : pc + 1 = pc') (hv : x <<< (y &&& 31) = v) (k : Go l Z R B n0 Q h cl sl pc' Ls (.int v :: st)) : Go l Z R B n0 Q h cl sl pc Ls (.int y :: .int x :: st) := by
  subst hp; subst hv; exact Go.lift (fun at_ hx hc q => XT.ishl at_ hx rfl (hb hc hd) rfl q) k
theorem Go.iushr (pc' : Nat) (v : Int32) {x y : Int32} (hd : decode B.2.1 pc = .ok (.iushr, 1)) (hp : pc + 1 = pc') (hv : XT.ushr x y = v) (k : Go l Z R B n0 Q h cl sl pc' Ls (.int v :: st)) : Go l Z R B n0 Q h cl sl pc Ls (.int y :: .int x :: st) := by
  subst hp; subst hv; exact Go.lift (fun at_ hx hc q => XT.iushr at_ hx rfl (hb hc hd) rfl q) k
theorem Go.ineg (pc' : Nat) (v : Int32) {x : Int32} (hd : decode B.2.1 pc = .ok (.ineg, 1)) (hp : pc + 1 = pc') (hv : -x = v) (k : Go l Z R B n0 Q h cl sl pc' Ls (.int v :: st)) : Go l Z R B n0 Q h cl sl pc Ls (.int x :: st) := by
  subst hp; subst hv; exact Go.lift (fun at_ hx hc q => XS.ineg at_ hx rfl (hb hc hd) rfl q) k
theorem Go.ladd (pc' : Nat) (v : Int64) {x y : Int64} (hd : decode B.2.1 pc = .ok (.ladd, 1)) (hp : pc + 1 = pc') (hv : x + y = v) (k : Go l Z R B n0 Q h cl sl pc' Ls (.long v :: st)) : Go l Z R B n0 Q h cl sl pc Ls (.long y :: .long x :: st) := by
  subst hp; subst hv; exact Go.lift (fun at_ hx hc q => XT.ladd at_ hx rfl (hb hc hd) rfl q) k
theorem Go.lsub (pc' : Nat) (v : Int64) {x y : Int64} (hd : decode B.2.1 pc = .ok (.lsub, 1)) (hp : pc + 1 = pc') (hv : x - y = v) (k : Go l Z R B n0 Q h cl sl pc' Ls (.long v :: st)) : Go l Z R B n0 Q h cl sl pc Ls (.long y :: .long x :: st) := by
  subst hp; subst hv; exact Go.lift (fun at_ hx hc q => XT.lsub at_ hx rfl (hb hc hd) rfl q) k
theorem Go.lmul (pc' : Nat) (v : Int64) {x y : Int64} (hd : decode B.2.1 pc = .ok (.lmul, 1)) (hp : pc + 1 = pc') (hv : x * y = v) (k : Go l Z R B n0 Q h cl sl pc' Ls (.long v :: st)) : Go l Z R B n0 Q h cl sl pc Ls (.long y :: .long x :: st) := by
  subst hp; subst hv; exact Go.lift (fun at_ hx hc q => XT.lmul at_ hx rfl (hb hc hd) rfl q) k
theorem Go.land (pc' : Nat) (v : Int64) {x y : Int64} (hd : decode B.2.1 pc = .ok (.land, 1)) (hp : pc + 1 = pc') (hv : x &&& y = v) (k : Go l Z R B n0 Q h cl sl pc' Ls (.long v :: st)) : Go l Z R B n0 Q h cl sl pc Ls (.long y :: .long x :: st) := by
  subst hp; subst hv; exact Go.lift (fun at_ hx hc q => XT.land at_ hx rfl (hb hc hd) rfl q) k
theorem Go.lshl (pc' : Nat) (v : Int64) {x : Int64} {y : Int32} (hd : decode B.2.1 pc = .ok (.lshl, 1)) (hp : pc + 1 = pc') (hv : x <<< (y.toInt64 &&& 63) = v) (k : Go l Z R B n0 Q h cl sl pc' Ls (.long v :: st)) : Go l Z R B n0 Q h cl sl pc Ls (.int y :: .long x :: st) := by
  subst hp; subst hv; exact Go.lift (fun at_ hx hc q => XT.lshl at_ hx rfl (hb hc hd) rfl q) k
theorem Go.lshr (pc' : Nat) (v : Int64) {x : Int64} {y : Int32} (hd : decode B.2.1 pc = .ok (.lshr, 1)) (hp : pc + 1 = pc') (hv : x >>> (y.toInt64 &&& 63) = v) (k : Go l Z R B n0 Q h cl sl pc' Ls (.long v :: st)) : Go l Z R B n0 Q h cl sl pc Ls (.int y :: .long x :: st) := by
  subst hp; subst hv; exact Go.lift (fun at_ hx hc q => XT.lshr at_ hx rfl (hb hc hd) rfl q) k
theorem Go.lushr (pc' : Nat) (v : Int64) {x : Int64} {y : Int32} (hd : decode B.2.1 pc = .ok (.lushr, 1)) (hp : pc + 1 = pc') (hv : XT.ushrL x y = v) (k : Go l Z R B n0 Q h cl sl pc' Ls (.long v :: st)) : Go l Z R B n0 Q h cl sl pc Ls (.int y :: .long x :: st) := by
  subst hp; subst hv; exact Go.lift (fun at_ hx hc q => XT.lushr at_ hx rfl (hb hc hd) rfl q) k
theorem Go.i2l (pc' : Nat) (v : Int64) {x : Int32} (hd : decode B.2.1 pc = .ok (.i2l, 1)) (hp : pc + 1 = pc') (hv : x.toInt64 = v) (k : Go l Z R B n0 Q h cl sl pc' Ls (.long v :: st)) : Go l Z R B n0 Q h cl sl pc Ls (.int x :: st) := by
  subst hp; subst hv; exact Go.lift (fun at_ hx hc q => XT.i2l at_ hx rfl (hb hc hd) rfl q) k
theorem Go.l2i (pc' : Nat) (v : Int32) {x : Int64} (hd : decode B.2.1 pc = .ok (.l2i, 1)) (hp : pc + 1 = pc') (hv : x.toInt32 = v) (k : Go l Z R B n0 Q h cl sl pc' Ls (.int v :: st)) : Go l Z R B n0 Q h cl sl pc Ls (.long x :: st) := by
  subst hp; subst hv; exact Go.lift (fun at_ hx hc q => XT.l2i at_ hx rfl (hb hc hd) rfl q) k
theorem Go.i2s (pc' : Nat) (v : Int32) {x : Int32} (hd : decode B.2.1 pc = .ok (.i2s, 1)) (hp : pc + 1 = pc') (hv : x.toInt16.toInt32 = v) (k : Go l Z R B n0 Q h cl sl pc' Ls (.int v :: st)) : Go l Z R B n0 Q h cl sl pc Ls (.int x :: st) := by
  subst hp; subst hv; exact Go.lift (fun at_ hx hc q => XT.i2s at_ hx rfl (hb hc hd) rfl q) k
theorem Go.i2d (pc' : Nat) (v : UInt64) {x : Int32} (hd : decode B.2.1 pc = .ok (.i2d, 1)) (hp : pc + 1 = pc') (hv : FP.i2d x = v) (k : Go l Z R B n0 Q h cl sl pc' Ls (.double v :: st)) : Go l Z R B n0 Q h cl sl pc Ls (.int x :: st) := by
  subst hp; exact Go.lift (fun at_ hx hc q => XS.i2dS at_ hx rfl (hb hc hd) rfl hv q) k
theorem Go.l2d (pc' : Nat) (v : UInt64) {x : Int64} (hd : decode B.2.1 pc = .ok (.l2d, 1)) (hp : pc + 1 = pc') (hv : FP.l2d x = v) (k : Go l Z R B n0 Q h cl sl pc' Ls (.double v :: st)) : Go l Z R B n0 Q h cl sl pc Ls (.long x :: st) := by
  subst hp; exact Go.lift (fun at_ hx hc q => XS.l2dS at_ hx rfl (hb hc hd) rfl hv q) k
theorem Go.d2l (pc' : Nat) (v : Int64) {x : UInt64} (hd : decode B.2.1 pc = .ok (.d2l, 1)) (hp : pc + 1 = pc') (hv : FP.d2l x = v) (k : Go l Z R B n0 Q h cl sl pc' Ls (.long v :: st)) : Go l Z R B n0 Q h cl sl pc Ls (.double x :: st) := by
  subst hp; exact Go.lift (fun at_ hx hc q => XS.d2lS at_ hx rfl (hb hc hd) rfl hv q) k
theorem Go.dadd (pc' : Nat) (v : UInt64) {x y : UInt64} (hd : decode B.2.1 pc = .ok (.dadd, 1)) (hp : pc + 1 = pc') (hv : FP.dadd x y = v) (hn : Jvm.Free.Fl.NoNaN64 v) (k : Go l Z R B n0 Q h cl sl pc' Ls (.double v :: st)) : Go l Z R B n0 Q h cl sl pc Ls (.double y :: .double x :: st) := by
  subst hp; exact Go.lift (fun at_ hx hc q => XS.daddS at_ hx rfl (hb hc hd) rfl (hv ▸ hn) hv q) k
theorem Go.dsub (pc' : Nat) (v : UInt64) {x y : UInt64} (hd : decode B.2.1 pc = .ok (.dsub, 1)) (hp : pc + 1 = pc') (hv : FP.dsub x y = v) (hn : Jvm.Free.Fl.NoNaN64 v) (k : Go l Z R B n0 Q h cl sl pc' Ls (.double v :: st)) : Go l Z R B n0 Q h cl sl pc Ls (.double y :: .double x :: st) := by
  subst hp; exact Go.lift (fun at_ hx hc q => XS.dsubS at_ hx rfl (hb hc hd) rfl (hv ▸ hn) hv q) k
theorem Go.dmul (pc' : Nat) (v : UInt64) {x y : UInt64} (hd : decode B.2.1 pc = .ok (.dmul, 1)) (hp : pc + 1 = pc') (hv : FP.dmul x y = v) (hn : Jvm.Free.Fl.NoNaN64 v) (k : Go l Z R B n0 Q h cl sl pc' Ls (.double v :: st)) : Go l Z R B n0 Q h cl sl pc Ls (.double y :: .double x :: st) := by
  subst hp; exact Go.lift (fun at_ hx hc q => XS.dmulS at_ hx rfl (hb hc hd) rfl (hv ▸ hn) hv q) k
theorem Go.ddiv (pc' : Nat) (v : UInt64) {x y : UInt64} (hd : decode B.2.1 pc = .ok (.ddiv, 1)) (hp : pc + 1 = pc') (hv : FP.ddiv x y = v) (hn : Jvm.Free.Fl.NoNaN64 v) (k : Go l Z R B n0 Q h cl sl pc' Ls (.double v :: st)) : Go l Z R B n0 Q h cl sl pc Ls (.double y :: .double x :: st) := by
  subst hp; exact Go.lift (fun at_ hx hc q => XS.ddivS at_ hx rfl (hb hc hd) rfl (hv ▸ hn) hv q) k
theorem Go.dcmp (pc' : Nat) (v : Int32) {o : CmpOp} {x y : UInt64} (hd : decode B.2.1 pc = .ok (.dcmp o, 1)) (hp : pc + 1 = pc') (hv : cmpValue (FP.dcmp x y) o = v) (k : Go l Z R B n0 Q h cl sl pc' Ls (.int v :: st)) : Go l Z R B n0 Q h cl sl pc Ls (.double y :: .double x :: st) := by
  subst hp; exact Go.lift (fun at_ hx hc q => XS.dcmpS at_ hx rfl (hb hc hd) rfl hv q) k
theorem Go.lcmp (pc' : Nat) (v : Int32) {x y : Int64} (hd : decode B.2.1 pc = .ok (.lcmp, 1)) (hp : pc + 1 = pc') (hv : XT.cmpL x y = v) (k : Go l Z R B n0 Q h cl sl pc' Ls (.int v :: st)) : Go l Z R B n0 Q h cl sl pc Ls (.long y :: .long x :: st) := by
  subst hp; subst hv; exact Go.lift (fun at_ hx hc q => XT.lcmp at_ hx rfl (hb hc hd) rfl q) k
theorem Go.dup (pc' : Nat) {x : Value} (hd : decode B.2.1 pc = .ok (.dup, 1)) (hp : pc + 1 = pc') (hc1 : x.category = 1) (k : Go l Z R B n0 Q h cl sl pc' Ls (x :: x :: st)) : Go l Z R B n0 Q h cl sl pc Ls (x :: st) := by
  subst hp; exact Go.lift (fun at_ hx hc q => XS.dup at_ hx rfl (hb hc hd) rfl hc1 q) k
theorem Go.pop (pc' : Nat) {x : Value} (hd : decode B.2.1 pc = .ok (.pop, 1)) (hp : pc + 1 = pc') (hc1 : x.category = 1) (k : Go l Z R B n0 Q h cl sl pc' Ls st) : Go l Z R B n0 Q h cl sl pc Ls (x :: st) := by
  subst hp; exact Go.lift (fun at_ hx hc q => XT.pop at_ hx rfl (hb hc hd) rfl hc1 q) k
theorem Go.dupX1 (pc' : Nat) {x y : Value} (hd : decode B.2.1 pc = .ok (.dup_x1, 1)) (hp : pc + 1 = pc') (hc1 : x.category = 1) (hc2 : y.category = 1) (k : Go l Z R B n0 Q h cl sl pc' Ls (x :: y :: x :: st)) : Go l Z R B n0 Q h cl sl pc Ls (x :: y :: st) := by
  subst hp; exact Go.lift (fun at_ hx hc q => XT.dupX1 at_ hx rfl (hb hc hd) rfl hc1 hc2 q) k
theorem Go.dup2 (pc' : Nat) {x y : Value} (hd : decode B.2.1 pc = .ok (.dup2, 1)) (hp : pc + 1 = pc') (hc1 : x.category = 1) (hc2 : y.category = 1) (k : Go l Z R B n0 Q h cl sl pc' Ls (x :: y :: x :: y :: st)) : Go l Z R B n0 Q h cl sl pc Ls (x :: y :: st) := by
  subst hp; exact Go.lift (fun at_ hx hc q => XT.dup2 at_ hx rfl (hb hc hd) rfl hc1 hc2 q) k
/-! jumps: both roads -/
theorem Go.goto (pc' : Nat) {o : Int} (hd : decode B.2.1 pc = .ok (.goto o, 3)) (ho : 0 ≤ (pc : Int) + o) (hp : ((pc : Int) + o).toNat = pc') (k : Go l Z R B n0 Q h cl sl pc' Ls st) : Go l Z R B n0 Q h cl sl pc Ls st :=
  Go.lift (fun at_ hx hc q => XS.goto at_ hx rfl (pc0 := pc) (pc' := pc') rfl (hb hc hd) ho hp q) k
theorem Go.ifC (pc' pc'' : Nat) {cd : ClassFile.Cond} {x : Int32} {o : Int} (hd : decode B.2.1 pc = .ok (.ifCond cd o, 3)) (ho : 0 ≤ (pc : Int) + o) (hp : ((pc : Int) + o).toNat = pc') (hp2 : pc + 3 = pc'')
    (k1 : ifCond.holds cd x = true → Go l Z R B n0 Q h cl sl pc' Ls st) (k2 : ifCond.holds cd x = false → Go l Z R B n0 Q h cl sl pc'' Ls st) : Go l Z R B n0 Q h cl sl pc Ls (.int x :: st) := by
  subst hp2
  cases hh : ifCond.holds cd x with
  | true => exact Go.lift (fun at_ hx hc q => XS.ifYes at_ hx rfl (pc0 := pc) (pc' := pc') rfl (hb hc hd) rfl hh ho hp q) (k1 hh)
  | false => exact Go.lift (fun at_ hx hc q => XS.ifNo at_ hx rfl (hb hc hd) rfl hh q) (k2 hh)
theorem Go.icmp (pc' pc'' : Nat) {cd : ClassFile.Cond} {x y : Int32} {o : Int} (hd : decode B.2.1 pc = .ok (.if_icmp cd o, 3)) (ho : 0 ≤ (pc : Int) + o) (hp : ((pc : Int) + o).toNat = pc') (hp2 : pc + 3 = pc'')
    (k1 : if_icmp.holds cd x y = true → Go l Z R B n0 Q h cl sl pc' Ls st) (k2 : if_icmp.holds cd x y = false → Go l Z R B n0 Q h cl sl pc'' Ls st) : Go l Z R B n0 Q h cl sl pc Ls (.int y :: .int x :: st) := by
  subst hp2
  cases hh : if_icmp.holds cd x y with
  | true => exact Go.lift (fun at_ hx hc q => XS.icmpYes at_ hx rfl (pc0 := pc) (pc' := pc') rfl (hb hc hd) rfl hh ho hp q) (k1 hh)
  | false => exact Go.lift (fun at_ hx hc q => XS.icmpNo at_ hx rfl (hb hc hd) rfl hh q) (k2 hh)
theorem Go.acmp (pc' pc'' : Nat) {cd : ClassFile.ACond} {x y : Value} {o : Int} (hd : decode B.2.1 pc = .ok (.if_acmp cd o, 3)) (ho : 0 ≤ (pc : Int) + o) (hp : ((pc : Int) + o).toNat = pc') (hp2 : pc + 3 = pc'') (hx1 : x.isRef = true) (hy1 : y.isRef = true)
    (k1 : XT.acmp cd x y = true → Go l Z R B n0 Q h cl sl pc' Ls st) (k2 : XT.acmp cd x y = false → Go l Z R B n0 Q h cl sl pc'' Ls st) : Go l Z R B n0 Q h cl sl pc Ls (y :: x :: st) := by
  subst hp2
  cases hh : XT.acmp cd x y with
  | true => exact Go.lift (fun at_ hx hc q => XT.acmpYes at_ hx rfl (pc0 := pc) (pc' := pc') rfl (hb hc hd) rfl hx1 hy1 hh ho hp q) (k1 hh)
  | false => exact Go.lift (fun at_ hx hc q => XT.acmpNo at_ hx rfl (hb hc hd) rfl hx1 hy1 hh q) (k2 hh)
/-! branches, said of whole numbers -/
def cmpP (cd : ClassFile.Cond) (x y : Int) : Prop := match cd with
  | .eq => x = y | .ne => x ≠ y | .lt => x < y | .ge => y ≤ x | .gt => y < x | .le => x ≤ y
def cmpN (cd : ClassFile.Cond) (x y : Int) : Prop := match cd with
  | .eq => x ≠ y | .ne => x = y | .lt => y ≤ x | .ge => x < y | .gt => x ≤ y | .le => y < x
theorem holds_t (cd : ClassFile.Cond) (x y : Int32) : if_icmp.holds cd x y = true ↔ cmpP cd x.toInt y.toInt := by
  cases cd <;> simp [if_icmp.holds, cmpP, Int32.lt_iff_toInt_lt, Int32.le_iff_toInt_le, ← Int32.toInt_inj]
theorem holds_f (cd : ClassFile.Cond) (x y : Int32) : if_icmp.holds cd x y = false ↔ cmpN cd x.toInt y.toInt := by
  cases cd <;> simp [if_icmp.holds, cmpN, Int32.lt_iff_toInt_lt, Int32.le_iff_toInt_le, ← Int32.toInt_inj]
theorem holds0_t (cd : ClassFile.Cond) (x : Int32) : ifCond.holds cd x = true ↔ cmpP cd x.toInt 0 := by rw [if0, holds_t]; exact Iff.rfl
theorem holds0_f (cd : ClassFile.Cond) (x : Int32) : ifCond.holds cd x = false ↔ cmpN cd x.toInt 0 := by rw [if0, holds_f]; exact Iff.rfl
theorem Go.icmpB (pc' pc'' : Nat) {cd : ClassFile.Cond} {x y : Int32} {o : Int} (hd : decode B.2.1 pc = .ok (.if_icmp cd o, 3)) (ho : 0 ≤ (pc : Int) + o) (hp : ((pc : Int) + o).toNat = pc') (hp2 : pc + 3 = pc'')
    (k1 : cmpP cd x.toInt y.toInt → Go l Z R B n0 Q h cl sl pc' Ls st) (k2 : cmpN cd x.toInt y.toInt → Go l Z R B n0 Q h cl sl pc'' Ls st) : Go l Z R B n0 Q h cl sl pc Ls (.int y :: .int x :: st) :=
  Go.icmp pc' pc'' hd ho hp hp2 (fun q => k1 ((holds_t _ _ _).mp q)) (fun q => k2 ((holds_f _ _ _).mp q))
theorem Go.icmpT (pc' : Nat) {cd : ClassFile.Cond} {x y : Int32} {o : Int} (hd : decode B.2.1 pc = .ok (.if_icmp cd o, 3)) (ho : 0 ≤ (pc : Int) + o) (hp : ((pc : Int) + o).toNat = pc')
    (q : cmpP cd x.toInt y.toInt) (k1 : Go l Z R B n0 Q h cl sl pc' Ls st) : Go l Z R B n0 Q h cl sl pc Ls (.int y :: .int x :: st) :=
  Go.icmp pc' (pc + 3) hd ho hp rfl (fun _ => k1) (fun r => by rw [(holds_t _ _ _).mpr q] at r; cases r)
theorem Go.icmpF (pc'' : Nat) {cd : ClassFile.Cond} {x y : Int32} {o : Int} (hd : decode B.2.1 pc = .ok (.if_icmp cd o, 3)) (hp2 : pc + 3 = pc'')
    (q : cmpN cd x.toInt y.toInt) (k2 : Go l Z R B n0 Q h cl sl pc'' Ls st) : Go l Z R B n0 Q h cl sl pc Ls (.int y :: .int x :: st) := by
  subst hp2; exact Go.lift (fun at_ hx hc q0 => XS.icmpNo at_ hx rfl (hb hc hd) rfl ((holds_f _ _ _).mpr q) q0) k2
theorem Go.ifCB (pc' pc'' : Nat) {cd : ClassFile.Cond} {x : Int32} {o : Int} (hd : decode B.2.1 pc = .ok (.ifCond cd o, 3)) (ho : 0 ≤ (pc : Int) + o) (hp : ((pc : Int) + o).toNat = pc') (hp2 : pc + 3 = pc'')
    (k1 : cmpP cd x.toInt 0 → Go l Z R B n0 Q h cl sl pc' Ls st) (k2 : cmpN cd x.toInt 0 → Go l Z R B n0 Q h cl sl pc'' Ls st) : Go l Z R B n0 Q h cl sl pc Ls (.int x :: st) :=
  Go.ifC pc' pc'' hd ho hp hp2 (fun q => k1 ((holds0_t _ _).mp q)) (fun q => k2 ((holds0_f _ _).mp q))
theorem Go.ifCT (pc' : Nat) {cd : ClassFile.Cond} {x : Int32} {o : Int} (hd : decode B.2.1 pc = .ok (.ifCond cd o, 3)) (ho : 0 ≤ (pc : Int) + o) (hp : ((pc : Int) + o).toNat = pc')
    (q : cmpP cd x.toInt 0) (k1 : Go l Z R B n0 Q h cl sl pc' Ls st) : Go l Z R B n0 Q h cl sl pc Ls (.int x :: st) :=
  Go.ifC pc' (pc + 3) hd ho hp rfl (fun _ => k1) (fun r => by rw [(holds0_t _ _).mpr q] at r; cases r)
theorem Go.ifCF (pc'' : Nat) {cd : ClassFile.Cond} {x : Int32} {o : Int} (hd : decode B.2.1 pc = .ok (.ifCond cd o, 3)) (hp2 : pc + 3 = pc'')
    (q : cmpN cd x.toInt 0) (k2 : Go l Z R B n0 Q h cl sl pc'' Ls st) : Go l Z R B n0 Q h cl sl pc Ls (.int x :: st) := by
  subst hp2; exact Go.lift (fun at_ hx hc q0 => XS.ifNo at_ hx rfl (hb hc hd) rfl ((holds0_f _ _).mpr q) q0) k2
/-! ### constants of the pool -/
theorem Go.ldc2J (pc' : Nat) (v : Int64) {index : Nat} (w : (Cond.constantLong B.1.cls index v).before a0 Z = true) (hd : decode B.2.1 pc = .ok (.ldc2_w index, 3)) (hp : pc + 3 = pc') (k : Go l Z R B n0 Q h cl sl pc' Ls (.long v :: st)) : Go l Z R B n0 Q h cl sl pc Ls st := by
  subst hp
  intro p e s m args below meth c T locs X cx fr eT hn
  obtain ⟨s₂, o, h1, r⟩ := k _ _ _ _ _ _ _ _ _ _ X cx fr eT hn
  exact ⟨s₂, o, X.ldc2J cx.1 cx.2.2.1 (mv cx.2.1 w) rfl (hb cx.2.2.2.1 hd) h1, r⟩
theorem Go.ldc2D (pc' : Nat) (v : UInt64) {index : Nat} (w : (Cond.constantDouble B.1.cls index v).before a0 Z = true) (hd : decode B.2.1 pc = .ok (.ldc2_w index, 3)) (hp : pc + 3 = pc') (k : Go l Z R B n0 Q h cl sl pc' Ls (.double v :: st)) : Go l Z R B n0 Q h cl sl pc Ls st := by
  subst hp
  intro p e s m args below meth c T locs X cx fr eT hn
  obtain ⟨s₂, o, h1, r⟩ := k _ _ _ _ _ _ _ _ _ _ X cx fr eT hn
  exact ⟨s₂, o, X.ldc2DoubleC cx.1 cx.2.2.1 (mv cx.2.1 w) (g := mkF m pc Ls st) rfl (hb cx.2.2.2.1 hd) _ h1, r⟩
theorem Go.ldcI (pc' : Nat) (v : Int32) {index : Nat} (w : (Cond.constant B.1.cls index v).before a0 Z = true) (hd : decode B.2.1 pc = .ok (.ldc index, 2)) (hp : pc + 2 = pc') (k : Go l Z R B n0 Q h cl sl pc' Ls (.int v :: st)) : Go l Z R B n0 Q h cl sl pc Ls st := by
  subst hp
  intro p e s m args below meth c T locs X cx fr eT hn
  obtain ⟨s₂, o, h1, r⟩ := k _ _ _ _ _ _ _ _ _ _ X cx fr eT hn
  exact ⟨s₂, o, X.ldcI cx.1 cx.2.2.1 (mv cx.2.1 w) rfl (hb cx.2.2.2.1 hd) h1, r⟩
/-! ### fields -/
theorem Go.getF (pc' : Nat) {R0 O n d host : String} {index : Nat} {a : Nat} {v : Value} (w : (Cond.fieldLink B.1.cls index R0 n d).before a0 Z = true ∨ (Cond.fieldLinkNest B.1.cls index R0 n d host).before a0 Z = true) (via : Via Z R0 O n d) (F : Fld Z h a O n d v) (hd : decode B.2.1 pc = .ok (.getfield index, 3)) (hp : pc + 3 = pc')
    (k : Go l Z R B n0 Q h cl sl pc' Ls (v :: st)) : Go l Z R B n0 Q h cl sl pc Ls (.ref a :: st) := by
  subst hp
  intro p e s m args below meth c T locs X cx fr eT hn
  obtain ⟨T', X', e', stp⟩ := RoadKit.getF X cx.1 cx.2.1 cx.2.2.1 w via eT F (g := mkF m pc Ls (.ref a :: st)) rfl rfl (hb cx.2.2.2.1 hd)
  obtain ⟨s₂, o, h1, r⟩ := k _ _ _ _ _ _ _ _ _ _ X' cx fr e' hn
  exact ⟨s₂, o, stp _ h1, r⟩
/-- getfield of a field that the class itself declares, by its plain link word -/
theorem Go.getf (pc' : Nat) {O n d : String} {index : Nat} {a : Nat} {v : Value} (w : (Cond.fieldLink B.1.cls index O n d).before a0 Z = true) (F : Fld Z h a O n d v) (hd : decode B.2.1 pc = .ok (.getfield index, 3)) (hp : pc + 3 = pc')
    (k : Go l Z R B n0 Q h cl sl pc' Ls (v :: st)) : Go l Z R B n0 Q h cl sl pc Ls (.ref a :: st) := Go.getF pc' (host := "") (Or.inl w) Via.refl F hd hp k
theorem Go.putF (pc' : Nat) {O n d C : String} {index kk : Nat} {ty : FieldType} {a : Nat} {v old : Value} (w : (Cond.fieldLink B.1.cls index O n d).before a0 Z = true) (F : Fld Z h a O n d old) (E : Exa Z h a C)
    (L : (Cond.lays C O n d).before a0 Z = true ∨ ((Cond.laysFinal C O n d).before a0 Z = true ∧ B.1.cls = O ∧ B.1.name = "<init>")) (wi : (Cond.instantiable C kk).before a0 Z = true)
    (hty : parseFieldDescriptor d = some ty) (hn : narrow ty v = v) (hf : fits ty v = true) (ha : n0 ≤ a) (hd : decode B.2.1 pc = .ok (.putfield index, 3)) (hp : pc + 3 = pc')
    (k : ∀ h', Wr h h' a (Jvm.RoadKit.slotOf Z O n d) v → Go l Z R B n0 Q h' cl sl pc' Ls st) : Go l Z R B n0 Q h cl sl pc Ls (v :: .ref a :: st) := by
  subst hp
  intro p e s m args below meth c T locs X cx fr eT hn'
  obtain ⟨T', h', X', e', W, stp⟩ := RoadKit.putF X cx.1 cx.2.1 (host := "") cx.2.2.1 (Or.inl w) Via.refl eT F E (L.imp id fun q => ⟨q.1, q.2.1, cx.2.2.2.2.2.2.2.1.trans q.2.2⟩) wi hty hn hf (g := mkF m pc Ls (v :: .ref a :: st)) rfl rfl (hb cx.2.2.2.1 hd)
  obtain ⟨s₂, o, h1, r⟩ := k h' W _ _ _ _ _ _ _ _ _ _ X' cx (Fr.snoc X' fr ha) e' (by rw [W.size]; exact hn')
  exact ⟨s₂, o, stp _ h1, r⟩
/-! ### objects -/
theorem Go.new (pc' : Nat) {C : String} {index n : Nat} (w : (Cond.classLink B.1.cls index C).before a0 Z = true) (wi : (Cond.instantiable C n).before a0 Z = true) (wz : (Cond.initialized C).before a0 Z = true) (hd : decode B.2.1 pc = .ok (.new index, 3)) (hp : pc + 3 = pc') (hc : cl + 1 ≤ R.cells) (hl : sl + n ≤ R.slots)
    (k : ∀ h' a, Ext h h' → h.size ≤ a → a < h'.size → n0 ≤ a → Exa Z h' a C → (∀ {O nm d : String} {ty : FieldType}, Laid Z a0 C O nm d → parseFieldDescriptor d = some ty → Fld Z h' a O nm d (defaultValue ty)) → Go l Z R B n0 Q h' (cl + 1) (sl + n) pc' Ls (.ref a :: st)) : Go l Z R B n0 Q h cl sl pc Ls st := by
  subst hp
  intro p e s m args below meth c T locs X cx fr eT hn
  obtain ⟨T', h', X', e', E, A, D, -, stp⟩ := newO X cx.1 cx.2.1 cx.2.2.1 w wi wz eT (g := mkF m pc Ls st) rfl (hb cx.2.2.2.1 hd) hc hl
  obtain ⟨s₂, o, h1, r⟩ := k h' h.size E (Nat.le_refl _) A.lt hn A D _ _ _ _ _ _ _ _ _ _ X' cx fr e' (Nat.le_trans hn E.1)
  exact ⟨s₂, o, stp _ h1, r⟩
/-- Object.<init> -/
theorem Go.initO (pc' : Nat) {index : Nat} {a : Nat} (w1 : (Cond.methodLink B.1.cls index Lib.objectInit).before a0 Z = true) (w2 : (Cond.instanceMethod Lib.objectInit).before a0 Z = true) (w3 : (Cond.code Lib.objectInit ⟨#[0xb1]⟩ 1 none).before a0 Z = true)
    (hsz : Ls.size = B.2.2.1) (hd : decode B.2.1 pc = .ok (.invokespecial index, 3)) (hp : pc + 3 = pc') (hfr : 1 ≤ R.frames) (hlo : (st.map fun v => v.category).sum + 12 ≤ R.locals) (k : Go l Z R B n0 Q h cl sl pc' Ls st) : Go l Z R B n0 Q h cl sl pc Ls (.ref a :: st) := by
  subst hp
  intro p e s m args below meth c T locs X cx fr eT hn
  obtain ⟨T', X', e', stp⟩ := RoadKit.initO X cx.1 cx.2.1 cx.2.2.1 w1 w2 w3 eT (g := mkF m pc Ls (.ref a :: st)) rfl (hsz.trans cx.2.2.2.2.1.symm) rfl (hb cx.2.2.2.1 hd) hfr (W := (st.map fun v => v.category).sum) (by show 2 * 0 + _ ≤ _; omega) hlo
  obtain ⟨s₂, o, h1, r⟩ := k _ _ _ _ _ _ _ _ _ _ X' cx fr e' hn
  exact ⟨s₂, o, stp _ h1, r⟩
/-! ### arrays -/
/-- the array at a holds just these values -/
def ArV (Z : State) (h : Heap) (a : Nat) (ty : FieldType) (vs : List Value) : Prop := ∃ c : Cell, Arr Z h a c ty ∧ c.slots.toList = vs ∧ vs.length < 2147483648
abbrev ArD (Z : State) (h : Heap) (a : Nat) (ds : List UInt64) : Prop := ArV Z h a .double (ds.map Value.double)
abbrev ArI (Z : State) (h : Heap) (a : Nat) (ds : List Int32) : Prop := ArV Z h a .int (ds.map Value.int)
abbrev ArJ (Z : State) (h : Heap) (a : Nat) (ds : List Int64) : Prop := ArV Z h a .long (ds.map Value.long)
theorem ArV.lt {a : Nat} {ty : FieldType} {vs : List Value} (A : ArV Z h a ty vs) : a < h.size := by obtain ⟨c, A, -⟩ := A; exact A.lt
theorem ArV.len {a : Nat} {ty : FieldType} {vs : List Value} (A : ArV Z h a ty vs) : vs.length < 2147483648 := by obtain ⟨c, -, -, q⟩ := A; exact q
theorem ArV.ext {h' : Heap} {a : Nat} {ty : FieldType} {vs : List Value} (A : ArV Z h a ty vs) (E : Ext h h') : ArV Z h' a ty vs := by obtain ⟨c, A, q⟩ := A; exact ⟨c, A.ext E, q⟩
theorem ArV.other {h' : Heap} {a b : Nat} {sl : Nat} {v : Value} {ty : FieldType} {vs : List Value} (A : ArV Z h b ty vs) (W : Wr h h' a sl v) (q : b ≠ a) : ArV Z h' b ty vs := by obtain ⟨c, A, r⟩ := A; exact ⟨c, A.other W q, r⟩
theorem ArV.keep {h' : Heap} {a : Nat} {ws : List Nat} {ty : FieldType} {vs : List Value} (A : ArV Z h a ty vs) (K : Keep h h' ws) (q : a ∉ ws) : ArV Z h' a ty vs := by obtain ⟨c, A, r⟩ := A; exact ⟨c, ⟨K.2.1 a c A.1 q, A.2⟩, r⟩
theorem idx_ok {j : Int32} {i n : Nat} (hj : j.toInt = (i : Int)) (hi : i < n) : ¬ (j < 0 ∨ n ≤ j.toNatClampNeg) ∧ j.toNatClampNeg = i := by
  have h1 : j.toNatClampNeg = i := by simp only [Int32.toNatClampNeg]; omega
  refine ⟨fun q => ?_, h1⟩
  rcases q with q | q
  · simp only [Int32.lt_iff_toInt_lt, Int32.reduceToInt] at q; omega
  · omega
theorem ArV.get {a : Nat} {ty : FieldType} {vs : List Value} {j : Int32} {i : Nat} {v : Value} (A : ArV Z h a ty vs) (hj : j.toInt = (i : Int)) (hi : vs[i]? = some v) : ∃ c : Cell, Arr Z h a c ty ∧ ¬ (j < 0 ∨ c.slots.size ≤ j.toNatClampNeg) ∧ c.slots[j.toNatClampNeg]? = some v := by
  obtain ⟨c, A, e, -⟩ := A
  have hlt : i < c.slots.size := by
    have := (List.getElem?_eq_some_iff.mp hi).1
    rw [← e] at this; simpa using this
  obtain ⟨q1, q2⟩ := idx_ok hj hlt
  refine ⟨c, A, q1, ?_⟩
  rw [q2, ← hi, ← e, Array.getElem?_toList]
theorem ArV.upd {h' : Heap} {a : Nat} {ty : FieldType} {vs : List Value} {j : Int32} {i : Nat} {v : Value} (A : ArV Z h a ty vs) (hj : j.toInt = (i : Int)) (hi : i < vs.length) (W : Wr h h' a j.toNatClampNeg v) : ArV Z h' a ty (vs.set i v) := by
  obtain ⟨c, A, e, hlen⟩ := A
  have hlt : i < c.slots.size := by rw [← e] at hi; simpa using hi
  obtain ⟨q1, q2⟩ := idx_ok hj hlt
  refine ⟨_, A.same W, ?_, by simpa using hlen⟩
  rw [q2, ← e]
  simp [Cell.setSlot, Array.toList_setIfInBounds]
theorem Wr.keep1 {h' : Heap} {a : Nat} {sl : Nat} {v : Value} (W : Wr h h' a sl v) : Keep h h' [a] := Keep.of_wr W
theorem Go.daload (pc' : Nat) {a : Nat} {ds : List UInt64} {j : Int32} {i : Nat} {x : UInt64} (A : ArD Z h a ds) (hj : j.toInt = (i : Int)) (hi : ds[i]? = some x) (hd : decode B.2.1 pc = .ok (.daload, 1)) (hp : pc + 1 = pc')
    (k : Go l Z R B n0 Q h cl sl pc' Ls (.double x :: st)) : Go l Z R B n0 Q h cl sl pc Ls (.int j :: .ref a :: st) := by
  subst hp
  intro p e s m args below meth c T locs X cx fr eT hn
  obtain ⟨s₂, o, h1, r⟩ := k _ _ _ _ _ _ _ _ _ _ X cx fr eT hn
  obtain ⟨c0, A0, q1, q2⟩ := A.get hj (v := .double x) (by rw [List.getElem?_map, hi]; rfl)
  exact ⟨s₂, o, X.daload cx.1 (by rw [eT]; exact A0.1) (State.isArrayOf_alike cx.2.1.alike A0.2.1) A0.2.2 q1 q2 (g := mkF m pc Ls (.int j :: .ref a :: st)) rfl rfl (hb cx.2.2.2.1 hd) _ h1, r⟩
theorem Go.iaload (pc' : Nat) {a : Nat} {ds : List Int32} {j : Int32} {i : Nat} {x : Int32} (A : ArI Z h a ds) (hj : j.toInt = (i : Int)) (hi : ds[i]? = some x) (hd : decode B.2.1 pc = .ok (.iaload, 1)) (hp : pc + 1 = pc')
    (k : Go l Z R B n0 Q h cl sl pc' Ls (.int x :: st)) : Go l Z R B n0 Q h cl sl pc Ls (.int j :: .ref a :: st) := by
  subst hp
  intro p e s m args below meth c T locs X cx fr eT hn
  obtain ⟨s₂, o, h1, r⟩ := k _ _ _ _ _ _ _ _ _ _ X cx fr eT hn
  obtain ⟨c0, A0, q1, q2⟩ := A.get hj (v := .int x) (by rw [List.getElem?_map, hi]; rfl)
  exact ⟨s₂, o, X.iaload cx.1 (by rw [eT]; exact A0.1) (State.isArrayOf_alike cx.2.1.alike A0.2.1) A0.2.2 q1 q2 (g := mkF m pc Ls (.int j :: .ref a :: st)) rfl rfl (hb cx.2.2.2.1 hd) _ h1, r⟩
theorem Go.laload (pc' : Nat) {a : Nat} {ds : List Int64} {j : Int32} {i : Nat} {x : Int64} (A : ArJ Z h a ds) (hj : j.toInt = (i : Int)) (hi : ds[i]? = some x) (hd : decode B.2.1 pc = .ok (.laload, 1)) (hp : pc + 1 = pc')
    (k : Go l Z R B n0 Q h cl sl pc' Ls (.long x :: st)) : Go l Z R B n0 Q h cl sl pc Ls (.int j :: .ref a :: st) := by
  subst hp
  intro p e s m args below meth c T locs X cx fr eT hn
  obtain ⟨s₂, o, h1, r⟩ := k _ _ _ _ _ _ _ _ _ _ X cx fr eT hn
  obtain ⟨c0, A0, q1, q2⟩ := A.get hj (v := .long x) (by rw [List.getElem?_map, hi]; rfl)
  exact ⟨s₂, o, X.laload cx.1 (by rw [eT]; exact A0.1) (State.isArrayOf_alike cx.2.1.alike A0.2.1) A0.2.2 q1 q2 (g := mkF m pc Ls (.int j :: .ref a :: st)) rfl rfl (hb cx.2.2.2.1 hd) _ h1, r⟩
theorem Go.alen (pc' : Nat) (v : Int32) {a : Nat} {ty : FieldType} {vs : List Value} (A : ArV Z h a ty vs) (hv : v.toInt = (vs.length : Int)) (hd : decode B.2.1 pc = .ok (.arraylength, 1)) (hp : pc + 1 = pc')
    (k : Go l Z R B n0 Q h cl sl pc' Ls (.int v :: st)) : Go l Z R B n0 Q h cl sl pc Ls (.ref a :: st) := by
  subst hp
  intro p e s m args below meth c T locs X cx fr eT hn
  obtain ⟨s₂, o, h1, r⟩ := k _ _ _ _ _ _ _ _ _ _ X cx fr eT hn
  obtain ⟨c0, A0, q1, q2⟩ := A
  have hsz : c0.slots.size = vs.length := by rw [← q1]; simp
  have hv' : c0.slots.size.toInt32 = v := by
    apply Int32.toInt_inj.mp
    rw [len_toInt (by omega), hv, hsz]
  exact ⟨s₂, o, X.arraylength cx.1 (by rw [eT]; exact A0.1) (State.isArrayOf_alike cx.2.1.alike A0.2.1) (g := mkF m pc Ls (.ref a :: st)) rfl rfl (hb cx.2.2.2.1 hd) _ (by rw [hv']; exact h1), r⟩
theorem Go.dastore (pc' : Nat) {a : Nat} {ds : List UInt64} {j : Int32} {i : Nat} {x : UInt64} (A : ArD Z h a ds) (hj : j.toInt = (i : Int)) (hi : i < ds.length) (ha : n0 ≤ a) (hd : decode B.2.1 pc = .ok (.dastore, 1)) (hp : pc + 1 = pc')
    (k : ∀ h', Keep h h' [a] → ArD Z h' a (ds.set i x) → Go l Z R B n0 Q h' cl sl pc' Ls st) : Go l Z R B n0 Q h cl sl pc Ls (.double x :: .int j :: .ref a :: st) := by
  subst hp
  intro p e s m args below meth c T locs X cx fr eT hn
  obtain ⟨c0, A0, q0, q⟩ := id A
  have hlt : i < c0.slots.size := by have : i < (c0.slots.toList).length := by rw [q0]; simpa using hi
                                     simpa using this
  obtain ⟨T', h', X', e', W, stp⟩ := stD X cx.1 cx.2.1 eT A0 (idx_ok hj hlt).1 (g := mkF m pc Ls (.double x :: .int j :: .ref a :: st)) rfl rfl (hb cx.2.2.2.1 hd)
  have A' := A.upd hj (by simpa using hi) W
  rw [← List.map_set] at A'
  obtain ⟨s₂, o, h1, r⟩ := k h' (Keep.of_wr W) A' _ _ _ _ _ _ _ _ _ _ X' cx (Fr.snoc X' fr ha) e' (by rw [W.size]; exact hn)
  exact ⟨s₂, o, stp _ h1, r⟩
theorem Go.iastore (pc' : Nat) {a : Nat} {ds : List Int32} {j : Int32} {i : Nat} {x : Int32} (A : ArI Z h a ds) (hj : j.toInt = (i : Int)) (hi : i < ds.length) (ha : n0 ≤ a) (hd : decode B.2.1 pc = .ok (.iastore, 1)) (hp : pc + 1 = pc')
    (k : ∀ h', Keep h h' [a] → ArI Z h' a (ds.set i x) → Go l Z R B n0 Q h' cl sl pc' Ls st) : Go l Z R B n0 Q h cl sl pc Ls (.int x :: .int j :: .ref a :: st) := by
  subst hp
  intro p e s m args below meth c T locs X cx fr eT hn
  obtain ⟨c0, A0, q0, q⟩ := id A
  have hlt : i < c0.slots.size := by have : i < (c0.slots.toList).length := by rw [q0]; simpa using hi
                                     simpa using this
  obtain ⟨T', h', X', e', W, stp⟩ := stI X cx.1 cx.2.1 eT A0 (idx_ok hj hlt).1 (g := mkF m pc Ls (.int x :: .int j :: .ref a :: st)) rfl rfl (hb cx.2.2.2.1 hd)
  have A' := A.upd hj (by simpa using hi) W
  rw [← List.map_set] at A'
  obtain ⟨s₂, o, h1, r⟩ := k h' (Keep.of_wr W) A' _ _ _ _ _ _ _ _ _ _ X' cx (Fr.snoc X' fr ha) e' (by rw [W.size]; exact hn)
  exact ⟨s₂, o, stp _ h1, r⟩
theorem Go.lastore (pc' : Nat) {a : Nat} {ds : List Int64} {j : Int32} {i : Nat} {x : Int64} (A : ArJ Z h a ds) (hj : j.toInt = (i : Int)) (hi : i < ds.length) (ha : n0 ≤ a) (hd : decode B.2.1 pc = .ok (.lastore, 1)) (hp : pc + 1 = pc')
    (k : ∀ h', Keep h h' [a] → ArJ Z h' a (ds.set i x) → Go l Z R B n0 Q h' cl sl pc' Ls st) : Go l Z R B n0 Q h cl sl pc Ls (.long x :: .int j :: .ref a :: st) := by
  subst hp
  intro p e s m args below meth c T locs X cx fr eT hn
  obtain ⟨c0, A0, q0, q⟩ := id A
  have hlt : i < c0.slots.size := by have : i < (c0.slots.toList).length := by rw [q0]; simpa using hi
                                     simpa using this
  obtain ⟨T', h', X', e', W, stp⟩ := stJ X cx.1 cx.2.1 eT A0 (idx_ok hj hlt).1 (g := mkF m pc Ls (.long x :: .int j :: .ref a :: st)) rfl rfl (hb cx.2.2.2.1 hd)
  have A' := A.upd hj (by simpa using hi) W
  rw [← List.map_set] at A'
  obtain ⟨s₂, o, h1, r⟩ := k h' (Keep.of_wr W) A' _ _ _ _ _ _ _ _ _ _ X' cx (Fr.snoc X' fr ha) e' (by rw [W.size]; exact hn)
  exact ⟨s₂, o, stp _ h1, r⟩
theorem Go.newarr (pc' : Nat) (cap : Nat) {aty : ArrayType} {n : Int32} {i : Nat} (w : (Cond.arrayClass (newarray.typeOf aty)).before a0 Z = true) (hi : n.toInt = (i : Int)) (hcap : i ≤ cap) (hbig : cap * 8 ≤ 536870912) (hd : decode B.2.1 pc = .ok (.newarray aty, 2)) (hp : pc + 2 = pc') (hc : cl + 1 ≤ R.cells) (hl : sl + cap ≤ R.slots)
    (k : ∀ h' a, Ext h h' → h.size ≤ a → n0 ≤ a → ArV Z h' a (newarray.typeOf aty) (List.replicate i (defaultValue (newarray.typeOf aty))) → Go l Z R B n0 Q h' (cl + 1) (sl + cap) pc' Ls (.ref a :: st)) : Go l Z R B n0 Q h cl sl pc Ls (.int n :: st) := by
  subst hp
  intro p e s m args below meth c T locs X cx fr eT hn
  have hnn : ¬ n < 0 := by simp only [Int32.lt_iff_toInt_lt, Int32.reduceToInt]; omega
  have hcl : n.toNatClampNeg = i := by simp only [Int32.toNatClampNeg]; omega
  obtain ⟨T', h', cA, X', e', E, A, stp⟩ := newP X cx.1 cx.2.1 w eT (g := mkF m pc Ls (.int n :: st)) rfl (hb cx.2.2.2.1 hd) rfl hnn (cap := cap) (by omega) hbig hc hl
  have A' : ArV Z h' h.size (newarray.typeOf aty) (List.replicate i (defaultValue (newarray.typeOf aty))) := ⟨_, A, by simp [newA, hcl], by
    have := Int32.toInt_lt n; simp only [List.length_replicate]; omega⟩
  obtain ⟨s₂, o, h1, r⟩ := k h' h.size E (Nat.le_refl _) hn A' _ _ _ _ _ _ _ _ _ _ X' cx fr e' (Nat.le_trans hn E.1)
  exact ⟨s₂, o, stp _ h1, r⟩
theorem Go.newD (pc' : Nat) (cap : Nat) {n : Int32} {i : Nat} (w : (Cond.arrayClass .double).before a0 Z = true) (hi : n.toInt = (i : Int)) (hcap : i ≤ cap) (hbig : cap * 8 ≤ 536870912) (hd : decode B.2.1 pc = .ok (.newarray .double, 2)) (hp : pc + 2 = pc') (hc : cl + 1 ≤ R.cells) (hl : sl + cap ≤ R.slots)
    (k : ∀ h' a, Ext h h' → h.size ≤ a → n0 ≤ a → ArD Z h' a (List.replicate i 0) → Go l Z R B n0 Q h' (cl + 1) (sl + cap) pc' Ls (.ref a :: st)) : Go l Z R B n0 Q h cl sl pc Ls (.int n :: st) :=
  Go.newarr pc' cap (aty := .double) w hi hcap hbig hd hp hc hl fun h' a E q1 q2 A => k h' a E q1 q2 (by show ArV _ _ _ _ _; rw [List.map_replicate]; exact A)
theorem Go.newI (pc' : Nat) (cap : Nat) {n : Int32} {i : Nat} (w : (Cond.arrayClass .int).before a0 Z = true) (hi : n.toInt = (i : Int)) (hcap : i ≤ cap) (hbig : cap * 8 ≤ 536870912) (hd : decode B.2.1 pc = .ok (.newarray .int, 2)) (hp : pc + 2 = pc') (hc : cl + 1 ≤ R.cells) (hl : sl + cap ≤ R.slots)
    (k : ∀ h' a, Ext h h' → h.size ≤ a → n0 ≤ a → ArI Z h' a (List.replicate i 0) → Go l Z R B n0 Q h' (cl + 1) (sl + cap) pc' Ls (.ref a :: st)) : Go l Z R B n0 Q h cl sl pc Ls (.int n :: st) :=
  Go.newarr pc' cap (aty := .int) w hi hcap hbig hd hp hc hl fun h' a E q1 q2 A => k h' a E q1 q2 (by show ArV _ _ _ _ _; rw [List.map_replicate]; exact A)
theorem Go.newJ (pc' : Nat) (cap : Nat) {n : Int32} {i : Nat} (w : (Cond.arrayClass .long).before a0 Z = true) (hi : n.toInt = (i : Int)) (hcap : i ≤ cap) (hbig : cap * 8 ≤ 536870912) (hd : decode B.2.1 pc = .ok (.newarray .long, 2)) (hp : pc + 2 = pc') (hc : cl + 1 ≤ R.cells) (hl : sl + cap ≤ R.slots)
    (k : ∀ h' a, Ext h h' → h.size ≤ a → n0 ≤ a → ArJ Z h' a (List.replicate i 0) → Go l Z R B n0 Q h' (cl + 1) (sl + cap) pc' Ls (.ref a :: st)) : Go l Z R B n0 Q h cl sl pc Ls (.int n :: st) :=
  Go.newarr pc' cap (aty := .long) w hi hcap hbig hd hp hc hl fun h' a E q1 q2 A => k h' a E q1 q2 (by show ArV _ _ _ _ _; rw [List.map_replicate]; exact A)
/-! ### returns -/
theorem Go.out {w : Option Value} (hv : B.2.2.2 = none → w = none) (q : Q w h) (hc : cl ≤ R.cells) (hs : sl ≤ R.slots)
    (f : ∀ {p : Program} {e : Env} {s : State} {m : MethodId} {args : Array Value} {below : List Frame} {meth : Method} {c : Code} {T : State} {locs : List Loc} {fs : List Frame}, Stand p l e R s m args below meth c T locs cl sl → p.tables.exec = Jvm.exec → c.code = B.2.1 → meth.sig.returnType = B.2.2.2 →
      (∀ (f : JFrame) (acts : List Action), f.method = m → f.locked = none → f.entered = [] → (doReturn e (T.setTop f) acts w).1 = T.setFrames fs) → Steps p.tables e below (T.setTop (mkF m pc Ls st)) (T.setFrames fs)) : Go l Z R B n0 Q h cl sl pc Ls st := by
  intro p e s m args below meth c T locs X cx fr eT hn
  obtain ⟨fs, hr, hrun, hended, hW, hsame⟩ := X.leave (v := w) (fun q0 => hv (cx.2.2.2.2.2.1.symm.trans q0)) cx.2.2.2.2.2.2.1
  refine ⟨_, _, f X cx.1 cx.2.2.2.1 cx.2.2.2.2.2.1 hr, hrun, hended, w, locs, rfl, ?_, ⟨_, rfl⟩, hW, hsame.mono hc hs⟩
  have e2 : (T.setFrames fs).heap = h := eT
  rw [e2]
  exact ⟨q, hn, fr⟩
theorem Go.ret (hd : decode B.2.1 pc = .ok (.return_, 1)) (hr : B.2.2.2 = none) (hc : cl ≤ R.cells) (hs : sl ≤ R.slots) (q : Q none h) : Go l Z R B n0 Q h cl sl pc Ls [] :=
  Go.out (w := none) (fun _ => rfl) q hc hs fun X hx hcd hrt hl => X.returnOut hx (hrt.trans hr) (hb hcd hd) hl
theorem Go.iret {x : Int32} (hd : decode B.2.1 pc = .ok (.ireturn, 1)) (hr : B.2.2.2 = some .int) (hc : cl ≤ R.cells) (hs : sl ≤ R.slots) (q : Q (some (.int x)) h) : Go l Z R B n0 Q h cl sl pc Ls (.int x :: st) :=
  Go.out (w := some (.int x)) (fun q0 => by rw [hr] at q0; cases q0) q hc hs fun X hx hcd hrt hl => retOut X hx (hrt.trans hr) rfl (Or.inl ⟨rfl, Or.inl rfl, x, rfl⟩) (hb hcd hd) hl
theorem Go.zret {x : Int32} (hd : decode B.2.1 pc = .ok (.ireturn, 1)) (hr : B.2.2.2 = some .boolean) (hx01 : x = 0 ∨ x = 1) (hc : cl ≤ R.cells) (hs : sl ≤ R.slots) (q : Q (some (.int x)) h) : Go l Z R B n0 Q h cl sl pc Ls (.int x :: st) :=
  Go.out (w := some (.int x)) (fun q0 => by rw [hr] at q0; cases q0) q hc hs fun X hx hcd hrt hl => retOut X hx (hrt.trans hr) (by rcases hx01 with rfl | rfl <;> rfl) (Or.inl ⟨rfl, Or.inr (Or.inl rfl), x, rfl⟩) (hb hcd hd) hl
theorem Go.lret {x : Int64} (hd : decode B.2.1 pc = .ok (.lreturn, 1)) (hr : B.2.2.2 = some .long) (hc : cl ≤ R.cells) (hs : sl ≤ R.slots) (q : Q (some (.long x)) h) : Go l Z R B n0 Q h cl sl pc Ls (.long x :: st) :=
  Go.out (w := some (.long x)) (fun q0 => by rw [hr] at q0; cases q0) q hc hs fun X hx hcd hrt hl => retOut X hx (hrt.trans hr) rfl (Or.inr (Or.inl ⟨rfl, rfl, x, rfl⟩)) (hb hcd hd) hl
theorem Go.dret {x : UInt64} (hd : decode B.2.1 pc = .ok (.dreturn, 1)) (hr : B.2.2.2 = some .double) (hc : cl ≤ R.cells) (hs : sl ≤ R.slots) (q : Q (some (.double x)) h) : Go l Z R B n0 Q h cl sl pc Ls (.double x :: st) :=
  Go.out (w := some (.double x)) (fun q0 => by rw [hr] at q0; cases q0) q hc hs fun X hx hcd hrt hl => retOut X hx (hrt.trans hr) rfl (Or.inr (Or.inr (Or.inl ⟨rfl, rfl, x, rfl⟩))) (hb hcd hd) hl
theorem Go.aret {x : Value} {t : FieldType} (hd : decode B.2.1 pc = .ok (.areturn, 1)) (hr : B.2.2.2 = some t) (ht : t.isReference = true) (hv : x.isRef = true) (hc : cl ≤ R.cells) (hs : sl ≤ R.slots) (q : Q (some x) h) : Go l Z R B n0 Q h cl sl pc Ls (x :: st) :=
  Go.out (w := some x) (fun q0 => by rw [hr] at q0; cases q0) q hc hs fun X hx hcd hrt hl => retOut X hx (hrt.trans hr) (by cases t <;> first | rfl | cases ht) (Or.inr (Or.inr (Or.inr (Or.inr ⟨rfl, ht, hv⟩)))) (hb hcd hd) hl
/-! ### calls -/
/-- a callee's contract pays a call, under the narrow word on the tables -/
theorem backH {p : Program} {e : Env} {s : State} {args : Array Value} {below : List Frame} {y : MethodName} {bytes : ByteArray} {maxL : Nat} {ret : Option FieldType} {rm : Room} {len W : Nat} {as' : Array Value} {P : Option Value → Heap → List Loc → Prop}
    (hM : MetFree l y (head1 [Cond.code y bytes maxL ret] rm) (fun a U => a = as' ∧ Z.WarmedH U.vm ∧ U.heap = h) (fun _ _ _ _ _ => True) (fun _ U o U' => ∃ v L, o = .returned v ∧ P v U'.heap L ∧ FrameEnd U o U' L rm.cells rm.slots))
    (hZ : Z.WarmedH s.vm) (wc : (Cond.code y bytes maxL ret).before a0 Z = true) (wz : (Cond.initialized y.cls).before a0 Z = true) (hf : rm.frames + 1 ≤ R.frames) (hl : W + (maxL + 11) + rm.locals ≤ R.locals) :
    Back l R p e below s args y len W (fun A a => a = as' ∧ A.U.heap = h ∧ A.cells + rm.cells ≤ R.cells ∧ A.slots + rm.slots ≤ R.slots)
      (fun A _ v B => ∃ L, P v B.U.heap L ∧ B.locs = A.locs ++ L ∧ B.cells = A.cells + rm.cells ∧ B.slots = A.slots + rm.slots) := by
  refine Back.of_free (bytes := bytes) (maxL := maxL) (ret := ret) (E := fun _ _ o t L k n => k = rm.cells ∧ n = rm.slots ∧ ∃ v, o = .returned v ∧ P v t.heap L) hM hf hl ?_ ?_ ?_ ?_ ?_
  · intro m meth c A a Y hp
    have hU : Z.Warmed39 A.U.vm := (State.WarmedH.trans hZ Y.warmed).wide
    refine ⟨?_, mv hU wc, mv hU wz, hp.2.2.1, hp.2.2.2⟩
    show (Cond.and _ .tt).before a A.U = true
    rw [Cond.before_and, mv hU wc]; rfl
  · intro m meth c A a g mk Y hp
    exact ⟨hp.1, State.WarmedH.trans hZ Y.warmed, hp.2.1⟩
  · intros; trivial
  · rintro _ _ _ _ ⟨v, L, h1, h2, h3⟩
    exact ⟨L, _, _, h3, rfl, rfl, v, h1, h2⟩
  · rintro m meth c A a g mk v t L k n Y hp _ _ ⟨e1, e2, v', e3, e4⟩
    cases e3; subst e1 e2; exact ⟨L, e4, rfl, rfl, rfl⟩
/-- a body's walk from its entry is its contract -/
theorem Go.met {y : MethodName} {bytes : ByteArray} {maxL : Nat} {ret : Option FieldType} {rm : Room} {as' : Array Value} {Ls' : Array Slot} {ws : List Jvm.Cond} (pn : plainName y.cls = true) (hn : n0 ≤ h.size) (ef : ∀ m, entryFrame m as' maxL = mkF m 0 Ls' [])
    (k : Go l Z rm (y, bytes, maxL, ret) n0 Q h 0 0 0 Ls' []) :
    MetFree l y (head1 (Jvm.Cond.code y bytes maxL ret :: ws) rm) (fun a U => a = as' ∧ Z.WarmedH U.vm ∧ U.heap = h) (fun _ _ _ _ _ => True) (fun _ U o U' => ∃ v L, o = .returned v ∧ (Q v U'.heap ∧ n0 ≤ U'.heap.size ∧ Fr n0 L) ∧ FrameEnd U o U' L rm.cells rm.slots) := by
  refine MetFree.of_bodySF (plainFor_of_name pn) hisR ?_
  intro p e s m args below meth c s₁ Bd hml0 hP hK
  obtain ⟨rfl, hZ, hh⟩ := hP
  have e0 : s₁.heap = h := by rw [← hh, Bd.state]; rfl
  obtain ⟨s₂, o, h1, r⟩ := k _ _ _ _ _ _ _ _ _ _ (Stand.of_body Bd) ⟨Bd.exec, hZ.wide, findClass_of_methodNamed Bd.named, Bd.bytes, hml0, Bd.returns, Bd.notSynchronized, (name_of_methodNamed Bd.named Bd.method).1, hZ, Bd.named⟩ (Fr.nil n0) e0 hn
  exact ⟨s₂, o, castTop (ef m) h1, r⟩
theorem Go.callV (pc' : Nat) {index : Nat} {y : MethodName} {bytes : ByteArray} {maxL : Nat} {ret : Option FieldType} {rm : Room} {Q' : Option Value → Heap → Prop} {Ls' : Array Slot} {a : Nat} (argsL rest : List Value) {ps : List FieldType} {rt : Option FieldType}
    (w1 : (Cond.methodLink B.1.cls index y).before a0 Z = true) (w2 : (Cond.declares y).before a0 Z = true) (w3 : (Cond.selects y.cls y y).before a0 Z = true) (w4 : (Cond.instanceMethod y).before a0 Z = true) (w5 : (Cond.code y bytes maxL ret).before a0 Z = true) (w6 : (Cond.initialized y.cls).before a0 Z = true)
    (hy : y.cls ≠ "java/lang/invoke/MethodHandle" ∧ y.cls ≠ "java/lang/invoke/VarHandle") (pn : plainName y.cls = true) (pd : parseMethodDescriptor y.desc = some ⟨ps, rt⟩) (hlen : argsL.length = ps.length)
    (E : Exa Z h a y.cls) (ef : ∀ m, entryFrame m (.ref a :: argsL).toArray maxL = mkF m 0 Ls' [])
    (callee : Go l Z rm (y, bytes, maxL, ret) n0 Q' h 0 0 0 Ls' [])
    (hst : st = argsL.reverse ++ .ref a :: rest) (hsz : Ls.size = B.2.2.1) (hfr : rm.frames + 1 ≤ R.frames) (hlo : (rest.map fun v => v.category).sum + (maxL + 11) + rm.locals ≤ R.locals) (hc : cl + rm.cells ≤ R.cells) (hs : sl + rm.slots ≤ R.slots)
    (hd : decode B.2.1 pc = .ok (.invokevirtual index, 3)) (hp : pc + 3 = pc')
    (k : ∀ v h', Q' v h' → Go l Z R B n0 Q h' (cl + rm.cells) (sl + rm.slots) pc' Ls (v.toList ++ rest)) : Go l Z R B n0 Q h cl sl pc Ls st := by
  subst hp
  intro p e s m args below meth c T locs X cx fr eT hn
  obtain ⟨cq, kq, qa, qb, qc⟩ := isOf cx.2.1 eT E
  obtain ⟨v, _, ⟨T', L', k', n'⟩, -, X', ⟨Lc, hQ, l', y', z'⟩, stp⟩ := X.virtualBack cx.1 (y := y) (z := y) cx.2.2.1 (mvT cx.2.1 w1) (mvT cx.2.1 w2) (notFace_of_selects (args := #[]) (mvT cx.2.1 w3)) (mvT cx.2.1 w3) (mvT cx.2.1 w4) hy
    (backH (W := (rest.map fun v => v.category).sum) (P := fun v h' L => Q' v h' ∧ n0 ≤ h'.size ∧ Fr n0 L) (callee.met (ws := []) pn hn ef) cx.2.2.2.2.2.2.2.2.1 w5 w6 hfr hlo) qa qc (g := mkF m pc Ls st) rfl (hsz.trans cx.2.2.2.2.1.symm) (Steps.refl _) (argsL := argsL) (rest := rest) (lenOf pd hlen) hst (by show 2 * 0 + _ ≤ _; omega) (hb cx.2.2.2.1 hd) (fun _ _ => ⟨rfl, eT, hc, hs⟩)
  dsimp only [Pt.U, Pt.locs, Pt.cells, Pt.slots] at X' l' y' z' stp hQ
  subst l' y' z'
  obtain ⟨hQ1, hQ2, hQ3⟩ := hQ
  obtain ⟨s₂, o, h1, r⟩ := k v T'.heap hQ1 _ _ _ _ _ _ _ _ _ _ X' cx (Fr.app fr hQ3) rfl hQ2
  exact ⟨s₂, o, stp.trans h1, r⟩
theorem Go.callN (pc' : Nat) {index : Nat} {y : MethodName} {bytes : ByteArray} {maxL : Nat} {rm : Room} {Q' : Option Value → Heap → Prop} {Ls' : Array Slot} {a : Nat} (argsL rest : List Value) {ps : List FieldType} {rt : Option FieldType} (hy1 : y.name = "<init>")
    (w1 : (Cond.methodLink B.1.cls index y).before a0 Z = true) (w4 : (Cond.instanceMethod y).before a0 Z = true) (w5 : (Cond.code y bytes maxL none).before a0 Z = true) (w6 : (Cond.initialized y.cls).before a0 Z = true)
    (hy : y.cls ≠ "java/lang/invoke/MethodHandle" ∧ y.cls ≠ "java/lang/invoke/VarHandle") (pn : plainName y.cls = true) (pd : parseMethodDescriptor y.desc = some ⟨ps, rt⟩) (hlen : argsL.length = ps.length)
    (ef : ∀ m, entryFrame m (.ref a :: argsL).toArray maxL = mkF m 0 Ls' [])
    (callee : Go l Z rm (y, bytes, maxL, none) n0 Q' h 0 0 0 Ls' [])
    (hst : st = argsL.reverse ++ .ref a :: rest) (hsz : Ls.size = B.2.2.1) (hfr : rm.frames + 1 ≤ R.frames) (hlo : (rest.map fun v => v.category).sum + (maxL + 11) + rm.locals ≤ R.locals) (hc : cl + rm.cells ≤ R.cells) (hs : sl + rm.slots ≤ R.slots)
    (hd : decode B.2.1 pc = .ok (.invokespecial index, 3)) (hp : pc + 3 = pc')
    (k : ∀ v h', Q' v h' → Go l Z R B n0 Q h' (cl + rm.cells) (sl + rm.slots) pc' Ls (v.toList ++ rest)) : Go l Z R B n0 Q h cl sl pc Ls st := by
  subst hp
  intro p e s m args below meth c T locs X cx fr eT hn
  obtain ⟨v, _, ⟨T', L', k', n'⟩, -, X', ⟨Lc, hQ, l', y', z'⟩, stp⟩ := X.specialBack cx.1 (y := y) hy1 cx.2.2.1 (mvT cx.2.1 w1) (mvT cx.2.1 w4) (mvT cx.2.1 w5) hy
    (backH (W := (rest.map fun v => v.category).sum) (P := fun v h' L => Q' v h' ∧ n0 ≤ h'.size ∧ Fr n0 L) (callee.met (ws := []) pn hn ef) cx.2.2.2.2.2.2.2.2.1 w5 w6 hfr hlo) (g := mkF m pc Ls st) rfl (hsz.trans cx.2.2.2.2.1.symm) (Steps.refl _) (a := a) (argsL := argsL) (rest := rest) (lenOf pd hlen) hst (by show 2 * 0 + _ ≤ _; omega) (hb cx.2.2.2.1 hd) (fun _ _ => ⟨rfl, eT, hc, hs⟩)
  dsimp only [Pt.U, Pt.locs, Pt.cells, Pt.slots] at X' l' y' z' stp hQ
  subst l' y' z'
  obtain ⟨hQ1, hQ2, hQ3⟩ := hQ
  obtain ⟨s₂, o, h1, r⟩ := k v T'.heap hQ1 _ _ _ _ _ _ _ _ _ _ X' cx (Fr.app fr hQ3) rfl hQ2
  exact ⟨s₂, o, stp.trans h1, r⟩
theorem Go.callS (pc' : Nat) {index : Nat} {y : MethodName} {bytes : ByteArray} {maxL : Nat} {ret : Option FieldType} {rm : Room} {Q' : Option Value → Heap → Prop} {Ls' : Array Slot} (argsL rest : List Value) {ps : List FieldType} {rt : Option FieldType}
    (w1 : (Cond.methodLink B.1.cls index y).before a0 Z = true) (w2 : (Cond.static y).before a0 Z = true) (w5 : (Cond.code y bytes maxL ret).before a0 Z = true) (w6 : (Cond.initialized y.cls).before a0 Z = true)
    (hy : y.cls ≠ "java/lang/invoke/MethodHandle" ∧ y.cls ≠ "java/lang/invoke/VarHandle") (pn : plainName y.cls = true) (pd : parseMethodDescriptor y.desc = some ⟨ps, rt⟩) (hlen : argsL.length = ps.length)
    (ef : ∀ m, entryFrame m argsL.toArray maxL = mkF m 0 Ls' [])
    (callee : Go l Z rm (y, bytes, maxL, ret) n0 Q' h 0 0 0 Ls' [])
    (hst : st = argsL.reverse ++ rest) (hsz : Ls.size = B.2.2.1) (hfr : rm.frames + 1 ≤ R.frames) (hlo : (rest.map fun v => v.category).sum + (maxL + 11) + rm.locals ≤ R.locals) (hc : cl + rm.cells ≤ R.cells) (hs : sl + rm.slots ≤ R.slots)
    (hd : decode B.2.1 pc = .ok (.invokestatic index, 3)) (hp : pc + 3 = pc')
    (k : ∀ v h', Q' v h' → Go l Z R B n0 Q h' (cl + rm.cells) (sl + rm.slots) pc' Ls (v.toList ++ rest)) : Go l Z R B n0 Q h cl sl pc Ls st := by
  subst hp
  intro p e s m args below meth c T locs X cx fr eT hn
  obtain ⟨v, _, ⟨T', L', k', n'⟩, -, X', ⟨Lc, hQ, l', y', z'⟩, stp⟩ := Jvm.LawKit.callS X cx.1 (y := y) cx.2.2.1 (mvT cx.2.1 w1) (mvT cx.2.1 w2) (mvT cx.2.1 w6) (mvT cx.2.1 w5) hy
    (backH (W := (rest.map fun v => v.category).sum) (P := fun v h' L => Q' v h' ∧ n0 ≤ h'.size ∧ Fr n0 L) (callee.met (ws := []) pn hn ef) cx.2.2.2.2.2.2.2.2.1 w5 w6 hfr hlo) (g := mkF m pc Ls st) rfl (hsz.trans cx.2.2.2.2.1.symm) (argsL := argsL) (rest := rest) (lenOf pd hlen) hst (by show 2 * 0 + _ ≤ _; omega) (hb cx.2.2.2.1 hd) (fun _ _ => ⟨rfl, eT, hc, hs⟩)
  dsimp only [Pt.U, Pt.locs, Pt.cells, Pt.slots] at X' l' y' z' stp hQ
  subst l' y' z'
  obtain ⟨hQ1, hQ2, hQ3⟩ := hQ
  obtain ⟨s₂, o, h1, r⟩ := k v T'.heap hQ1 _ _ _ _ _ _ _ _ _ _ X' cx (Fr.app fr hQ3) rfl hQ2
  exact ⟨s₂, o, stp _ h1, r⟩
end Rules
end Jvm.GoK
namespace Jvm.GoK
open Jvm.Free
theorem toInt_add {x y : Int32} {a b : Int} {c : Int} (hx : x.toInt = a) (hy : y.toInt = b) (h1 : -2147483648 ≤ a + b) (h2 : a + b < 2147483648) (e : a + b = c) : (x + y).toInt = c := by
  rw [XT.add32 (show XT.fits32 _ from ⟨by rw [hx, hy]; omega, by rw [hx, hy]; omega⟩), hx, hy, e]
theorem toInt_add' {x y z : Int32} {a b : Int} {c : Int} (hx : x.toInt = a) (hy : y.toInt = b) (hz : x + y = z) (h1 : -2147483648 ≤ a + b) (h2 : a + b < 2147483648) (e : a + b = c) : z.toInt = c := hz ▸ toInt_add hx hy h1 h2 e
theorem toInt_sub {x y : Int32} {a b : Int} {c : Int} (hx : x.toInt = a) (hy : y.toInt = b) (h1 : -2147483648 ≤ a - b) (h2 : a - b < 2147483648) (e : a - b = c) : (x - y).toInt = c := by
  rw [XT.sub32 (show XT.fits32 _ from ⟨by rw [hx, hy]; omega, by rw [hx, hy]; omega⟩), hx, hy, e]
theorem toInt_mul {x y : Int32} {a b : Int} {c : Int} (hx : x.toInt = a) (hy : y.toInt = b) (h1 : -2147483648 ≤ a * b) (h2 : a * b < 2147483648) (e : a * b = c) : (x * y).toInt = c := by
  rw [XT.mul32 (show XT.fits32 _ from ⟨by rw [hx, hy]; omega, by rw [hx, hy]; omega⟩), hx, hy, e]
end Jvm.GoK
namespace Jvm.GoK
open Jvm.Free
theorem toInt_ladd {x y : Int64} {a b c : Int} (hx : x.toInt = a) (hy : y.toInt = b) (h1 : -9223372036854775808 ≤ a + b) (h2 : a + b < 9223372036854775808) (e : a + b = c) : (x + y).toInt = c := by
  rw [XT.add64 (show XT.fits64 _ from ⟨by rw [hx, hy]; omega, by rw [hx, hy]; omega⟩), hx, hy, e]
theorem toInt_lsub {x y : Int64} {a b c : Int} (hx : x.toInt = a) (hy : y.toInt = b) (h1 : -9223372036854775808 ≤ a - b) (h2 : a - b < 9223372036854775808) (e : a - b = c) : (x - y).toInt = c := by
  rw [XT.sub64 (show XT.fits64 _ from ⟨by rw [hx, hy]; omega, by rw [hx, hy]; omega⟩), hx, hy, e]
theorem toInt_lmul {x y : Int64} {a b c : Int} (hx : x.toInt = a) (hy : y.toInt = b) (h1 : -9223372036854775808 ≤ a * b) (h2 : a * b < 9223372036854775808) (e : a * b = c) : (x * y).toInt = c := by
  rw [XT.mul64 (show XT.fits64 _ from ⟨by rw [hx, hy]; omega, by rw [hx, hy]; omega⟩), hx, hy, e]
theorem b32 (x : Int32) : -2147483648 ≤ x.toInt ∧ x.toInt < 2147483648 := ⟨x.le_toInt, x.toInt_lt⟩
theorem and_nat (n : Int32) (k : Nat) (hk : k < 2147483648) : ∃ j : Nat, j ≤ k ∧ (n &&& Int32.ofNat k).toInt = (j : Int) := by
  have h : (n &&& Int32.ofNat k).toInt = ((n.toBitVec &&& BitVec.ofNat 32 k).toNat : Int) := by
    show (n.toBitVec &&& BitVec.ofNat 32 k).toInt = _
    rw [BitVec.toInt_eq_toNat_of_lt]
    have h2 : (n.toBitVec &&& BitVec.ofNat 32 k).toNat ≤ (BitVec.ofNat 32 k).toNat := by rw [BitVec.toNat_and]; exact Nat.and_le_right
    have h3 : (BitVec.ofNat 32 k).toNat = k := by rw [BitVec.toNat_ofNat]; omega
    omega
  refine ⟨_, ?_, h⟩
  have h3 : (BitVec.ofNat 32 k).toNat = k := by rw [BitVec.toNat_ofNat]; omega
  rw [BitVec.toNat_and]
  exact Nat.le_trans Nat.and_le_right (Nat.le_of_eq h3)
theorem and3 (n : Int32) : n &&& 3 = 0 ∨ n &&& 3 = 1 ∨ n &&& 3 = 2 ∨ n &&& 3 = 3 := by
  obtain ⟨j, h1, h2⟩ := and_nat n 3 (by decide)
  have h2 : (n &&& 3).toInt = (j : Int) := h2
  have : j = 0 ∨ j = 1 ∨ j = 2 ∨ j = 3 := by omega
  rcases this with rfl | rfl | rfl | rfl
  · exact Or.inl (Int32.toInt_inj.mp h2)
  · exact Or.inr (Or.inl (Int32.toInt_inj.mp h2))
  · exact Or.inr (Or.inr (Or.inl (Int32.toInt_inj.mp h2)))
  · exact Or.inr (Or.inr (Or.inr (Int32.toInt_inj.mp h2)))
theorem fill_step {α : Type} {rs : List α} {z g : α} {j k : Nat} (hg : rs[j]? = some g) (hk : rs.length = k) : (rs.take j ++ List.replicate (k - j) z).set j g = rs.take (j + 1) ++ List.replicate (k - (j + 1)) z := by
  have hj := (List.getElem?_eq_some_iff.mp hg).1
  have hlen : (rs.take j).length = j := by rw [List.length_take]; omega
  rw [List.set_append, hlen, if_neg (Nat.lt_irrefl j), Nat.sub_self, List.take_add_one, hg]
  obtain ⟨m, hm⟩ : ∃ m, k - j = m + 1 := ⟨k - j - 1, by omega⟩
  rw [hm, show k - (j + 1) = m by omega, List.replicate_succ, List.set_cons_zero, List.append_assoc]
  rfl
end Jvm.GoK
namespace Jvm.GoK
theorem fill_step2 {α : Type} {rs : List α} {z g : α} {j m : Nat} (hg : rs[j]? = some g) : (rs.take j ++ List.replicate (m + 1) z).set j g = rs.take (j + 1) ++ List.replicate m z := by
  have hj := (List.getElem?_eq_some_iff.mp hg).1
  have hlen : (rs.take j).length = j := by rw [List.length_take]; omega
  rw [List.set_append, hlen, if_neg (Nat.lt_irrefl j), Nat.sub_self, List.take_add_one, hg, List.replicate_succ, List.set_cons_zero, List.append_assoc]
  rfl
end Jvm.GoK
namespace Jvm.GoK
theorem leB {a b : Nat} (h : Nat.ble a b = true) : a ≤ b := Nat.le_of_ble_eq_true h
end Jvm.GoK
namespace Jvm.GoK
theorem lit1 : (1 : Int32).toInt = 1 := by decide
theorem lit2 : (2 : Int32).toInt = 2 := by decide
theorem lit3 : (3 : Int32).toInt = 3 := by decide
theorem olit1 : (Int32.ofInt 1).toInt = 1 := by decide
theorem olit2 : (Int32.ofInt 2).toInt = 2 := by decide
theorem olitm : (Int32.ofInt (-1)).toInt = -1 := by decide
end Jvm.GoK
namespace Jvm.GoK
theorem ninN {a b : Nat} {l : List Nat} (h : a ≠ b) (q : a ∉ l) : a ∉ b :: l := Jvm.RoadKit.ninS h q
end Jvm.GoK
namespace Jvm.GoK
open Jvm.FP Jvm.Free.Fl Jvm.FP.Core
/-! ### doubles that are whole numbers: what each step makes of them -/
def DAdd (x y v : UInt64) : Prop := FP.dadd x y = v ∧ NoNaN64 v
def DSub (x y v : UInt64) : Prop := FP.dsub x y = v ∧ NoNaN64 v
def DMul (x y v : UInt64) : Prop := FP.dmul x y = v ∧ NoNaN64 v
def DDiv (x y v : UInt64) : Prop := FP.ddiv x y = v ∧ NoNaN64 v
theorem dint_nn {i : Int} {v : UInt64} (h : DInt i v) : NoNaN64 v := val64_no.mpr (DInt_ne_nan h)
theorem dint_cast {i j : Int} {v : UInt64} (h : DInt i v) (e : i = j) : DInt j v := e ▸ h
theorem dint_zero : DInt 0 0 := by
  unfold DInt
  rw [val64_zero]
  show signed false (0 * _) = 0 * _
  simp [signed]
theorem addI {i j : Int} {x y : UInt64} (hx : DInt i x) (hy : DInt j y) (b1 : -9007199254740992 ≤ i + j) (b2 : i + j ≤ 9007199254740992) : ∃ v, DAdd x y v ∧ DInt (i + j) v := by
  have q : DInt (i + j) (FP.dadd x y) := dadd_int hx hy (by omega)
  exact ⟨_, ⟨rfl, dint_nn q⟩, q⟩
theorem subI {i j : Int} {x y : UInt64} (hx : DInt i x) (hy : DInt j y) (b1 : -9007199254740992 ≤ i - j) (b2 : i - j ≤ 9007199254740992) : ∃ v, DSub x y v ∧ DInt (i - j) v := by
  have q : DInt (i - j) (FP.dsub x y) := dsub_int hx hy (by omega)
  exact ⟨_, ⟨rfl, dint_nn q⟩, q⟩
theorem mulI {i j : Int} {x y : UInt64} (hx : DInt i x) (hy : DInt j y) (b1 : -9007199254740992 ≤ i * j) (b2 : i * j ≤ 9007199254740992) : ∃ v, DMul x y v ∧ DInt (i * j) v := by
  have q : DInt (i * j) (FP.dmul x y) := dmul_int hx hy (by omega)
  exact ⟨_, ⟨rfl, dint_nn q⟩, q⟩
/-- what a comparison pushes -/
def sg (i j : Int) : Int32 := if i < j then -1 else if i = j then 0 else 1
theorem sg_cases (i j : Int) : ((sg i j).toInt = -1 ∧ i < j) ∨ ((sg i j).toInt = 0 ∧ i = j) ∨ ((sg i j).toInt = 1 ∧ j < i) := by
  unfold sg
  by_cases h1 : i < j
  · rw [if_pos h1]; exact Or.inl ⟨by decide, h1⟩
  · rw [if_neg h1]
    by_cases h2 : i = j
    · rw [if_pos h2]; exact Or.inr (Or.inl ⟨by decide, h2⟩)
    · rw [if_neg h2]; exact Or.inr (Or.inr ⟨by decide, by omega⟩)
theorem cmpV_sg (i j : Int) (o : ClassFile.CmpOp) : Op.cmpValue (some (compare i j)) o = sg i j := by
  unfold sg
  by_cases h1 : i < j
  · rw [if_pos h1, (compare_lt_iff i j).mpr h1]; cases o <;> rfl
  · rw [if_neg h1]
    by_cases h2 : i = j
    · rw [if_pos h2, (compare_eq_iff i j).mpr h2]; cases o <;> rfl
    · rw [if_neg h2, (compare_gt_iff i j).mpr (by omega)]; cases o <;> rfl
theorem cmpI {i j : Int} {x y : UInt64} (hx : DInt i x) (hy : DInt j y) (o : ClassFile.CmpOp) : Op.cmpValue (FP.dcmp x y) o = sg i j := by
  rw [show FP.dcmp x y = some (compare i j) from dcmp_int hx hy]; exact cmpV_sg i j o
end Jvm.GoK
namespace Jvm.GoK
theorem sg_self {i j : Int} (h : i = j) : (sg i j).toInt = 0 := by have := sg_cases i j; omega
end Jvm.GoK
namespace Jvm.GoK
open Jvm.FP Jvm.Free.Fl Jvm.FP.Core
/-! ### doubles that are a whole number over a power of two: DQ k i v says v = i / 2^k -/
def sc (k : Nat) : Datum → Datum
  | .fin s c q => .fin s c (q + (k : Int))
  | .inf s => .inf s
  | .nan => .nan
def DQ (k : Nat) (i : Int) (v : UInt64) : Prop := Whole i (sc k (val64 v))
theorem bal (A C : Nat) (x : Int) (N : Nat) (h : 0 ≤ x + N) : A * 2 ^ (x + N).toNat = C * 2 ^ N ↔ A * 2 ^ x.toNat = C * 2 ^ (-x).toNat := by
  by_cases hx : 0 ≤ x
  · rw [show (x + N).toNat = x.toNat + N by omega, show (-x).toNat = 0 by omega, Nat.pow_add, ← Nat.mul_assoc, Nat.pow_zero, Nat.mul_one]
    exact ⟨fun q => Nat.eq_of_mul_eq_mul_right (Nat.two_pow_pos N) q, fun q => by rw [q]⟩
  · obtain ⟨m, hm⟩ : ∃ m : Nat, x = -(m : Int) := ⟨(-x).toNat, by omega⟩
    subst hm
    obtain ⟨j, hj⟩ : ∃ j, N = j + m := ⟨N - m, by omega⟩
    subst hj
    rw [show (-(m : Int) + ((j + m : Nat) : Int)).toNat = j by omega, show (-(m : Int)).toNat = 0 by omega, show (- -(m : Int)).toNat = m by omega, Nat.pow_zero, Nat.mul_one, Nat.add_comm j m, Nat.pow_add, ← Nat.mul_assoc]
    exact ⟨fun q => Nat.eq_of_mul_eq_mul_right (Nat.two_pow_pos j) q, fun q => by rw [q]⟩
theorem dq_fin {k : Nat} {i : Int} {v : UInt64} (h : DQ k i v) : ∃ s c q, val64 v = .fin s c q := by
  unfold DQ at h
  cases hv : val64 v with
  | nan => rw [hv] at h; exact h.elim
  | inf => rw [hv] at h; exact h.elim
  | fin s c q => exact ⟨s, c, q, rfl⟩
theorem dq_ne {k : Nat} {i : Int} {v : UInt64} (h : DQ k i v) : val64 v ≠ .nan := by
  obtain ⟨s, c, q, e⟩ := dq_fin h; rw [e]; exact Datum.noConfusion
theorem dq_nn {k : Nat} {i : Int} {v : UInt64} (h : DQ k i v) : NoNaN64 v := val64_no.mpr (dq_ne h)
theorem dq_of_int {i : Int} {v : UInt64} (h : DInt i v) : DQ 0 i v := by
  unfold DQ; unfold DInt at h
  cases hv : val64 v with
  | nan => rw [hv] at h; exact h.elim
  | inf => rw [hv] at h; exact h.elim
  | fin s c q => rw [hv] at h; show Whole i (.fin s c (q + ((0 : Nat) : Int))); rw [Int.natCast_zero, Int.add_zero]; exact h
theorem dq_cast {k m : Nat} {i j : Int} {v : UInt64} (h : DQ k i v) (e : k = m) (e2 : i = j) : DQ m j v := e ▸ e2 ▸ h
theorem whole_two (m : Nat) : Whole ((2 : Int) ^ m) (.fin false 1 (m : Int)) := by
  show signed false (1 * 2 ^ ((m : Int)).toNat) = (2 : Int) ^ m * ((2 ^ (-(m : Int)).toNat : Nat) : Int)
  rw [show (-(m : Int)).toNat = 0 by omega, show ((m : Int)).toNat = m by omega]
  simp [signed]
theorem dq_up {k : Nat} {i : Int} {v : UInt64} (m : Nat) (h : DQ k i v) : DQ (k + m) (i * 2 ^ m) v := by
  obtain ⟨s, c, q, e⟩ := dq_fin h
  unfold DQ at h ⊢
  rw [e] at h ⊢
  have := whole_product h (whole_two m)
  have e2 : exactProduct (sc k (.fin s c q)) (.fin false 1 (m : Int)) = sc (k + m) (.fin s c q) := by
    show Datum.fin (s != false) (c * 1) (q + (k : Int) + (m : Int)) = Datum.fin s c (q + ((k + m : Nat) : Int))
    rw [Nat.mul_one, show (s != false) = s by cases s <;> rfl, Int.natCast_add, Int.add_assoc]
  rw [e2] at this; exact this
theorem whole_mk {i : Int} {s : Bool} {c : Nat} {q : Int} (hs : i = 0 ∨ s = decide (i < 0)) (h : c * 2 ^ q.toNat = i.natAbs * 2 ^ (-q).toNat) : Whole i (.fin s c q) := by
  show signed s (c * 2 ^ q.toNat) = i * ((2 ^ (-q).toNat : Nat) : Int)
  rw [h, signed_mul]
  congr 1
  rcases hs with rfl | rfl
  · exact signed_zero s
  · unfold signed
    by_cases hi : i < 0
    · rw [if_pos (by simpa using hi)]; omega
    · rw [if_neg (by simpa using hi)]; omega
/-- what rounds to a small whole number over a power of two is just that -/
theorem ratio_dy {k : Nat} {i : Int} {s : Bool} {A D : Nat} {e : Int} (hD : 0 < D) (hi : i.natAbs < 2 ^ 53) (hk : k ≤ 1000) (hs : i = 0 ∨ s = decide (i < 0)) (h : A * 1 * 2 ^ (e - -(k : Int)).toNat = i.natAbs * D * 2 ^ (-(k : Int) - e).toNat) : Whole i (sc k (roundRatio b64 s A D e)) := by
  rw [roundRatio_congr hD (by decide) h]
  obtain ⟨c', q', h1, h2⟩ := round_exact good_b64 s (c := i.natAbs) (q := -(k : Int)) hi (by rw [qmin_b64]; omega) (by
    have : b64.qmax = 971 := by decide
    omega)
  have h1' : roundRatio b64 s i.natAbs 1 (-(k : Int)) = .fin s c' q' := h1
  rw [h1']
  have hf := round_fits good_b64 (.fin s i.natAbs (-(k : Int)))
  rw [h1] at hf
  have hq : b64.qmin ≤ q' := hf.2.1
  rw [qmin_b64] at hq
  show Whole i (.fin s c' (q' + (k : Int)))
  refine whole_mk hs ?_
  unfold inUnits at h2
  rw [qmin_b64] at h2
  obtain ⟨N, hN⟩ : ∃ N : Nat, N = 1074 - k := ⟨_, rfl⟩
  refine (bal c' i.natAbs (q' + (k : Int)) N (by omega)).mp ?_
  rw [show (q' + (k : Int) + (N : Int)).toNat = (q' - -1074).toNat by omega, h2, show (-(k : Int) - -1074).toNat = N by omega]
theorem round_dy {k : Nat} {i : Int} {d : Datum} (h : Whole i (sc k d)) (hi : i.natAbs < 2 ^ 53) (hk : k ≤ 1000) : Whole i (sc k (round b64 d)) := by
  cases d with
  | nan => exact h.elim
  | inf => exact h.elim
  | fin s c q =>
    have h' : Whole i (.fin s c (q + (k : Int))) := h
    refine ratio_dy (by decide) hi hk ?_ ?_
    · by_cases h0 : i = 0
      · exact Or.inl h0
      · exact Or.inr (whole_sign h' h0)
    · have := whole_natAbs h'
      rw [Nat.mul_one, Nat.mul_one, show q - -(k : Int) = q + (k : Int) by omega, show -(k : Int) - q = -(q + (k : Int)) by omega]
      exact this
theorem mulQ {k m : Nat} {i j : Int} {x y : UInt64} (hx : DQ k i x) (hy : DQ m j y) (hb : (i * j).natAbs < 2 ^ 53) (hk : k + m ≤ 1000) : ∃ v, DMul x y v ∧ DQ (k + m) (i * j) v := by
  have q : DQ (k + m) (i * j) (FP.dmul x y) := by
    obtain ⟨s, c, q, e⟩ := dq_fin hx
    obtain ⟨t, d, r, e'⟩ := dq_fin hy
    unfold DQ at hx hy ⊢
    rw [val64_dmul]
    refine round_dy ?_ hb hk
    rw [e] at hx ⊢; rw [e'] at hy ⊢
    have := whole_product hx hy
    have e2 : exactProduct (sc k (.fin s c q)) (sc m (.fin t d r)) = sc (k + m) (exactProduct (.fin s c q) (.fin t d r)) := by
      show Datum.fin (s != t) (c * d) (q + (k : Int) + (r + (m : Int))) = Datum.fin (s != t) (c * d) (q + r + ((k + m : Nat) : Int))
      rw [show q + (k : Int) + (r + (m : Int)) = q + r + ((k + m : Nat) : Int) by omega]
    rw [e2] at this; exact this
  exact ⟨_, ⟨rfl, dq_nn q⟩, q⟩
theorem sc_sum (k : Nat) (s t : Bool) (c d : Nat) (q r : Int) : exactSum (sc k (.fin s c q)) (sc k (.fin t d r)) = sc k (exactSum (.fin s c q) (.fin t d r)) := by
  have hm : min (q + (k : Int)) (r + (k : Int)) = min q r + (k : Int) := by omega
  show Datum.fin (sumSign s t (sumUnits s c (q + k) t d (r + k) (min (q + (k : Int)) (r + (k : Int))))) (sumUnits s c (q + k) t d (r + k) (min (q + (k : Int)) (r + (k : Int)))).natAbs (min (q + (k : Int)) (r + (k : Int))) = Datum.fin (sumSign s t (sumUnits s c q t d r (min q r))) (sumUnits s c q t d r (min q r)).natAbs (min q r + (k : Int))
  rw [hm]
  have hu : sumUnits s c (q + k) t d (r + k) (min q r + (k : Int)) = sumUnits s c q t d r (min q r) := by
    unfold sumUnits inUnits
    rw [show q + (k : Int) - (min q r + (k : Int)) = q - min q r by omega, show r + (k : Int) - (min q r + (k : Int)) = r - min q r by omega]
  rw [hu]
theorem addQ {k : Nat} {i j : Int} {x y : UInt64} (hx : DQ k i x) (hy : DQ k j y) (hb : (i + j).natAbs < 2 ^ 53) (hk : k ≤ 1000) : ∃ v, DAdd x y v ∧ DQ k (i + j) v := by
  have q : DQ k (i + j) (FP.dadd x y) := by
    obtain ⟨s, c, q, e⟩ := dq_fin hx
    obtain ⟨t, d, r, e'⟩ := dq_fin hy
    unfold DQ at hx hy ⊢
    rw [val64_dadd]
    refine round_dy ?_ hb hk
    rw [e] at hx ⊢; rw [e'] at hy ⊢
    rw [← sc_sum]; exact whole_sum hx hy
  exact ⟨_, ⟨rfl, dq_nn q⟩, q⟩
theorem subQ {k : Nat} {i j : Int} {x y : UInt64} (hx : DQ k i x) (hy : DQ k j y) (hb : (i - j).natAbs < 2 ^ 53) (hk : k ≤ 1000) : ∃ v, DSub x y v ∧ DQ k (i - j) v := by
  have q : DQ k (i - j) (FP.dsub x y) := by
    obtain ⟨s, c, q, e⟩ := dq_fin hx
    obtain ⟨t, d, r, e'⟩ := dq_fin hy
    unfold DQ at hx hy ⊢
    rw [val64_dsub]
    refine round_dy ?_ hb hk
    rw [e] at hx ⊢; rw [e'] at hy ⊢
    show Whole (i - j) (sc k (exactSum (.fin s c q) (.fin (!t) d r)))
    rw [← sc_sum, Int.sub_eq_add_neg]; exact whole_sum hx (whole_negate hy)
  exact ⟨_, ⟨rfl, dq_nn q⟩, q⟩
theorem cmpQ {k : Nat} {i j : Int} {x y : UInt64} (hx : DQ k i x) (hy : DQ k j y) (o : ClassFile.CmpOp) : Op.cmpValue (FP.dcmp x y) o = sg i j := by
  have q : FP.dcmp x y = some (compare i j) := by
    obtain ⟨s, c, q, e⟩ := dq_fin hx
    obtain ⟨t, d, r, e'⟩ := dq_fin hy
    unfold DQ at hx hy
    have := order_whole hx hy
    show order (val64 x) (val64 y) = _
    rw [← this, e, e']
    show order _ _ = order (.fin s c (q + (k : Int))) (.fin t d (r + (k : Int)))
    unfold order inUnits
    have hm : min (q + (k : Int)) (r + (k : Int)) = min q r + (k : Int) := by omega
    dsimp only
    rw [hm, show q + (k : Int) - (min q r + (k : Int)) = q - min q r by omega, show r + (k : Int) - (min q r + (k : Int)) = r - min q r by omega]
  rw [q]; exact cmpV_sg i j o
/-- a quotient that comes out even: x / y = t / 2^n -/
theorem divQ {k m n : Nat} {i j t : Int} {x y : UInt64} (hx : DQ k i x) (hy : DQ m j y) (hj : 0 < j) (e : i * 2 ^ (m + n) = t * j * 2 ^ k) (hb : t.natAbs < 2 ^ 53) (hn : n ≤ 1000) : ∃ v, DDiv x y v ∧ DQ n t v := by
  have q : DQ n t (FP.ddiv x y) := by
    obtain ⟨s, c, q, ex⟩ := dq_fin hx
    obtain ⟨u, d, r, ey⟩ := dq_fin hy
    unfold DQ at hx hy ⊢
    rw [val64_ddiv, ex, ey]
    rw [ex] at hx; rw [ey] at hy
    have hx' : Whole i (.fin s c (q + (k : Int))) := hx
    have hy' : Whole j (.fin u d (r + (m : Int))) := hy
    have hd : d ≠ 0 := fun h0 => by have := (whole_zero hy').mp h0; omega
    have hu : u = false := by rw [whole_sign hy' (by omega)]; simp; omega
    show Whole t (sc n (if d = 0 then (if c = 0 then .nan else .inf (s != u)) else roundRatio b64 (s != u) c d (q - r)))
    rw [if_neg hd, hu, show (s != false) = s by cases s <;> rfl]
    have c1 := whole_natAbs hx'
    have c2 := whole_natAbs hy'
    have ea : i.natAbs * 2 ^ (m + n) = t.natAbs * j.natAbs * 2 ^ k := by
      have := congrArg Int.natAbs e
      simpa [Int.natAbs_mul, Int.natAbs_pow] using this
    have sgn : (t = 0 ↔ i = 0) ∧ (t < 0 ↔ i < 0) := by
      have p1 : (0 : Int) < 2 ^ (m + n) := Int.pow_pos (by decide)
      have p2 : (0 : Int) < 2 ^ k := Int.pow_pos (by decide)
      have p3 : (0 : Int) < j * 2 ^ k := Int.mul_pos hj p2
      have e' : i * 2 ^ (m + n) = t * (j * 2 ^ k) := by rw [e, Int.mul_assoc]
      constructor
      · constructor
        · intro h0; rw [h0, Int.zero_mul] at e'
          rcases Int.mul_eq_zero.mp e' with h | h
          · exact h
          · omega
        · intro h0; rw [h0, Int.zero_mul] at e'
          rcases Int.mul_eq_zero.mp e'.symm with h | h
          · exact h
          · omega
      · constructor
        · intro h0
          have : t * (j * 2 ^ k) < 0 := Int.mul_neg_of_neg_of_pos h0 p3
          rw [← e'] at this
          exact Int.lt_of_not_ge fun hh => Int.not_lt.mpr (Int.mul_nonneg hh (Int.le_of_lt p1)) this
        · intro h0
          have : i * 2 ^ (m + n) < 0 := Int.mul_neg_of_neg_of_pos h0 p1
          rw [e'] at this
          exact Int.lt_of_not_ge fun hh => Int.not_lt.mpr (Int.mul_nonneg hh (Int.le_of_lt p3)) this
    refine ratio_dy (Nat.pos_of_ne_zero hd) hb hn ?_ ?_
    · by_cases h0 : t = 0
      · exact Or.inl h0
      · refine Or.inr ?_
        rw [whole_sign hx' (fun h => h0 (sgn.1.mpr h))]
        exact decide_eq_decide.mpr sgn.2.symm
    · rw [Nat.mul_one, show q - r - -(n : Int) = q - r + (n : Int) by omega, show -(n : Int) - (q - r) = -(q - r + (n : Int)) by omega]
      obtain ⟨N1, h1⟩ : ∃ N : Nat, 0 ≤ q + (k : Int) + N ∧ 0 ≤ q + (N : Int) := ⟨(-q).toNat + (-(q + k)).toNat, by omega⟩
      obtain ⟨N2, h2⟩ : ∃ N : Nat, 0 ≤ r + (m : Int) + N ∧ 0 ≤ r + (N : Int) := ⟨(-r).toNat + (-(r + m)).toNat, by omega⟩
      obtain ⟨N3, h3⟩ : ∃ N : Nat, 0 ≤ q - r + (n : Int) + N := ⟨(-(q - r + n)).toNat, by omega⟩
      have b1 := (bal c i.natAbs (q + (k : Int)) N1 h1.1).mpr c1
      have b2 := (bal d j.natAbs (r + (m : Int)) N2 h2.1).mpr c2
      refine (bal c (t.natAbs * d) (q - r + (n : Int)) N3 h3).mp ?_
      obtain ⟨A, hA⟩ : ∃ A : Nat, (A : Int) = q + (k : Int) + N1 := ⟨(q + (k : Int) + N1).toNat, by omega⟩
      obtain ⟨D, hD⟩ : ∃ D : Nat, (D : Int) = r + (m : Int) + N2 := ⟨(r + (m : Int) + N2).toNat, by omega⟩
      obtain ⟨G, hG⟩ : ∃ G : Nat, (G : Int) = q - r + (n : Int) + N3 := ⟨(q - r + (n : Int) + N3).toNat, by omega⟩
      rw [show (q + (k : Int) + N1).toNat = A by omega] at b1
      rw [show (r + (m : Int) + N2).toNat = D by omega] at b2
      rw [show (q - r + (n : Int) + (N3 : Int)).toNat = G by omega]
      have hGD : G + D + (k + N1) = A + (m + n) + (N2 + N3) := by omega
      refine Nat.eq_of_mul_eq_mul_right (Nat.two_pow_pos (D + (k + N1))) ?_
      calc c * 2 ^ G * 2 ^ (D + (k + N1)) = c * 2 ^ (G + D + (k + N1)) := by rw [Nat.mul_assoc, ← Nat.pow_add, Nat.add_assoc]
        _ = c * 2 ^ A * (2 ^ (m + n) * 2 ^ (N2 + N3)) := by rw [hGD, Nat.pow_add, Nat.pow_add 2 A]; ac_rfl
        _ = i.natAbs * 2 ^ (m + n) * (2 ^ N1 * 2 ^ (N2 + N3)) := by rw [b1]; ac_rfl
        _ = t.natAbs * j.natAbs * 2 ^ k * (2 ^ N1 * 2 ^ (N2 + N3)) := by rw [ea]
        _ = t.natAbs * (j.natAbs * 2 ^ N2) * 2 ^ N3 * (2 ^ k * 2 ^ N1) := by rw [Nat.pow_add 2 N2]; ac_rfl
        _ = t.natAbs * d * 2 ^ N3 * 2 ^ (D + (k + N1)) := by rw [← b2, Nat.pow_add 2 D, Nat.pow_add 2 k]; ac_rfl
  exact ⟨_, ⟨rfl, dq_nn q⟩, q⟩
end Jvm.GoK
namespace Jvm.GoK
theorem dq_zero (k : Nat) : DQ k 0 0 := by
  have := dq_up k (dq_of_int dint_zero)
  exact dq_cast this (by omega) (by omega)
end Jvm.GoK
namespace Jvm.GoK
theorem sg_zero {i j : Int} (e : i = j) : sg i j = 0 := by subst e; simp [sg]
theorem cmpQ0 {k : Nat} {i j : Int} {x y : UInt64} (hx : DQ k i x) (hy : DQ k j y) (e : i = j) (o : ClassFile.CmpOp) : Op.cmpValue (FP.dcmp x y) o = 0 := (cmpQ hx hy o).trans (sg_zero e)
end Jvm.GoK
namespace Jvm.Pilot.@@N@@
open Jvm Jvm.ClassFile Sem Op Lib Jvm.Free Jvm.Stand Jvm.LawKit Jvm.RoadKit Bundle Jvm.GoK Jvm.Pilot.@@N@@.Jvm.D
theorem d1_0 : decode prog_167_method_1_code 0 = .ok (.aload_n 0, 1) := by decide +kernel
theorem d1_1 : decode prog_167_method_1_code 1 = .ok (.invokespecial 1, 3) := by decide +kernel
theorem d1_4 : decode prog_167_method_1_code 4 = .ok (.aload_n 0, 1) := by decide +kernel
theorem d1_5 : decode prog_167_method_1_code 5 = .ok (.sipush 1024, 3) := by decide +kernel
theorem d1_8 : decode prog_167_method_1_code 8 = .ok (.newarray .int, 2) := by decide +kernel
theorem d1_10 : decode prog_167_method_1_code 10 = .ok (.putfield 7, 3) := by decide +kernel
theorem d1_13 : decode prog_167_method_1_code 13 = .ok (.aload_n 0, 1) := by decide +kernel
theorem d1_14 : decode prog_167_method_1_code 14 = .ok (.sipush 1024, 3) := by decide +kernel
theorem d1_17 : decode prog_167_method_1_code 17 = .ok (.newarray .int, 2) := by decide +kernel
theorem d1_19 : decode prog_167_method_1_code 19 = .ok (.putfield 13, 3) := by decide +kernel
theorem d1_22 : decode prog_167_method_1_code 22 = .ok (.aload_n 0, 1) := by decide +kernel
theorem d1_23 : decode prog_167_method_1_code 23 = .ok (.sipush 1024, 3) := by decide +kernel
theorem d1_26 : decode prog_167_method_1_code 26 = .ok (.newarray .double, 2) := by decide +kernel
theorem d1_28 : decode prog_167_method_1_code 28 = .ok (.putfield 16, 3) := by decide +kernel
theorem d1_31 : decode prog_167_method_1_code 31 = .ok (.aload_n 0, 1) := by decide +kernel
theorem d1_32 : decode prog_167_method_1_code 32 = .ok (.sipush 1024, 3) := by decide +kernel
theorem d1_35 : decode prog_167_method_1_code 35 = .ok (.newarray .int, 2) := by decide +kernel
theorem d1_37 : decode prog_167_method_1_code 37 = .ok (.putfield 20, 3) := by decide +kernel
theorem d1_40 : decode prog_167_method_1_code 40 = .ok (.aload_n 0, 1) := by decide +kernel
theorem d1_41 : decode prog_167_method_1_code 41 = .ok (.sipush 1024, 3) := by decide +kernel
theorem d1_44 : decode prog_167_method_1_code 44 = .ok (.newarray .double, 2) := by decide +kernel
theorem d1_46 : decode prog_167_method_1_code 46 = .ok (.putfield 23, 3) := by decide +kernel
theorem d1_49 : decode prog_167_method_1_code 49 = .ok (.aload_n 0, 1) := by decide +kernel
theorem d1_50 : decode prog_167_method_1_code 50 = .ok (.sipush 1024, 3) := by decide +kernel
theorem d1_53 : decode prog_167_method_1_code 53 = .ok (.newarray .double, 2) := by decide +kernel
theorem d1_55 : decode prog_167_method_1_code 55 = .ok (.putfield 26, 3) := by decide +kernel
theorem d1_58 : decode prog_167_method_1_code 58 = .ok (.return_, 1) := by decide +kernel
theorem d3_0 : decode prog_167_method_2_code 0 = .ok (.aload_n 0, 1) := by decide +kernel
theorem d3_1 : decode prog_167_method_2_code 1 = .ok (.aload_n 0, 1) := by decide +kernel
theorem d3_2 : decode prog_167_method_2_code 2 = .ok (.getfield 7, 3) := by decide +kernel
theorem d3_5 : decode prog_167_method_2_code 5 = .ok (.aload_n 0, 1) := by decide +kernel
theorem d3_6 : decode prog_167_method_2_code 6 = .ok (.getfield 29, 3) := by decide +kernel
theorem d3_9 : decode prog_167_method_2_code 9 = .ok (.iconst 2, 1) := by decide +kernel
theorem d3_10 : decode prog_167_method_2_code 10 = .ok (.iadd, 1) := by decide +kernel
theorem d3_11 : decode prog_167_method_2_code 11 = .ok (.invokestatic 33, 3) := by decide +kernel
theorem d3_14 : decode prog_167_method_2_code 14 = .ok (.putfield 7, 3) := by decide +kernel
theorem d3_17 : decode prog_167_method_2_code 17 = .ok (.aload_n 0, 1) := by decide +kernel
theorem d3_18 : decode prog_167_method_2_code 18 = .ok (.dup, 1) := by decide +kernel
theorem d3_19 : decode prog_167_method_2_code 19 = .ok (.getfield 29, 3) := by decide +kernel
theorem d3_22 : decode prog_167_method_2_code 22 = .ok (.iconst 1, 1) := by decide +kernel
theorem d3_23 : decode prog_167_method_2_code 23 = .ok (.iadd, 1) := by decide +kernel
theorem d3_24 : decode prog_167_method_2_code 24 = .ok (.putfield 29, 3) := by decide +kernel
theorem d3_27 : decode prog_167_method_2_code 27 = .ok (.aload_n 0, 1) := by decide +kernel
theorem d3_28 : decode prog_167_method_2_code 28 = .ok (.getfield 7, 3) := by decide +kernel
theorem d3_31 : decode prog_167_method_2_code 31 = .ok (.aload_n 0, 1) := by decide +kernel
theorem d3_32 : decode prog_167_method_2_code 32 = .ok (.getfield 29, 3) := by decide +kernel
theorem d3_35 : decode prog_167_method_2_code 35 = .ok (.aload_n 0, 1) := by decide +kernel
theorem d3_36 : decode prog_167_method_2_code 36 = .ok (.getfield 37, 3) := by decide +kernel
theorem d3_39 : decode prog_167_method_2_code 39 = .ok (.iastore, 1) := by decide +kernel
theorem d3_40 : decode prog_167_method_2_code 40 = .ok (.return_, 1) := by decide +kernel
theorem d4_0 : decode prog_167_method_33_code 0 = .ok (.iload_n 1, 1) := by decide +kernel
theorem d4_1 : decode prog_167_method_33_code 1 = .ok (.aload_n 0, 1) := by decide +kernel
theorem d4_2 : decode prog_167_method_33_code 2 = .ok (.arraylength, 1) := by decide +kernel
theorem d4_3 : decode prog_167_method_33_code 3 = .ok (.if_icmp .gt 7, 3) := by decide +kernel
theorem d4_6 : decode prog_167_method_33_code 6 = .ok (.aload_n 0, 1) := by decide +kernel
theorem d4_7 : decode prog_167_method_33_code 7 = .ok (.goto 15, 3) := by decide +kernel
theorem d4_10 : decode prog_167_method_33_code 10 = .ok (.aload_n 0, 1) := by decide +kernel
theorem d4_11 : decode prog_167_method_33_code 11 = .ok (.iload_n 1, 1) := by decide +kernel
theorem d4_12 : decode prog_167_method_33_code 12 = .ok (.iconst 2, 1) := by decide +kernel
theorem d4_13 : decode prog_167_method_33_code 13 = .ok (.aload_n 0, 1) := by decide +kernel
theorem d4_14 : decode prog_167_method_33_code 14 = .ok (.arraylength, 1) := by decide +kernel
theorem d4_15 : decode prog_167_method_33_code 15 = .ok (.imul, 1) := by decide +kernel
theorem d4_16 : decode prog_167_method_33_code 16 = .ok (.invokestatic 67, 3) := by decide +kernel
theorem d4_19 : decode prog_167_method_33_code 19 = .ok (.invokestatic 221, 3) := by decide +kernel
theorem d4_22 : decode prog_167_method_33_code 22 = .ok (.areturn, 1) := by decide +kernel
theorem d5_0 : decode prog_167_method_3_code 0 = .ok (.aload_n 0, 1) := by decide +kernel
theorem d5_1 : decode prog_167_method_3_code 1 = .ok (.aload_n 0, 1) := by decide +kernel
theorem d5_2 : decode prog_167_method_3_code 2 = .ok (.getfield 13, 3) := by decide +kernel
theorem d5_5 : decode prog_167_method_3_code 5 = .ok (.aload_n 0, 1) := by decide +kernel
theorem d5_6 : decode prog_167_method_3_code 6 = .ok (.getfield 37, 3) := by decide +kernel
theorem d5_9 : decode prog_167_method_3_code 9 = .ok (.iconst 2, 1) := by decide +kernel
theorem d5_10 : decode prog_167_method_3_code 10 = .ok (.iadd, 1) := by decide +kernel
theorem d5_11 : decode prog_167_method_3_code 11 = .ok (.invokestatic 33, 3) := by decide +kernel
theorem d5_14 : decode prog_167_method_3_code 14 = .ok (.putfield 13, 3) := by decide +kernel
theorem d5_17 : decode prog_167_method_3_code 17 = .ok (.aload_n 0, 1) := by decide +kernel
theorem d5_18 : decode prog_167_method_3_code 18 = .ok (.aload_n 0, 1) := by decide +kernel
theorem d5_19 : decode prog_167_method_3_code 19 = .ok (.getfield 16, 3) := by decide +kernel
theorem d5_22 : decode prog_167_method_3_code 22 = .ok (.aload_n 0, 1) := by decide +kernel
theorem d5_23 : decode prog_167_method_3_code 23 = .ok (.getfield 37, 3) := by decide +kernel
theorem d5_26 : decode prog_167_method_3_code 26 = .ok (.iconst 1, 1) := by decide +kernel
theorem d5_27 : decode prog_167_method_3_code 27 = .ok (.iadd, 1) := by decide +kernel
theorem d5_28 : decode prog_167_method_3_code 28 = .ok (.invokestatic 40, 3) := by decide +kernel
theorem d5_31 : decode prog_167_method_3_code 31 = .ok (.putfield 16, 3) := by decide +kernel
theorem d5_34 : decode prog_167_method_3_code 34 = .ok (.aload_n 0, 1) := by decide +kernel
theorem d5_35 : decode prog_167_method_3_code 35 = .ok (.getfield 16, 3) := by decide +kernel
theorem d5_38 : decode prog_167_method_3_code 38 = .ok (.aload_n 0, 1) := by decide +kernel
theorem d5_39 : decode prog_167_method_3_code 39 = .ok (.getfield 37, 3) := by decide +kernel
theorem d5_42 : decode prog_167_method_3_code 42 = .ok (.dconst 0, 1) := by decide +kernel
theorem d5_43 : decode prog_167_method_3_code 43 = .ok (.dastore, 1) := by decide +kernel
theorem d5_44 : decode prog_167_method_3_code 44 = .ok (.aload_n 0, 1) := by decide +kernel
theorem d5_45 : decode prog_167_method_3_code 45 = .ok (.aload_n 0, 1) := by decide +kernel
theorem d5_46 : decode prog_167_method_3_code 46 = .ok (.getfield 26, 3) := by decide +kernel
theorem d5_49 : decode prog_167_method_3_code 49 = .ok (.aload_n 0, 1) := by decide +kernel
theorem d5_50 : decode prog_167_method_3_code 50 = .ok (.getfield 37, 3) := by decide +kernel
theorem d5_53 : decode prog_167_method_3_code 53 = .ok (.iconst 1, 1) := by decide +kernel
theorem d5_54 : decode prog_167_method_3_code 54 = .ok (.iadd, 1) := by decide +kernel
theorem d5_55 : decode prog_167_method_3_code 55 = .ok (.invokestatic 40, 3) := by decide +kernel
theorem d5_58 : decode prog_167_method_3_code 58 = .ok (.putfield 26, 3) := by decide +kernel
theorem d5_61 : decode prog_167_method_3_code 61 = .ok (.aload_n 0, 1) := by decide +kernel
theorem d5_62 : decode prog_167_method_3_code 62 = .ok (.getfield 26, 3) := by decide +kernel
theorem d5_65 : decode prog_167_method_3_code 65 = .ok (.aload_n 0, 1) := by decide +kernel
theorem d5_66 : decode prog_167_method_3_code 66 = .ok (.getfield 37, 3) := by decide +kernel
theorem d5_69 : decode prog_167_method_3_code 69 = .ok (.dconst 0, 1) := by decide +kernel
theorem d5_70 : decode prog_167_method_3_code 70 = .ok (.dastore, 1) := by decide +kernel
theorem d5_71 : decode prog_167_method_3_code 71 = .ok (.aload_n 0, 1) := by decide +kernel
theorem d5_72 : decode prog_167_method_3_code 72 = .ok (.dup, 1) := by decide +kernel
theorem d5_73 : decode prog_167_method_3_code 73 = .ok (.getfield 37, 3) := by decide +kernel
theorem d5_76 : decode prog_167_method_3_code 76 = .ok (.iconst 1, 1) := by decide +kernel
theorem d5_77 : decode prog_167_method_3_code 77 = .ok (.iadd, 1) := by decide +kernel
theorem d5_78 : decode prog_167_method_3_code 78 = .ok (.putfield 37, 3) := by decide +kernel
theorem d5_81 : decode prog_167_method_3_code 81 = .ok (.aload_n 0, 1) := by decide +kernel
theorem d5_82 : decode prog_167_method_3_code 82 = .ok (.getfield 13, 3) := by decide +kernel
theorem d5_85 : decode prog_167_method_3_code 85 = .ok (.aload_n 0, 1) := by decide +kernel
theorem d5_86 : decode prog_167_method_3_code 86 = .ok (.getfield 37, 3) := by decide +kernel
theorem d5_89 : decode prog_167_method_3_code 89 = .ok (.aload_n 0, 1) := by decide +kernel
theorem d5_90 : decode prog_167_method_3_code 90 = .ok (.getfield 43, 3) := by decide +kernel
theorem d5_93 : decode prog_167_method_3_code 93 = .ok (.iastore, 1) := by decide +kernel
theorem d5_94 : decode prog_167_method_3_code 94 = .ok (.aload_n 0, 1) := by decide +kernel
theorem d5_95 : decode prog_167_method_3_code 95 = .ok (.getfield 7, 3) := by decide +kernel
theorem d5_98 : decode prog_167_method_3_code 98 = .ok (.aload_n 0, 1) := by decide +kernel
theorem d5_99 : decode prog_167_method_3_code 99 = .ok (.getfield 29, 3) := by decide +kernel
theorem d5_102 : decode prog_167_method_3_code 102 = .ok (.aload_n 0, 1) := by decide +kernel
theorem d5_103 : decode prog_167_method_3_code 103 = .ok (.getfield 37, 3) := by decide +kernel
theorem d5_106 : decode prog_167_method_3_code 106 = .ok (.iastore, 1) := by decide +kernel
theorem d5_107 : decode prog_167_method_3_code 107 = .ok (.return_, 1) := by decide +kernel
theorem d6_0 : decode prog_167_method_34_code 0 = .ok (.iload_n 1, 1) := by decide +kernel
theorem d6_1 : decode prog_167_method_34_code 1 = .ok (.aload_n 0, 1) := by decide +kernel
theorem d6_2 : decode prog_167_method_34_code 2 = .ok (.arraylength, 1) := by decide +kernel
theorem d6_3 : decode prog_167_method_34_code 3 = .ok (.if_icmp .gt 7, 3) := by decide +kernel
theorem d6_6 : decode prog_167_method_34_code 6 = .ok (.aload_n 0, 1) := by decide +kernel
theorem d6_7 : decode prog_167_method_34_code 7 = .ok (.goto 15, 3) := by decide +kernel
theorem d6_10 : decode prog_167_method_34_code 10 = .ok (.aload_n 0, 1) := by decide +kernel
theorem d6_11 : decode prog_167_method_34_code 11 = .ok (.iload_n 1, 1) := by decide +kernel
theorem d6_12 : decode prog_167_method_34_code 12 = .ok (.iconst 2, 1) := by decide +kernel
theorem d6_13 : decode prog_167_method_34_code 13 = .ok (.aload_n 0, 1) := by decide +kernel
theorem d6_14 : decode prog_167_method_34_code 14 = .ok (.arraylength, 1) := by decide +kernel
theorem d6_15 : decode prog_167_method_34_code 15 = .ok (.imul, 1) := by decide +kernel
theorem d6_16 : decode prog_167_method_34_code 16 = .ok (.invokestatic 67, 3) := by decide +kernel
theorem d6_19 : decode prog_167_method_34_code 19 = .ok (.invokestatic 224, 3) := by decide +kernel
theorem d6_22 : decode prog_167_method_34_code 22 = .ok (.areturn, 1) := by decide +kernel
theorem d7_0 : decode prog_167_method_4_code 0 = .ok (.aload_n 0, 1) := by decide +kernel
theorem d7_1 : decode prog_167_method_4_code 1 = .ok (.getfield 16, 3) := by decide +kernel
theorem d7_4 : decode prog_167_method_4_code 4 = .ok (.aload_n 0, 1) := by decide +kernel
theorem d7_5 : decode prog_167_method_4_code 5 = .ok (.getfield 37, 3) := by decide +kernel
theorem d7_8 : decode prog_167_method_4_code 8 = .ok (.iconst 1, 1) := by decide +kernel
theorem d7_9 : decode prog_167_method_4_code 9 = .ok (.isub, 1) := by decide +kernel
theorem d7_10 : decode prog_167_method_4_code 10 = .ok (.dup2, 1) := by decide +kernel
theorem d7_11 : decode prog_167_method_4_code 11 = .ok (.daload, 1) := by decide +kernel
theorem d7_12 : decode prog_167_method_4_code 12 = .ok (.dload_n 1, 1) := by decide +kernel
theorem d7_13 : decode prog_167_method_4_code 13 = .ok (.dadd, 1) := by decide +kernel
theorem d7_14 : decode prog_167_method_4_code 14 = .ok (.dastore, 1) := by decide +kernel
theorem d7_15 : decode prog_167_method_4_code 15 = .ok (.return_, 1) := by decide +kernel
theorem d8_0 : decode prog_167_method_5_code 0 = .ok (.aload_n 0, 1) := by decide +kernel
theorem d8_1 : decode prog_167_method_5_code 1 = .ok (.getfield 26, 3) := by decide +kernel
theorem d8_4 : decode prog_167_method_5_code 4 = .ok (.aload_n 0, 1) := by decide +kernel
theorem d8_5 : decode prog_167_method_5_code 5 = .ok (.getfield 37, 3) := by decide +kernel
theorem d8_8 : decode prog_167_method_5_code 8 = .ok (.iconst 1, 1) := by decide +kernel
theorem d8_9 : decode prog_167_method_5_code 9 = .ok (.isub, 1) := by decide +kernel
theorem d8_10 : decode prog_167_method_5_code 10 = .ok (.dup2, 1) := by decide +kernel
theorem d8_11 : decode prog_167_method_5_code 11 = .ok (.daload, 1) := by decide +kernel
theorem d8_12 : decode prog_167_method_5_code 12 = .ok (.dload_n 1, 1) := by decide +kernel
theorem d8_13 : decode prog_167_method_5_code 13 = .ok (.dadd, 1) := by decide +kernel
theorem d8_14 : decode prog_167_method_5_code 14 = .ok (.dastore, 1) := by decide +kernel
theorem d8_15 : decode prog_167_method_5_code 15 = .ok (.return_, 1) := by decide +kernel
theorem d9_0 : decode prog_167_method_6_code 0 = .ok (.aload_n 0, 1) := by decide +kernel
theorem d9_1 : decode prog_167_method_6_code 1 = .ok (.aload_n 0, 1) := by decide +kernel
theorem d9_2 : decode prog_167_method_6_code 2 = .ok (.getfield 20, 3) := by decide +kernel
theorem d9_5 : decode prog_167_method_6_code 5 = .ok (.aload_n 0, 1) := by decide +kernel
theorem d9_6 : decode prog_167_method_6_code 6 = .ok (.getfield 43, 3) := by decide +kernel
theorem d9_9 : decode prog_167_method_6_code 9 = .ok (.iconst 1, 1) := by decide +kernel
theorem d9_10 : decode prog_167_method_6_code 10 = .ok (.iadd, 1) := by decide +kernel
theorem d9_11 : decode prog_167_method_6_code 11 = .ok (.invokestatic 33, 3) := by decide +kernel
theorem d9_14 : decode prog_167_method_6_code 14 = .ok (.putfield 20, 3) := by decide +kernel
theorem d9_17 : decode prog_167_method_6_code 17 = .ok (.aload_n 0, 1) := by decide +kernel
theorem d9_18 : decode prog_167_method_6_code 18 = .ok (.aload_n 0, 1) := by decide +kernel
theorem d9_19 : decode prog_167_method_6_code 19 = .ok (.getfield 23, 3) := by decide +kernel
theorem d9_22 : decode prog_167_method_6_code 22 = .ok (.aload_n 0, 1) := by decide +kernel
theorem d9_23 : decode prog_167_method_6_code 23 = .ok (.getfield 43, 3) := by decide +kernel
theorem d9_26 : decode prog_167_method_6_code 26 = .ok (.iconst 1, 1) := by decide +kernel
theorem d9_27 : decode prog_167_method_6_code 27 = .ok (.iadd, 1) := by decide +kernel
theorem d9_28 : decode prog_167_method_6_code 28 = .ok (.invokestatic 40, 3) := by decide +kernel
theorem d9_31 : decode prog_167_method_6_code 31 = .ok (.putfield 23, 3) := by decide +kernel
theorem d9_34 : decode prog_167_method_6_code 34 = .ok (.aload_n 0, 1) := by decide +kernel
theorem d9_35 : decode prog_167_method_6_code 35 = .ok (.getfield 20, 3) := by decide +kernel
theorem d9_38 : decode prog_167_method_6_code 38 = .ok (.aload_n 0, 1) := by decide +kernel
theorem d9_39 : decode prog_167_method_6_code 39 = .ok (.getfield 43, 3) := by decide +kernel
theorem d9_42 : decode prog_167_method_6_code 42 = .ok (.iload_n 1, 1) := by decide +kernel
theorem d9_43 : decode prog_167_method_6_code 43 = .ok (.iastore, 1) := by decide +kernel
theorem d9_44 : decode prog_167_method_6_code 44 = .ok (.aload_n 0, 1) := by decide +kernel
theorem d9_45 : decode prog_167_method_6_code 45 = .ok (.getfield 23, 3) := by decide +kernel
theorem d9_48 : decode prog_167_method_6_code 48 = .ok (.aload_n 0, 1) := by decide +kernel
theorem d9_49 : decode prog_167_method_6_code 49 = .ok (.getfield 43, 3) := by decide +kernel
theorem d9_52 : decode prog_167_method_6_code 52 = .ok (.dload_n 2, 1) := by decide +kernel
theorem d9_53 : decode prog_167_method_6_code 53 = .ok (.dastore, 1) := by decide +kernel
theorem d9_54 : decode prog_167_method_6_code 54 = .ok (.aload_n 0, 1) := by decide +kernel
theorem d9_55 : decode prog_167_method_6_code 55 = .ok (.dup, 1) := by decide +kernel
theorem d9_56 : decode prog_167_method_6_code 56 = .ok (.getfield 43, 3) := by decide +kernel
theorem d9_59 : decode prog_167_method_6_code 59 = .ok (.iconst 1, 1) := by decide +kernel
theorem d9_60 : decode prog_167_method_6_code 60 = .ok (.iadd, 1) := by decide +kernel
theorem d9_61 : decode prog_167_method_6_code 61 = .ok (.putfield 43, 3) := by decide +kernel
theorem d9_64 : decode prog_167_method_6_code 64 = .ok (.aload_n 0, 1) := by decide +kernel
theorem d9_65 : decode prog_167_method_6_code 65 = .ok (.getfield 13, 3) := by decide +kernel
theorem d9_68 : decode prog_167_method_6_code 68 = .ok (.aload_n 0, 1) := by decide +kernel
theorem d9_69 : decode prog_167_method_6_code 69 = .ok (.getfield 37, 3) := by decide +kernel
theorem d9_72 : decode prog_167_method_6_code 72 = .ok (.aload_n 0, 1) := by decide +kernel
theorem d9_73 : decode prog_167_method_6_code 73 = .ok (.getfield 43, 3) := by decide +kernel
theorem d9_76 : decode prog_167_method_6_code 76 = .ok (.iastore, 1) := by decide +kernel
theorem d9_77 : decode prog_167_method_6_code 77 = .ok (.return_, 1) := by decide +kernel
theorem d10_0 : decode prog_167_method_28_code 0 = .ok (.aload_n 0, 1) := by decide +kernel
theorem d10_1 : decode prog_167_method_28_code 1 = .ok (.getfield 199, 3) := by decide +kernel
theorem d10_4 : decode prog_167_method_28_code 4 = .ok (.ifCond .eq 4, 3) := by decide +kernel
theorem d10_7 : decode prog_167_method_28_code 7 = .ok (.return_, 1) := by decide +kernel
theorem d10_8 : decode prog_167_method_28_code 8 = .ok (.aload_n 0, 1) := by decide +kernel
theorem d10_9 : decode prog_167_method_28_code 9 = .ok (.iconst 1, 1) := by decide +kernel
theorem d10_10 : decode prog_167_method_28_code 10 = .ok (.putfield 199, 3) := by decide +kernel
theorem d10_13 : decode prog_167_method_28_code 13 = .ok (.iconst 0, 1) := by decide +kernel
theorem d10_14 : decode prog_167_method_28_code 14 = .ok (.istore_n 1, 1) := by decide +kernel
theorem d10_15 : decode prog_167_method_28_code 15 = .ok (.iconst 0, 1) := by decide +kernel
theorem d10_16 : decode prog_167_method_28_code 16 = .ok (.istore_n 2, 1) := by decide +kernel
theorem d10_17 : decode prog_167_method_28_code 17 = .ok (.iload_n 2, 1) := by decide +kernel
theorem d10_18 : decode prog_167_method_28_code 18 = .ok (.aload_n 0, 1) := by decide +kernel
theorem d10_19 : decode prog_167_method_28_code 19 = .ok (.getfield 29, 3) := by decide +kernel
theorem d10_22 : decode prog_167_method_28_code 22 = .ok (.if_icmp .ge 254, 3) := by decide +kernel
theorem d10_25 : decode prog_167_method_28_code 25 = .ok (.aload_n 0, 1) := by decide +kernel
theorem d10_26 : decode prog_167_method_28_code 26 = .ok (.getfield 7, 3) := by decide +kernel
theorem d10_29 : decode prog_167_method_28_code 29 = .ok (.iload_n 2, 1) := by decide +kernel
theorem d10_30 : decode prog_167_method_28_code 30 = .ok (.iaload, 1) := by decide +kernel
theorem d10_31 : decode prog_167_method_28_code 31 = .ok (.istore_n 3, 1) := by decide +kernel
theorem d10_32 : decode prog_167_method_28_code 32 = .ok (.iload_n 3, 1) := by decide +kernel
theorem d10_33 : decode prog_167_method_28_code 33 = .ok (.aload_n 0, 1) := by decide +kernel
theorem d10_34 : decode prog_167_method_28_code 34 = .ok (.getfield 7, 3) := by decide +kernel
theorem d10_37 : decode prog_167_method_28_code 37 = .ok (.iload_n 2, 1) := by decide +kernel
theorem d10_38 : decode prog_167_method_28_code 38 = .ok (.iconst 1, 1) := by decide +kernel
theorem d10_39 : decode prog_167_method_28_code 39 = .ok (.iadd, 1) := by decide +kernel
theorem d10_40 : decode prog_167_method_28_code 40 = .ok (.iaload, 1) := by decide +kernel
theorem d10_41 : decode prog_167_method_28_code 41 = .ok (.if_icmp .ge 229, 3) := by decide +kernel
theorem d10_44 : decode prog_167_method_28_code 44 = .ok (.dconst 0, 1) := by decide +kernel
theorem d10_45 : decode prog_167_method_28_code 45 = .ok (.dstore 4, 2) := by decide +kernel
theorem d10_47 : decode prog_167_method_28_code 47 = .ok (.aload_n 0, 1) := by decide +kernel
theorem d10_48 : decode prog_167_method_28_code 48 = .ok (.getfield 26, 3) := by decide +kernel
theorem d10_51 : decode prog_167_method_28_code 51 = .ok (.iload_n 3, 1) := by decide +kernel
theorem d10_52 : decode prog_167_method_28_code 52 = .ok (.daload, 1) := by decide +kernel
theorem d10_53 : decode prog_167_method_28_code 53 = .ok (.dstore 6, 2) := by decide +kernel
theorem d10_55 : decode prog_167_method_28_code 55 = .ok (.aload_n 0, 1) := by decide +kernel
theorem d10_56 : decode prog_167_method_28_code 56 = .ok (.getfield 13, 3) := by decide +kernel
theorem d10_59 : decode prog_167_method_28_code 59 = .ok (.iload_n 3, 1) := by decide +kernel
theorem d10_60 : decode prog_167_method_28_code 60 = .ok (.iaload, 1) := by decide +kernel
theorem d10_61 : decode prog_167_method_28_code 61 = .ok (.istore 8, 2) := by decide +kernel
theorem d10_63 : decode prog_167_method_28_code 63 = .ok (.iload 8, 2) := by decide +kernel
theorem d10_65 : decode prog_167_method_28_code 65 = .ok (.aload_n 0, 1) := by decide +kernel
theorem d10_66 : decode prog_167_method_28_code 66 = .ok (.getfield 13, 3) := by decide +kernel
theorem d10_69 : decode prog_167_method_28_code 69 = .ok (.iload_n 3, 1) := by decide +kernel
theorem d10_70 : decode prog_167_method_28_code 70 = .ok (.iconst 1, 1) := by decide +kernel
theorem d10_71 : decode prog_167_method_28_code 71 = .ok (.iadd, 1) := by decide +kernel
theorem d10_72 : decode prog_167_method_28_code 72 = .ok (.iaload, 1) := by decide +kernel
theorem d10_73 : decode prog_167_method_28_code 73 = .ok (.if_icmp .ge 47, 3) := by decide +kernel
theorem d10_76 : decode prog_167_method_28_code 76 = .ok (.aload_n 0, 1) := by decide +kernel
theorem d10_77 : decode prog_167_method_28_code 77 = .ok (.getfield 20, 3) := by decide +kernel
theorem d10_80 : decode prog_167_method_28_code 80 = .ok (.iload 8, 2) := by decide +kernel
theorem d10_82 : decode prog_167_method_28_code 82 = .ok (.iaload, 1) := by decide +kernel
theorem d10_83 : decode prog_167_method_28_code 83 = .ok (.iload_n 2, 1) := by decide +kernel
theorem d10_84 : decode prog_167_method_28_code 84 = .ok (.if_icmp .ne 18, 3) := by decide +kernel
theorem d10_87 : decode prog_167_method_28_code 87 = .ok (.dload 4, 2) := by decide +kernel
theorem d10_89 : decode prog_167_method_28_code 89 = .ok (.aload_n 0, 1) := by decide +kernel
theorem d10_90 : decode prog_167_method_28_code 90 = .ok (.getfield 23, 3) := by decide +kernel
theorem d10_93 : decode prog_167_method_28_code 93 = .ok (.iload 8, 2) := by decide +kernel
theorem d10_95 : decode prog_167_method_28_code 95 = .ok (.daload, 1) := by decide +kernel
theorem d10_96 : decode prog_167_method_28_code 96 = .ok (.dadd, 1) := by decide +kernel
theorem d10_97 : decode prog_167_method_28_code 97 = .ok (.dstore 4, 2) := by decide +kernel
theorem d10_99 : decode prog_167_method_28_code 99 = .ok (.goto 15, 3) := by decide +kernel
theorem d10_102 : decode prog_167_method_28_code 102 = .ok (.dload 6, 2) := by decide +kernel
theorem d10_104 : decode prog_167_method_28_code 104 = .ok (.aload_n 0, 1) := by decide +kernel
theorem d10_105 : decode prog_167_method_28_code 105 = .ok (.getfield 23, 3) := by decide +kernel
theorem d10_108 : decode prog_167_method_28_code 108 = .ok (.iload 8, 2) := by decide +kernel
theorem d10_110 : decode prog_167_method_28_code 110 = .ok (.daload, 1) := by decide +kernel
theorem d10_111 : decode prog_167_method_28_code 111 = .ok (.dadd, 1) := by decide +kernel
theorem d10_112 : decode prog_167_method_28_code 112 = .ok (.dstore 6, 2) := by decide +kernel
theorem d10_114 : decode prog_167_method_28_code 114 = .ok (.iinc 8 1, 3) := by decide +kernel
theorem d10_117 : decode prog_167_method_28_code 117 = .ok (.goto (-54), 3) := by decide +kernel
theorem d10_120 : decode prog_167_method_28_code 120 = .ok (.dload 4, 2) := by decide +kernel
theorem d10_122 : decode prog_167_method_28_code 122 = .ok (.dconst 0, 1) := by decide +kernel
theorem d10_123 : decode prog_167_method_28_code 123 = .ok (.dcmp .l, 1) := by decide +kernel
theorem d10_124 : decode prog_167_method_28_code 124 = .ok (.ifCond .le 14, 3) := by decide +kernel
theorem d10_127 : decode prog_167_method_28_code 127 = .ok (.dload 6, 2) := by decide +kernel
theorem d10_129 : decode prog_167_method_28_code 129 = .ok (.dconst 0, 1) := by decide +kernel
theorem d10_130 : decode prog_167_method_28_code 130 = .ok (.dcmp .l, 1) := by decide +kernel
theorem d10_131 : decode prog_167_method_28_code 131 = .ok (.ifCond .le 7, 3) := by decide +kernel
theorem d10_134 : decode prog_167_method_28_code 134 = .ok (.iconst 1, 1) := by decide +kernel
theorem d10_135 : decode prog_167_method_28_code 135 = .ok (.goto 4, 3) := by decide +kernel
theorem d10_138 : decode prog_167_method_28_code 138 = .ok (.iconst 0, 1) := by decide +kernel
theorem d10_139 : decode prog_167_method_28_code 139 = .ok (.istore 8, 2) := by decide +kernel
theorem d10_141 : decode prog_167_method_28_code 141 = .ok (.iload 8, 2) := by decide +kernel
theorem d10_143 : decode prog_167_method_28_code 143 = .ok (.ifCond .eq 10, 3) := by decide +kernel
theorem d10_146 : decode prog_167_method_28_code 146 = .ok (.dconst 1, 1) := by decide +kernel
theorem d10_147 : decode prog_167_method_28_code 147 = .ok (.dload 6, 2) := by decide +kernel
theorem d10_149 : decode prog_167_method_28_code 149 = .ok (.ddiv, 1) := by decide +kernel
theorem d10_150 : decode prog_167_method_28_code 150 = .ok (.goto 4, 3) := by decide +kernel
theorem d10_153 : decode prog_167_method_28_code 153 = .ok (.dconst 1, 1) := by decide +kernel
theorem d10_154 : decode prog_167_method_28_code 154 = .ok (.dstore 9, 2) := by decide +kernel
theorem d10_156 : decode prog_167_method_28_code 156 = .ok (.aload_n 0, 1) := by decide +kernel
theorem d10_157 : decode prog_167_method_28_code 157 = .ok (.getfield 16, 3) := by decide +kernel
theorem d10_160 : decode prog_167_method_28_code 160 = .ok (.iload_n 3, 1) := by decide +kernel
theorem d10_161 : decode prog_167_method_28_code 161 = .ok (.dup2, 1) := by decide +kernel
theorem d10_162 : decode prog_167_method_28_code 162 = .ok (.daload, 1) := by decide +kernel
theorem d10_163 : decode prog_167_method_28_code 163 = .ok (.dload 9, 2) := by decide +kernel
theorem d10_165 : decode prog_167_method_28_code 165 = .ok (.dmul, 1) := by decide +kernel
theorem d10_166 : decode prog_167_method_28_code 166 = .ok (.dastore, 1) := by decide +kernel
theorem d10_167 : decode prog_167_method_28_code 167 = .ok (.aload_n 0, 1) := by decide +kernel
theorem d10_168 : decode prog_167_method_28_code 168 = .ok (.getfield 26, 3) := by decide +kernel
theorem d10_171 : decode prog_167_method_28_code 171 = .ok (.iload_n 3, 1) := by decide +kernel
theorem d10_172 : decode prog_167_method_28_code 172 = .ok (.dup2, 1) := by decide +kernel
theorem d10_173 : decode prog_167_method_28_code 173 = .ok (.daload, 1) := by decide +kernel
theorem d10_174 : decode prog_167_method_28_code 174 = .ok (.dload 9, 2) := by decide +kernel
theorem d10_176 : decode prog_167_method_28_code 176 = .ok (.dmul, 1) := by decide +kernel
theorem d10_177 : decode prog_167_method_28_code 177 = .ok (.dastore, 1) := by decide +kernel
theorem d10_178 : decode prog_167_method_28_code 178 = .ok (.iload_n 1, 1) := by decide +kernel
theorem d10_179 : decode prog_167_method_28_code 179 = .ok (.istore 11, 2) := by decide +kernel
theorem d10_181 : decode prog_167_method_28_code 181 = .ok (.aload_n 0, 1) := by decide +kernel
theorem d10_182 : decode prog_167_method_28_code 182 = .ok (.getfield 13, 3) := by decide +kernel
theorem d10_185 : decode prog_167_method_28_code 185 = .ok (.iload_n 3, 1) := by decide +kernel
theorem d10_186 : decode prog_167_method_28_code 186 = .ok (.iaload, 1) := by decide +kernel
theorem d10_187 : decode prog_167_method_28_code 187 = .ok (.istore 12, 2) := by decide +kernel
theorem d10_189 : decode prog_167_method_28_code 189 = .ok (.iload 12, 2) := by decide +kernel
theorem d10_191 : decode prog_167_method_28_code 191 = .ok (.aload_n 0, 1) := by decide +kernel
theorem d10_192 : decode prog_167_method_28_code 192 = .ok (.getfield 13, 3) := by decide +kernel
theorem d10_195 : decode prog_167_method_28_code 195 = .ok (.iload_n 3, 1) := by decide +kernel
theorem d10_196 : decode prog_167_method_28_code 196 = .ok (.iconst 1, 1) := by decide +kernel
theorem d10_197 : decode prog_167_method_28_code 197 = .ok (.iadd, 1) := by decide +kernel
theorem d10_198 : decode prog_167_method_28_code 198 = .ok (.iaload, 1) := by decide +kernel
theorem d10_199 : decode prog_167_method_28_code 199 = .ok (.if_icmp .ge 57, 3) := by decide +kernel
theorem d10_202 : decode prog_167_method_28_code 202 = .ok (.iload 8, 2) := by decide +kernel
theorem d10_204 : decode prog_167_method_28_code 204 = .ok (.ifCond .eq 14, 3) := by decide +kernel
theorem d10_207 : decode prog_167_method_28_code 207 = .ok (.aload_n 0, 1) := by decide +kernel
theorem d10_208 : decode prog_167_method_28_code 208 = .ok (.getfield 20, 3) := by decide +kernel
theorem d10_211 : decode prog_167_method_28_code 211 = .ok (.iload 12, 2) := by decide +kernel
theorem d10_213 : decode prog_167_method_28_code 213 = .ok (.iaload, 1) := by decide +kernel
theorem d10_214 : decode prog_167_method_28_code 214 = .ok (.iload_n 2, 1) := by decide +kernel
theorem d10_215 : decode prog_167_method_28_code 215 = .ok (.if_icmp .eq 35, 3) := by decide +kernel
theorem d10_218 : decode prog_167_method_28_code 218 = .ok (.aload_n 0, 1) := by decide +kernel
theorem d10_219 : decode prog_167_method_28_code 219 = .ok (.getfield 20, 3) := by decide +kernel
theorem d10_222 : decode prog_167_method_28_code 222 = .ok (.iload_n 1, 1) := by decide +kernel
theorem d10_223 : decode prog_167_method_28_code 223 = .ok (.aload_n 0, 1) := by decide +kernel
theorem d10_224 : decode prog_167_method_28_code 224 = .ok (.getfield 20, 3) := by decide +kernel
theorem d10_227 : decode prog_167_method_28_code 227 = .ok (.iload 12, 2) := by decide +kernel
theorem d10_229 : decode prog_167_method_28_code 229 = .ok (.iaload, 1) := by decide +kernel
theorem d10_230 : decode prog_167_method_28_code 230 = .ok (.iastore, 1) := by decide +kernel
theorem d10_231 : decode prog_167_method_28_code 231 = .ok (.aload_n 0, 1) := by decide +kernel
theorem d10_232 : decode prog_167_method_28_code 232 = .ok (.getfield 23, 3) := by decide +kernel
theorem d10_235 : decode prog_167_method_28_code 235 = .ok (.iload_n 1, 1) := by decide +kernel
theorem d10_236 : decode prog_167_method_28_code 236 = .ok (.aload_n 0, 1) := by decide +kernel
theorem d10_237 : decode prog_167_method_28_code 237 = .ok (.getfield 23, 3) := by decide +kernel
theorem d10_240 : decode prog_167_method_28_code 240 = .ok (.iload 12, 2) := by decide +kernel
theorem d10_242 : decode prog_167_method_28_code 242 = .ok (.daload, 1) := by decide +kernel
theorem d10_243 : decode prog_167_method_28_code 243 = .ok (.dload 9, 2) := by decide +kernel
theorem d10_245 : decode prog_167_method_28_code 245 = .ok (.dmul, 1) := by decide +kernel
theorem d10_246 : decode prog_167_method_28_code 246 = .ok (.dastore, 1) := by decide +kernel
theorem d10_247 : decode prog_167_method_28_code 247 = .ok (.iinc 1 1, 3) := by decide +kernel
theorem d10_250 : decode prog_167_method_28_code 250 = .ok (.iinc 12 1, 3) := by decide +kernel
theorem d10_253 : decode prog_167_method_28_code 253 = .ok (.goto (-64), 3) := by decide +kernel
theorem d10_256 : decode prog_167_method_28_code 256 = .ok (.aload_n 0, 1) := by decide +kernel
theorem d10_257 : decode prog_167_method_28_code 257 = .ok (.getfield 13, 3) := by decide +kernel
theorem d10_260 : decode prog_167_method_28_code 260 = .ok (.iload_n 3, 1) := by decide +kernel
theorem d10_261 : decode prog_167_method_28_code 261 = .ok (.iload 11, 2) := by decide +kernel
theorem d10_263 : decode prog_167_method_28_code 263 = .ok (.iastore, 1) := by decide +kernel
theorem d10_264 : decode prog_167_method_28_code 264 = .ok (.iinc 3 1, 3) := by decide +kernel
theorem d10_267 : decode prog_167_method_28_code 267 = .ok (.goto (-235), 3) := by decide +kernel
theorem d10_270 : decode prog_167_method_28_code 270 = .ok (.iinc 2 1, 3) := by decide +kernel
theorem d10_273 : decode prog_167_method_28_code 273 = .ok (.goto (-256), 3) := by decide +kernel
theorem d10_276 : decode prog_167_method_28_code 276 = .ok (.aload_n 0, 1) := by decide +kernel
theorem d10_277 : decode prog_167_method_28_code 277 = .ok (.getfield 13, 3) := by decide +kernel
theorem d10_280 : decode prog_167_method_28_code 280 = .ok (.aload_n 0, 1) := by decide +kernel
theorem d10_281 : decode prog_167_method_28_code 281 = .ok (.getfield 37, 3) := by decide +kernel
theorem d10_284 : decode prog_167_method_28_code 284 = .ok (.iload_n 1, 1) := by decide +kernel
theorem d10_285 : decode prog_167_method_28_code 285 = .ok (.iastore, 1) := by decide +kernel
theorem d10_286 : decode prog_167_method_28_code 286 = .ok (.aload_n 0, 1) := by decide +kernel
theorem d10_287 : decode prog_167_method_28_code 287 = .ok (.iload_n 1, 1) := by decide +kernel
theorem d10_288 : decode prog_167_method_28_code 288 = .ok (.putfield 43, 3) := by decide +kernel
theorem d10_291 : decode prog_167_method_28_code 291 = .ok (.return_, 1) := by decide +kernel
theorem d11_0 : decode prog_167_method_15_code 0 = .ok (.aload_n 0, 1) := by decide +kernel
theorem d11_1 : decode prog_167_method_15_code 1 = .ok (.getfield 13, 3) := by decide +kernel
theorem d11_4 : decode prog_167_method_15_code 4 = .ok (.iload_n 1, 1) := by decide +kernel
theorem d11_5 : decode prog_167_method_15_code 5 = .ok (.iconst 1, 1) := by decide +kernel
theorem d11_6 : decode prog_167_method_15_code 6 = .ok (.iadd, 1) := by decide +kernel
theorem d11_7 : decode prog_167_method_15_code 7 = .ok (.iaload, 1) := by decide +kernel
theorem d11_8 : decode prog_167_method_15_code 8 = .ok (.ireturn, 1) := by decide +kernel
theorem d12_0 : decode prog_167_method_16_code 0 = .ok (.aload_n 0, 1) := by decide +kernel
theorem d12_1 : decode prog_167_method_16_code 1 = .ok (.getfield 16, 3) := by decide +kernel
theorem d12_4 : decode prog_167_method_16_code 4 = .ok (.iload_n 1, 1) := by decide +kernel
theorem d12_5 : decode prog_167_method_16_code 5 = .ok (.daload, 1) := by decide +kernel
theorem d12_6 : decode prog_167_method_16_code 6 = .ok (.dreturn, 1) := by decide +kernel
theorem d13_0 : decode prog_167_method_17_code 0 = .ok (.aload_n 0, 1) := by decide +kernel
theorem d13_1 : decode prog_167_method_17_code 1 = .ok (.getfield 26, 3) := by decide +kernel
theorem d13_4 : decode prog_167_method_17_code 4 = .ok (.iload_n 1, 1) := by decide +kernel
theorem d13_5 : decode prog_167_method_17_code 5 = .ok (.daload, 1) := by decide +kernel
theorem d13_6 : decode prog_167_method_17_code 6 = .ok (.dreturn, 1) := by decide +kernel
theorem d14_0 : decode method_3_code 0 = .ok (.aload_n 0, 1) := by decide +kernel
theorem d14_1 : decode method_3_code 1 = .ok (.iload_n 1, 1) := by decide +kernel
theorem d14_2 : decode method_3_code 2 = .ok (.invokevirtual 49, 3) := by decide +kernel
theorem d14_5 : decode method_3_code 5 = .ok (.iload_n 2, 1) := by decide +kernel
theorem d14_6 : decode method_3_code 6 = .ok (.if_icmp .ne 17, 3) := by decide +kernel
theorem d14_9 : decode method_3_code 9 = .ok (.aload_n 0, 1) := by decide +kernel
theorem d14_10 : decode method_3_code 10 = .ok (.iload_n 1, 1) := by decide +kernel
theorem d14_11 : decode method_3_code 11 = .ok (.invokevirtual 52, 3) := by decide +kernel
theorem d14_14 : decode method_3_code 14 = .ok (.dload_n 3, 1) := by decide +kernel
theorem d14_15 : decode method_3_code 15 = .ok (.dcmp .l, 1) := by decide +kernel
theorem d14_16 : decode method_3_code 16 = .ok (.ifCond .ne 7, 3) := by decide +kernel
theorem d14_19 : decode method_3_code 19 = .ok (.iconst 1, 1) := by decide +kernel
theorem d14_20 : decode method_3_code 20 = .ok (.goto 4, 3) := by decide +kernel
theorem d14_23 : decode method_3_code 23 = .ok (.iconst 0, 1) := by decide +kernel
theorem d14_24 : decode method_3_code 24 = .ok (.ireturn, 1) := by decide +kernel
theorem d15_0 : decode prog_167_method_18_code 0 = .ok (.aload_n 0, 1) := by decide +kernel
theorem d15_1 : decode prog_167_method_18_code 1 = .ok (.getfield 20, 3) := by decide +kernel
theorem d15_4 : decode prog_167_method_18_code 4 = .ok (.iload_n 1, 1) := by decide +kernel
theorem d15_5 : decode prog_167_method_18_code 5 = .ok (.iaload, 1) := by decide +kernel
theorem d15_6 : decode prog_167_method_18_code 6 = .ok (.ireturn, 1) := by decide +kernel
theorem d16_0 : decode prog_167_method_19_code 0 = .ok (.aload_n 0, 1) := by decide +kernel
theorem d16_1 : decode prog_167_method_19_code 1 = .ok (.getfield 23, 3) := by decide +kernel
theorem d16_4 : decode prog_167_method_19_code 4 = .ok (.iload_n 1, 1) := by decide +kernel
theorem d16_5 : decode prog_167_method_19_code 5 = .ok (.daload, 1) := by decide +kernel
theorem d16_6 : decode prog_167_method_19_code 6 = .ok (.dreturn, 1) := by decide +kernel
theorem ef_4_AI (x0 : Nat) (x1 : Int32) (m : MethodId) : entryFrame m #[(.ref x0), (.int x1)] 2 = mkF m 0 #[.val (.ref x0), .val (.int x1)] [] := by first | (simp [entryFrame, mkF, argsToLocals, Value.category, maxLocals]; done) | rfl
theorem pn_1 : plainName "com/example/orbifold/orbifold/solvers/BellmanSystem" = true := by first | (simp [plainName, overriddenIn]; done) | decide +kernel
theorem pd_2 : parseMethodDescriptor "([II)[I" = some ⟨[(.array .int), .int], some (.array .int)⟩ := by decide +kernel
theorem ef_6_AI (x0 : Nat) (x1 : Int32) (m : MethodId) : entryFrame m #[(.ref x0), (.int x1)] 2 = mkF m 0 #[.val (.ref x0), .val (.int x1)] [] := by first | (simp [entryFrame, mkF, argsToLocals, Value.category, maxLocals]; done) | rfl
theorem pd_4 : parseMethodDescriptor "([DI)[D" = some ⟨[(.array .double), .int], some (.array .double)⟩ := by decide +kernel
theorem ef_15_AI (x0 : Nat) (x1 : Int32) (m : MethodId) : entryFrame m #[(.ref x0), (.int x1)] 2 = mkF m 0 #[.val (.ref x0), .val (.int x1)] [] := by first | (simp [entryFrame, mkF, argsToLocals, Value.category, maxLocals]; done) | rfl
theorem pd_6 : parseMethodDescriptor "(I)I" = some ⟨[.int], some .int⟩ := by decide +kernel
theorem ef_16_AI (x0 : Nat) (x1 : Int32) (m : MethodId) : entryFrame m #[(.ref x0), (.int x1)] 2 = mkF m 0 #[.val (.ref x0), .val (.int x1)] [] := by first | (simp [entryFrame, mkF, argsToLocals, Value.category, maxLocals]; done) | rfl
theorem pd_8 : parseMethodDescriptor "(I)D" = some ⟨[.int], some .double⟩ := by decide +kernel
theorem ef_10_A (x0 : Nat) (m : MethodId) : entryFrame m #[(.ref x0)] 13 = mkF m 0 #[.val (.ref x0), .unset, .unset, .unset, .unset, .unset, .unset, .unset, .unset, .unset, .unset, .unset, .unset] [] := by first | (simp [entryFrame, mkF, argsToLocals, Value.category, maxLocals]; done) | rfl
theorem pd_10 : parseMethodDescriptor "()V" = some ⟨[], none⟩ := by decide +kernel
theorem ef_11_AI (x0 : Nat) (x1 : Int32) (m : MethodId) : entryFrame m #[(.ref x0), (.int x1)] 2 = mkF m 0 #[.val (.ref x0), .val (.int x1)] [] := by first | (simp [entryFrame, mkF, argsToLocals, Value.category, maxLocals]; done) | rfl
theorem ef_12_AI (x0 : Nat) (x1 : Int32) (m : MethodId) : entryFrame m #[(.ref x0), (.int x1)] 2 = mkF m 0 #[.val (.ref x0), .val (.int x1)] [] := by first | (simp [entryFrame, mkF, argsToLocals, Value.category, maxLocals]; done) | rfl
theorem ef_13_AI (x0 : Nat) (x1 : Int32) (m : MethodId) : entryFrame m #[(.ref x0), (.int x1)] 2 = mkF m 0 #[.val (.ref x0), .val (.int x1)] [] := by first | (simp [entryFrame, mkF, argsToLocals, Value.category, maxLocals]; done) | rfl
theorem ef_14_AIID (x0 : Nat) (x1 : Int32) (x2 : Int32) (x3 : UInt64) (m : MethodId) : entryFrame m #[(.ref x0), (.int x1), (.int x2), (.double x3)] 5 = mkF m 0 #[.val (.ref x0), .val (.int x1), .val (.int x2), .val (.double x3), .second] [] := by first | (simp [entryFrame, mkF, argsToLocals, Value.category, maxLocals]; done) | rfl
theorem pn_15 : plainName "com/example/orbifold/orbifold/solvers/BellmanSystemFoldReturnsPinLaw" = true := by first | (simp [plainName, overriddenIn]; done) | decide +kernel
theorem pd_16 : parseMethodDescriptor "(Lcom/example/orbifold/orbifold/solvers/BellmanSystem;IID)Z" = some ⟨[(.object "com/example/orbifold/orbifold/solvers/BellmanSystem"), .int, .int, .double], some .boolean⟩ := by decide +kernel
theorem ef_1_A (x0 : Nat) (m : MethodId) : entryFrame m #[(.ref x0)] 1 = mkF m 0 #[.val (.ref x0)] [] := by first | (simp [entryFrame, mkF, argsToLocals, Value.category, maxLocals]; done) | rfl
theorem ef_3_A (x0 : Nat) (m : MethodId) : entryFrame m #[(.ref x0)] 1 = mkF m 0 #[.val (.ref x0)] [] := by first | (simp [entryFrame, mkF, argsToLocals, Value.category, maxLocals]; done) | rfl
theorem ef_5_A (x0 : Nat) (m : MethodId) : entryFrame m #[(.ref x0)] 1 = mkF m 0 #[.val (.ref x0)] [] := by first | (simp [entryFrame, mkF, argsToLocals, Value.category, maxLocals]; done) | rfl
theorem ef_7_AD (x0 : Nat) (x1 : UInt64) (m : MethodId) : entryFrame m #[(.ref x0), (.double x1)] 3 = mkF m 0 #[.val (.ref x0), .val (.double x1), .second] [] := by first | (simp [entryFrame, mkF, argsToLocals, Value.category, maxLocals]; done) | rfl
theorem pd_21 : parseMethodDescriptor "(D)V" = some ⟨[.double], none⟩ := by decide +kernel
theorem ef_8_AD (x0 : Nat) (x1 : UInt64) (m : MethodId) : entryFrame m #[(.ref x0), (.double x1)] 3 = mkF m 0 #[.val (.ref x0), .val (.double x1), .second] [] := by first | (simp [entryFrame, mkF, argsToLocals, Value.category, maxLocals]; done) | rfl
theorem ef_9_AID (x0 : Nat) (x1 : Int32) (x2 : UInt64) (m : MethodId) : entryFrame m #[(.ref x0), (.int x1), (.double x2)] 4 = mkF m 0 #[.val (.ref x0), .val (.int x1), .val (.double x2), .second] [] := by first | (simp [entryFrame, mkF, argsToLocals, Value.category, maxLocals]; done) | rfl
theorem pd_24 : parseMethodDescriptor "(ID)V" = some ⟨[.int, .double], none⟩ := by decide +kernel
theorem ef_0_III (x0 : Int32) (x1 : Int32) (x2 : Int32) (m : MethodId) : entryFrame m #[(.int x0), (.int x1), (.int x2)] maxLocals = mkF m 0 #[.val (.int x0), .val (.int x1), .val (.int x2), .unset, .unset, .unset, .unset, .unset, .unset, .unset, .unset, .unset, .unset, .unset, .unset, .unset, .unset, .unset, .unset, .unset, .unset, .unset, .unset, .unset, .unset, .unset, .unset] [] := by first | (simp [entryFrame, mkF, argsToLocals, Value.category, maxLocals]; done) | rfl
theorem law_pn0 : plainName "com/example/orbifold/orbifold/solvers/BellmanSystemFoldReturnsPinLaw" = true := by first | (simp [plainName, overriddenIn]; done) | decide +kernel
theorem law_pn : plainName x.cls = true := law_pn0
def BO (Z : State) (h : Heap) (a : Nat) (ra : Nat) (ca : Nat) (ka : Nat) (la : Nat) (fa : Nat) (va : Nat) (nr : Int32) (nc : Int32) (nt : Int32) (fo : Int32) : Prop := Exa Z h a "com/example/orbifold/orbifold/solvers/BellmanSystem" ∧ Fld Z h a "com/example/orbifold/orbifold/solvers/BellmanSystem" "rowStart" "[I" (.ref ra) ∧ Fld Z h a "com/example/orbifold/orbifold/solvers/BellmanSystem" "choiceStart" "[I" (.ref ca) ∧ Fld Z h a "com/example/orbifold/orbifold/solvers/BellmanSystem" "constants" "[D" (.ref ka) ∧ Fld Z h a "com/example/orbifold/orbifold/solvers/BellmanSystem" "columns" "[I" (.ref la) ∧ Fld Z h a "com/example/orbifold/orbifold/solvers/BellmanSystem" "coefficients" "[D" (.ref fa) ∧ Fld Z h a "com/example/orbifold/orbifold/solvers/BellmanSystem" "leaving" "[D" (.ref va) ∧ Fld Z h a "com/example/orbifold/orbifold/solvers/BellmanSystem" "rows" "I" (.int nr) ∧ Fld Z h a "com/example/orbifold/orbifold/solvers/BellmanSystem" "choices" "I" (.int nc) ∧ Fld Z h a "com/example/orbifold/orbifold/solvers/BellmanSystem" "terms" "I" (.int nt) ∧ Fld Z h a "com/example/orbifold/orbifold/solvers/BellmanSystem" "folded" "Z" (.int fo)
theorem BO.ext {Z : State} {h h' : Heap} {a : Nat} {ra : Nat} {ca : Nat} {ka : Nat} {la : Nat} {fa : Nat} {va : Nat} {nr : Int32} {nc : Int32} {nt : Int32} {fo : Int32} (H : BO Z h a ra ca ka la fa va nr nc nt fo) (E : Ext h h') : BO Z h' a ra ca ka la fa va nr nc nt fo := ⟨H.1.ext E, (H.2.1).ext E, (H.2.2.1).ext E, (H.2.2.2.1).ext E, (H.2.2.2.2.1).ext E, (H.2.2.2.2.2.1).ext E, (H.2.2.2.2.2.2.1).ext E, (H.2.2.2.2.2.2.2.1).ext E, (H.2.2.2.2.2.2.2.2.1).ext E, (H.2.2.2.2.2.2.2.2.2.1).ext E, (H.2.2.2.2.2.2.2.2.2.2).ext E⟩
theorem BO.keep {Z : State} {h h' : Heap} {a : Nat} {ra : Nat} {ca : Nat} {ka : Nat} {la : Nat} {fa : Nat} {va : Nat} {nr : Int32} {nc : Int32} {nt : Int32} {fo : Int32} {ws : List Nat} (H : BO Z h a ra ca ka la fa va nr nc nt fo) (K : Keep h h' ws) (q : a ∉ ws) : BO Z h' a ra ca ka la fa va nr nc nt fo := ⟨H.1.keep K, (H.2.1).keep K q, (H.2.2.1).keep K q, (H.2.2.2.1).keep K q, (H.2.2.2.2.1).keep K q, (H.2.2.2.2.2.1).keep K q, (H.2.2.2.2.2.2.1).keep K q, (H.2.2.2.2.2.2.2.1).keep K q, (H.2.2.2.2.2.2.2.2.1).keep K q, (H.2.2.2.2.2.2.2.2.2.1).keep K q, (H.2.2.2.2.2.2.2.2.2.2).keep K q⟩
theorem BO.put_rowStart {Z : State} {h h' : Heap} {a : Nat} {ra : Nat} {ca : Nat} {ka : Nat} {la : Nat} {fa : Nat} {va : Nat} {nr : Int32} {nc : Int32} {nt : Int32} {fo : Int32} {w : Nat} (a0 : Array Value) (hw : ∀ d ∈ tables_1, d.before a0 Z = true) (H : BO Z h a ra ca ka la fa va nr nc nt fo) (W : Wr h h' a (Jvm.RoadKit.slotOf Z "com/example/orbifold/orbifold/solvers/BellmanSystem" "rowStart" "[I") (.ref w)) : BO Z h' a w ca ka la fa va nr nc nt fo := ⟨H.1.wr W, (H.2.1).same W, (H.2.2.1).other W (Or.inr (slot_ne (a0 := a0) (C := "com/example/orbifold/orbifold/solvers/BellmanSystem") (Or.inl (hw _ (List.mem_of_getElem? (i := 14) rfl))) (Or.inl (hw _ (List.mem_of_getElem? (i := 12) rfl))) (by decide) (t := (.array .int)) (t' := (.array .int)) (by decide) (by decide))), (H.2.2.2.1).other W (Or.inr (slot_ne (a0 := a0) (C := "com/example/orbifold/orbifold/solvers/BellmanSystem") (Or.inl (hw _ (List.mem_of_getElem? (i := 17) rfl))) (Or.inl (hw _ (List.mem_of_getElem? (i := 12) rfl))) (by decide) (t := (.array .double)) (t' := (.array .int)) (by decide) (by decide))), (H.2.2.2.2.1).other W (Or.inr (slot_ne (a0 := a0) (C := "com/example/orbifold/orbifold/solvers/BellmanSystem") (Or.inl (hw _ (List.mem_of_getElem? (i := 19) rfl))) (Or.inl (hw _ (List.mem_of_getElem? (i := 12) rfl))) (by decide) (t := (.array .int)) (t' := (.array .int)) (by decide) (by decide))), (H.2.2.2.2.2.1).other W (Or.inr (slot_ne (a0 := a0) (C := "com/example/orbifold/orbifold/solvers/BellmanSystem") (Or.inl (hw _ (List.mem_of_getElem? (i := 21) rfl))) (Or.inl (hw _ (List.mem_of_getElem? (i := 12) rfl))) (by decide) (t := (.array .double)) (t' := (.array .int)) (by decide) (by decide))), (H.2.2.2.2.2.2.1).other W (Or.inr (slot_ne (a0 := a0) (C := "com/example/orbifold/orbifold/solvers/BellmanSystem") (Or.inl (hw _ (List.mem_of_getElem? (i := 23) rfl))) (Or.inl (hw _ (List.mem_of_getElem? (i := 12) rfl))) (by decide) (t := (.array .double)) (t' := (.array .int)) (by decide) (by decide))), (H.2.2.2.2.2.2.2.1).other W (Or.inr (slot_ne (a0 := a0) (C := "com/example/orbifold/orbifold/solvers/BellmanSystem") (Or.inl (hw _ (List.mem_of_getElem? (i := 30) rfl))) (Or.inl (hw _ (List.mem_of_getElem? (i := 12) rfl))) (by decide) (t := .int) (t' := (.array .int)) (by decide) (by decide))), (H.2.2.2.2.2.2.2.2.1).other W (Or.inr (slot_ne (a0 := a0) (C := "com/example/orbifold/orbifold/solvers/BellmanSystem") (Or.inl (hw _ (List.mem_of_getElem? (i := 35) rfl))) (Or.inl (hw _ (List.mem_of_getElem? (i := 12) rfl))) (by decide) (t := .int) (t' := (.array .int)) (by decide) (by decide))), (H.2.2.2.2.2.2.2.2.2.1).other W (Or.inr (slot_ne (a0 := a0) (C := "com/example/orbifold/orbifold/solvers/BellmanSystem") (Or.inl (hw _ (List.mem_of_getElem? (i := 45) rfl))) (Or.inl (hw _ (List.mem_of_getElem? (i := 12) rfl))) (by decide) (t := .int) (t' := (.array .int)) (by decide) (by decide))), (H.2.2.2.2.2.2.2.2.2.2).other W (Or.inr (slot_ne (a0 := a0) (C := "com/example/orbifold/orbifold/solvers/BellmanSystem") (Or.inl (hw _ (List.mem_of_getElem? (i := 67) rfl))) (Or.inl (hw _ (List.mem_of_getElem? (i := 12) rfl))) (by decide) (t := .boolean) (t' := (.array .int)) (by decide) (by decide)))⟩
theorem BO.put_choiceStart {Z : State} {h h' : Heap} {a : Nat} {ra : Nat} {ca : Nat} {ka : Nat} {la : Nat} {fa : Nat} {va : Nat} {nr : Int32} {nc : Int32} {nt : Int32} {fo : Int32} {w : Nat} (a0 : Array Value) (hw : ∀ d ∈ tables_1, d.before a0 Z = true) (H : BO Z h a ra ca ka la fa va nr nc nt fo) (W : Wr h h' a (Jvm.RoadKit.slotOf Z "com/example/orbifold/orbifold/solvers/BellmanSystem" "choiceStart" "[I") (.ref w)) : BO Z h' a ra w ka la fa va nr nc nt fo := ⟨H.1.wr W, (H.2.1).other W (Or.inr (slot_ne (a0 := a0) (C := "com/example/orbifold/orbifold/solvers/BellmanSystem") (Or.inl (hw _ (List.mem_of_getElem? (i := 12) rfl))) (Or.inl (hw _ (List.mem_of_getElem? (i := 14) rfl))) (by decide) (t := (.array .int)) (t' := (.array .int)) (by decide) (by decide))), (H.2.2.1).same W, (H.2.2.2.1).other W (Or.inr (slot_ne (a0 := a0) (C := "com/example/orbifold/orbifold/solvers/BellmanSystem") (Or.inl (hw _ (List.mem_of_getElem? (i := 17) rfl))) (Or.inl (hw _ (List.mem_of_getElem? (i := 14) rfl))) (by decide) (t := (.array .double)) (t' := (.array .int)) (by decide) (by decide))), (H.2.2.2.2.1).other W (Or.inr (slot_ne (a0 := a0) (C := "com/example/orbifold/orbifold/solvers/BellmanSystem") (Or.inl (hw _ (List.mem_of_getElem? (i := 19) rfl))) (Or.inl (hw _ (List.mem_of_getElem? (i := 14) rfl))) (by decide) (t := (.array .int)) (t' := (.array .int)) (by decide) (by decide))), (H.2.2.2.2.2.1).other W (Or.inr (slot_ne (a0 := a0) (C := "com/example/orbifold/orbifold/solvers/BellmanSystem") (Or.inl (hw _ (List.mem_of_getElem? (i := 21) rfl))) (Or.inl (hw _ (List.mem_of_getElem? (i := 14) rfl))) (by decide) (t := (.array .double)) (t' := (.array .int)) (by decide) (by decide))), (H.2.2.2.2.2.2.1).other W (Or.inr (slot_ne (a0 := a0) (C := "com/example/orbifold/orbifold/solvers/BellmanSystem") (Or.inl (hw _ (List.mem_of_getElem? (i := 23) rfl))) (Or.inl (hw _ (List.mem_of_getElem? (i := 14) rfl))) (by decide) (t := (.array .double)) (t' := (.array .int)) (by decide) (by decide))), (H.2.2.2.2.2.2.2.1).other W (Or.inr (slot_ne (a0 := a0) (C := "com/example/orbifold/orbifold/solvers/BellmanSystem") (Or.inl (hw _ (List.mem_of_getElem? (i := 30) rfl))) (Or.inl (hw _ (List.mem_of_getElem? (i := 14) rfl))) (by decide) (t := .int) (t' := (.array .int)) (by decide) (by decide))), (H.2.2.2.2.2.2.2.2.1).other W (Or.inr (slot_ne (a0 := a0) (C := "com/example/orbifold/orbifold/solvers/BellmanSystem") (Or.inl (hw _ (List.mem_of_getElem? (i := 35) rfl))) (Or.inl (hw _ (List.mem_of_getElem? (i := 14) rfl))) (by decide) (t := .int) (t' := (.array .int)) (by decide) (by decide))), (H.2.2.2.2.2.2.2.2.2.1).other W (Or.inr (slot_ne (a0 := a0) (C := "com/example/orbifold/orbifold/solvers/BellmanSystem") (Or.inl (hw _ (List.mem_of_getElem? (i := 45) rfl))) (Or.inl (hw _ (List.mem_of_getElem? (i := 14) rfl))) (by decide) (t := .int) (t' := (.array .int)) (by decide) (by decide))), (H.2.2.2.2.2.2.2.2.2.2).other W (Or.inr (slot_ne (a0 := a0) (C := "com/example/orbifold/orbifold/solvers/BellmanSystem") (Or.inl (hw _ (List.mem_of_getElem? (i := 67) rfl))) (Or.inl (hw _ (List.mem_of_getElem? (i := 14) rfl))) (by decide) (t := .boolean) (t' := (.array .int)) (by decide) (by decide)))⟩
theorem BO.put_constants {Z : State} {h h' : Heap} {a : Nat} {ra : Nat} {ca : Nat} {ka : Nat} {la : Nat} {fa : Nat} {va : Nat} {nr : Int32} {nc : Int32} {nt : Int32} {fo : Int32} {w : Nat} (a0 : Array Value) (hw : ∀ d ∈ tables_1, d.before a0 Z = true) (H : BO Z h a ra ca ka la fa va nr nc nt fo) (W : Wr h h' a (Jvm.RoadKit.slotOf Z "com/example/orbifold/orbifold/solvers/BellmanSystem" "constants" "[D") (.ref w)) : BO Z h' a ra ca w la fa va nr nc nt fo := ⟨H.1.wr W, (H.2.1).other W (Or.inr (slot_ne (a0 := a0) (C := "com/example/orbifold/orbifold/solvers/BellmanSystem") (Or.inl (hw _ (List.mem_of_getElem? (i := 12) rfl))) (Or.inl (hw _ (List.mem_of_getElem? (i := 17) rfl))) (by decide) (t := (.array .int)) (t' := (.array .double)) (by decide) (by decide))), (H.2.2.1).other W (Or.inr (slot_ne (a0 := a0) (C := "com/example/orbifold/orbifold/solvers/BellmanSystem") (Or.inl (hw _ (List.mem_of_getElem? (i := 14) rfl))) (Or.inl (hw _ (List.mem_of_getElem? (i := 17) rfl))) (by decide) (t := (.array .int)) (t' := (.array .double)) (by decide) (by decide))), (H.2.2.2.1).same W, (H.2.2.2.2.1).other W (Or.inr (slot_ne (a0 := a0) (C := "com/example/orbifold/orbifold/solvers/BellmanSystem") (Or.inl (hw _ (List.mem_of_getElem? (i := 19) rfl))) (Or.inl (hw _ (List.mem_of_getElem? (i := 17) rfl))) (by decide) (t := (.array .int)) (t' := (.array .double)) (by decide) (by decide))), (H.2.2.2.2.2.1).other W (Or.inr (slot_ne (a0 := a0) (C := "com/example/orbifold/orbifold/solvers/BellmanSystem") (Or.inl (hw _ (List.mem_of_getElem? (i := 21) rfl))) (Or.inl (hw _ (List.mem_of_getElem? (i := 17) rfl))) (by decide) (t := (.array .double)) (t' := (.array .double)) (by decide) (by decide))), (H.2.2.2.2.2.2.1).other W (Or.inr (slot_ne (a0 := a0) (C := "com/example/orbifold/orbifold/solvers/BellmanSystem") (Or.inl (hw _ (List.mem_of_getElem? (i := 23) rfl))) (Or.inl (hw _ (List.mem_of_getElem? (i := 17) rfl))) (by decide) (t := (.array .double)) (t' := (.array .double)) (by decide) (by decide))), (H.2.2.2.2.2.2.2.1).other W (Or.inr (slot_ne (a0 := a0) (C := "com/example/orbifold/orbifold/solvers/BellmanSystem") (Or.inl (hw _ (List.mem_of_getElem? (i := 30) rfl))) (Or.inl (hw _ (List.mem_of_getElem? (i := 17) rfl))) (by decide) (t := .int) (t' := (.array .double)) (by decide) (by decide))), (H.2.2.2.2.2.2.2.2.1).other W (Or.inr (slot_ne (a0 := a0) (C := "com/example/orbifold/orbifold/solvers/BellmanSystem") (Or.inl (hw _ (List.mem_of_getElem? (i := 35) rfl))) (Or.inl (hw _ (List.mem_of_getElem? (i := 17) rfl))) (by decide) (t := .int) (t' := (.array .double)) (by decide) (by decide))), (H.2.2.2.2.2.2.2.2.2.1).other W (Or.inr (slot_ne (a0 := a0) (C := "com/example/orbifold/orbifold/solvers/BellmanSystem") (Or.inl (hw _ (List.mem_of_getElem? (i := 45) rfl))) (Or.inl (hw _ (List.mem_of_getElem? (i := 17) rfl))) (by decide) (t := .int) (t' := (.array .double)) (by decide) (by decide))), (H.2.2.2.2.2.2.2.2.2.2).other W (Or.inr (slot_ne (a0 := a0) (C := "com/example/orbifold/orbifold/solvers/BellmanSystem") (Or.inl (hw _ (List.mem_of_getElem? (i := 67) rfl))) (Or.inl (hw _ (List.mem_of_getElem? (i := 17) rfl))) (by decide) (t := .boolean) (t' := (.array .double)) (by decide) (by decide)))⟩
theorem BO.put_columns {Z : State} {h h' : Heap} {a : Nat} {ra : Nat} {ca : Nat} {ka : Nat} {la : Nat} {fa : Nat} {va : Nat} {nr : Int32} {nc : Int32} {nt : Int32} {fo : Int32} {w : Nat} (a0 : Array Value) (hw : ∀ d ∈ tables_1, d.before a0 Z = true) (H : BO Z h a ra ca ka la fa va nr nc nt fo) (W : Wr h h' a (Jvm.RoadKit.slotOf Z "com/example/orbifold/orbifold/solvers/BellmanSystem" "columns" "[I") (.ref w)) : BO Z h' a ra ca ka w fa va nr nc nt fo := ⟨H.1.wr W, (H.2.1).other W (Or.inr (slot_ne (a0 := a0) (C := "com/example/orbifold/orbifold/solvers/BellmanSystem") (Or.inl (hw _ (List.mem_of_getElem? (i := 12) rfl))) (Or.inl (hw _ (List.mem_of_getElem? (i := 19) rfl))) (by decide) (t := (.array .int)) (t' := (.array .int)) (by decide) (by decide))), (H.2.2.1).other W (Or.inr (slot_ne (a0 := a0) (C := "com/example/orbifold/orbifold/solvers/BellmanSystem") (Or.inl (hw _ (List.mem_of_getElem? (i := 14) rfl))) (Or.inl (hw _ (List.mem_of_getElem? (i := 19) rfl))) (by decide) (t := (.array .int)) (t' := (.array .int)) (by decide) (by decide))), (H.2.2.2.1).other W (Or.inr (slot_ne (a0 := a0) (C := "com/example/orbifold/orbifold/solvers/BellmanSystem") (Or.inl (hw _ (List.mem_of_getElem? (i := 17) rfl))) (Or.inl (hw _ (List.mem_of_getElem? (i := 19) rfl))) (by decide) (t := (.array .double)) (t' := (.array .int)) (by decide) (by decide))), (H.2.2.2.2.1).same W, (H.2.2.2.2.2.1).other W (Or.inr (slot_ne (a0 := a0) (C := "com/example/orbifold/orbifold/solvers/BellmanSystem") (Or.inl (hw _ (List.mem_of_getElem? (i := 21) rfl))) (Or.inl (hw _ (List.mem_of_getElem? (i := 19) rfl))) (by decide) (t := (.array .double)) (t' := (.array .int)) (by decide) (by decide))), (H.2.2.2.2.2.2.1).other W (Or.inr (slot_ne (a0 := a0) (C := "com/example/orbifold/orbifold/solvers/BellmanSystem") (Or.inl (hw _ (List.mem_of_getElem? (i := 23) rfl))) (Or.inl (hw _ (List.mem_of_getElem? (i := 19) rfl))) (by decide) (t := (.array .double)) (t' := (.array .int)) (by decide) (by decide))), (H.2.2.2.2.2.2.2.1).other W (Or.inr (slot_ne (a0 := a0) (C := "com/example/orbifold/orbifold/solvers/BellmanSystem") (Or.inl (hw _ (List.mem_of_getElem? (i := 30) rfl))) (Or.inl (hw _ (List.mem_of_getElem? (i := 19) rfl))) (by decide) (t := .int) (t' := (.array .int)) (by decide) (by decide))), (H.2.2.2.2.2.2.2.2.1).other W (Or.inr (slot_ne (a0 := a0) (C := "com/example/orbifold/orbifold/solvers/BellmanSystem") (Or.inl (hw _ (List.mem_of_getElem? (i := 35) rfl))) (Or.inl (hw _ (List.mem_of_getElem? (i := 19) rfl))) (by decide) (t := .int) (t' := (.array .int)) (by decide) (by decide))), (H.2.2.2.2.2.2.2.2.2.1).other W (Or.inr (slot_ne (a0 := a0) (C := "com/example/orbifold/orbifold/solvers/BellmanSystem") (Or.inl (hw _ (List.mem_of_getElem? (i := 45) rfl))) (Or.inl (hw _ (List.mem_of_getElem? (i := 19) rfl))) (by decide) (t := .int) (t' := (.array .int)) (by decide) (by decide))), (H.2.2.2.2.2.2.2.2.2.2).other W (Or.inr (slot_ne (a0 := a0) (C := "com/example/orbifold/orbifold/solvers/BellmanSystem") (Or.inl (hw _ (List.mem_of_getElem? (i := 67) rfl))) (Or.inl (hw _ (List.mem_of_getElem? (i := 19) rfl))) (by decide) (t := .boolean) (t' := (.array .int)) (by decide) (by decide)))⟩
theorem BO.put_coefficients {Z : State} {h h' : Heap} {a : Nat} {ra : Nat} {ca : Nat} {ka : Nat} {la : Nat} {fa : Nat} {va : Nat} {nr : Int32} {nc : Int32} {nt : Int32} {fo : Int32} {w : Nat} (a0 : Array Value) (hw : ∀ d ∈ tables_1, d.before a0 Z = true) (H : BO Z h a ra ca ka la fa va nr nc nt fo) (W : Wr h h' a (Jvm.RoadKit.slotOf Z "com/example/orbifold/orbifold/solvers/BellmanSystem" "coefficients" "[D") (.ref w)) : BO Z h' a ra ca ka la w va nr nc nt fo := ⟨H.1.wr W, (H.2.1).other W (Or.inr (slot_ne (a0 := a0) (C := "com/example/orbifold/orbifold/solvers/BellmanSystem") (Or.inl (hw _ (List.mem_of_getElem? (i := 12) rfl))) (Or.inl (hw _ (List.mem_of_getElem? (i := 21) rfl))) (by decide) (t := (.array .int)) (t' := (.array .double)) (by decide) (by decide))), (H.2.2.1).other W (Or.inr (slot_ne (a0 := a0) (C := "com/example/orbifold/orbifold/solvers/BellmanSystem") (Or.inl (hw _ (List.mem_of_getElem? (i := 14) rfl))) (Or.inl (hw _ (List.mem_of_getElem? (i := 21) rfl))) (by decide) (t := (.array .int)) (t' := (.array .double)) (by decide) (by decide))), (H.2.2.2.1).other W (Or.inr (slot_ne (a0 := a0) (C := "com/example/orbifold/orbifold/solvers/BellmanSystem") (Or.inl (hw _ (List.mem_of_getElem? (i := 17) rfl))) (Or.inl (hw _ (List.mem_of_getElem? (i := 21) rfl))) (by decide) (t := (.array .double)) (t' := (.array .double)) (by decide) (by decide))), (H.2.2.2.2.1).other W (Or.inr (slot_ne (a0 := a0) (C := "com/example/orbifold/orbifold/solvers/BellmanSystem") (Or.inl (hw _ (List.mem_of_getElem? (i := 19) rfl))) (Or.inl (hw _ (List.mem_of_getElem? (i := 21) rfl))) (by decide) (t := (.array .int)) (t' := (.array .double)) (by decide) (by decide))), (H.2.2.2.2.2.1).same W, (H.2.2.2.2.2.2.1).other W (Or.inr (slot_ne (a0 := a0) (C := "com/example/orbifold/orbifold/solvers/BellmanSystem") (Or.inl (hw _ (List.mem_of_getElem? (i := 23) rfl))) (Or.inl (hw _ (List.mem_of_getElem? (i := 21) rfl))) (by decide) (t := (.array .double)) (t' := (.array .double)) (by decide) (by decide))), (H.2.2.2.2.2.2.2.1).other W (Or.inr (slot_ne (a0 := a0) (C := "com/example/orbifold/orbifold/solvers/BellmanSystem") (Or.inl (hw _ (List.mem_of_getElem? (i := 30) rfl))) (Or.inl (hw _ (List.mem_of_getElem? (i := 21) rfl))) (by decide) (t := .int) (t' := (.array .double)) (by decide) (by decide))), (H.2.2.2.2.2.2.2.2.1).other W (Or.inr (slot_ne (a0 := a0) (C := "com/example/orbifold/orbifold/solvers/BellmanSystem") (Or.inl (hw _ (List.mem_of_getElem? (i := 35) rfl))) (Or.inl (hw _ (List.mem_of_getElem? (i := 21) rfl))) (by decide) (t := .int) (t' := (.array .double)) (by decide) (by decide))), (H.2.2.2.2.2.2.2.2.2.1).other W (Or.inr (slot_ne (a0 := a0) (C := "com/example/orbifold/orbifold/solvers/BellmanSystem") (Or.inl (hw _ (List.mem_of_getElem? (i := 45) rfl))) (Or.inl (hw _ (List.mem_of_getElem? (i := 21) rfl))) (by decide) (t := .int) (t' := (.array .double)) (by decide) (by decide))), (H.2.2.2.2.2.2.2.2.2.2).other W (Or.inr (slot_ne (a0 := a0) (C := "com/example/orbifold/orbifold/solvers/BellmanSystem") (Or.inl (hw _ (List.mem_of_getElem? (i := 67) rfl))) (Or.inl (hw _ (List.mem_of_getElem? (i := 21) rfl))) (by decide) (t := .boolean) (t' := (.array .double)) (by decide) (by decide)))⟩
theorem BO.put_leaving {Z : State} {h h' : Heap} {a : Nat} {ra : Nat} {ca : Nat} {ka : Nat} {la : Nat} {fa : Nat} {va : Nat} {nr : Int32} {nc : Int32} {nt : Int32} {fo : Int32} {w : Nat} (a0 : Array Value) (hw : ∀ d ∈ tables_1, d.before a0 Z = true) (H : BO Z h a ra ca ka la fa va nr nc nt fo) (W : Wr h h' a (Jvm.RoadKit.slotOf Z "com/example/orbifold/orbifold/solvers/BellmanSystem" "leaving" "[D") (.ref w)) : BO Z h' a ra ca ka la fa w nr nc nt fo := ⟨H.1.wr W, (H.2.1).other W (Or.inr (slot_ne (a0 := a0) (C := "com/example/orbifold/orbifold/solvers/BellmanSystem") (Or.inl (hw _ (List.mem_of_getElem? (i := 12) rfl))) (Or.inl (hw _ (List.mem_of_getElem? (i := 23) rfl))) (by decide) (t := (.array .int)) (t' := (.array .double)) (by decide) (by decide))), (H.2.2.1).other W (Or.inr (slot_ne (a0 := a0) (C := "com/example/orbifold/orbifold/solvers/BellmanSystem") (Or.inl (hw _ (List.mem_of_getElem? (i := 14) rfl))) (Or.inl (hw _ (List.mem_of_getElem? (i := 23) rfl))) (by decide) (t := (.array .int)) (t' := (.array .double)) (by decide) (by decide))), (H.2.2.2.1).other W (Or.inr (slot_ne (a0 := a0) (C := "com/example/orbifold/orbifold/solvers/BellmanSystem") (Or.inl (hw _ (List.mem_of_getElem? (i := 17) rfl))) (Or.inl (hw _ (List.mem_of_getElem? (i := 23) rfl))) (by decide) (t := (.array .double)) (t' := (.array .double)) (by decide) (by decide))), (H.2.2.2.2.1).other W (Or.inr (slot_ne (a0 := a0) (C := "com/example/orbifold/orbifold/solvers/BellmanSystem") (Or.inl (hw _ (List.mem_of_getElem? (i := 19) rfl))) (Or.inl (hw _ (List.mem_of_getElem? (i := 23) rfl))) (by decide) (t := (.array .int)) (t' := (.array .double)) (by decide) (by decide))), (H.2.2.2.2.2.1).other W (Or.inr (slot_ne (a0 := a0) (C := "com/example/orbifold/orbifold/solvers/BellmanSystem") (Or.inl (hw _ (List.mem_of_getElem? (i := 21) rfl))) (Or.inl (hw _ (List.mem_of_getElem? (i := 23) rfl))) (by decide) (t := (.array .double)) (t' := (.array .double)) (by decide) (by decide))), (H.2.2.2.2.2.2.1).same W, (H.2.2.2.2.2.2.2.1).other W (Or.inr (slot_ne (a0 := a0) (C := "com/example/orbifold/orbifold/solvers/BellmanSystem") (Or.inl (hw _ (List.mem_of_getElem? (i := 30) rfl))) (Or.inl (hw _ (List.mem_of_getElem? (i := 23) rfl))) (by decide) (t := .int) (t' := (.array .double)) (by decide) (by decide))), (H.2.2.2.2.2.2.2.2.1).other W (Or.inr (slot_ne (a0 := a0) (C := "com/example/orbifold/orbifold/solvers/BellmanSystem") (Or.inl (hw _ (List.mem_of_getElem? (i := 35) rfl))) (Or.inl (hw _ (List.mem_of_getElem? (i := 23) rfl))) (by decide) (t := .int) (t' := (.array .double)) (by decide) (by decide))), (H.2.2.2.2.2.2.2.2.2.1).other W (Or.inr (slot_ne (a0 := a0) (C := "com/example/orbifold/orbifold/solvers/BellmanSystem") (Or.inl (hw _ (List.mem_of_getElem? (i := 45) rfl))) (Or.inl (hw _ (List.mem_of_getElem? (i := 23) rfl))) (by decide) (t := .int) (t' := (.array .double)) (by decide) (by decide))), (H.2.2.2.2.2.2.2.2.2.2).other W (Or.inr (slot_ne (a0 := a0) (C := "com/example/orbifold/orbifold/solvers/BellmanSystem") (Or.inl (hw _ (List.mem_of_getElem? (i := 67) rfl))) (Or.inl (hw _ (List.mem_of_getElem? (i := 23) rfl))) (by decide) (t := .boolean) (t' := (.array .double)) (by decide) (by decide)))⟩
theorem BO.put_rows {Z : State} {h h' : Heap} {a : Nat} {ra : Nat} {ca : Nat} {ka : Nat} {la : Nat} {fa : Nat} {va : Nat} {nr : Int32} {nc : Int32} {nt : Int32} {fo : Int32} {w : Int32} (a0 : Array Value) (hw : ∀ d ∈ tables_1, d.before a0 Z = true) (H : BO Z h a ra ca ka la fa va nr nc nt fo) (W : Wr h h' a (Jvm.RoadKit.slotOf Z "com/example/orbifold/orbifold/solvers/BellmanSystem" "rows" "I") (.int w)) : BO Z h' a ra ca ka la fa va w nc nt fo := ⟨H.1.wr W, (H.2.1).other W (Or.inr (slot_ne (a0 := a0) (C := "com/example/orbifold/orbifold/solvers/BellmanSystem") (Or.inl (hw _ (List.mem_of_getElem? (i := 12) rfl))) (Or.inl (hw _ (List.mem_of_getElem? (i := 30) rfl))) (by decide) (t := (.array .int)) (t' := .int) (by decide) (by decide))), (H.2.2.1).other W (Or.inr (slot_ne (a0 := a0) (C := "com/example/orbifold/orbifold/solvers/BellmanSystem") (Or.inl (hw _ (List.mem_of_getElem? (i := 14) rfl))) (Or.inl (hw _ (List.mem_of_getElem? (i := 30) rfl))) (by decide) (t := (.array .int)) (t' := .int) (by decide) (by decide))), (H.2.2.2.1).other W (Or.inr (slot_ne (a0 := a0) (C := "com/example/orbifold/orbifold/solvers/BellmanSystem") (Or.inl (hw _ (List.mem_of_getElem? (i := 17) rfl))) (Or.inl (hw _ (List.mem_of_getElem? (i := 30) rfl))) (by decide) (t := (.array .double)) (t' := .int) (by decide) (by decide))), (H.2.2.2.2.1).other W (Or.inr (slot_ne (a0 := a0) (C := "com/example/orbifold/orbifold/solvers/BellmanSystem") (Or.inl (hw _ (List.mem_of_getElem? (i := 19) rfl))) (Or.inl (hw _ (List.mem_of_getElem? (i := 30) rfl))) (by decide) (t := (.array .int)) (t' := .int) (by decide) (by decide))), (H.2.2.2.2.2.1).other W (Or.inr (slot_ne (a0 := a0) (C := "com/example/orbifold/orbifold/solvers/BellmanSystem") (Or.inl (hw _ (List.mem_of_getElem? (i := 21) rfl))) (Or.inl (hw _ (List.mem_of_getElem? (i := 30) rfl))) (by decide) (t := (.array .double)) (t' := .int) (by decide) (by decide))), (H.2.2.2.2.2.2.1).other W (Or.inr (slot_ne (a0 := a0) (C := "com/example/orbifold/orbifold/solvers/BellmanSystem") (Or.inl (hw _ (List.mem_of_getElem? (i := 23) rfl))) (Or.inl (hw _ (List.mem_of_getElem? (i := 30) rfl))) (by decide) (t := (.array .double)) (t' := .int) (by decide) (by decide))), (H.2.2.2.2.2.2.2.1).same W, (H.2.2.2.2.2.2.2.2.1).other W (Or.inr (slot_ne (a0 := a0) (C := "com/example/orbifold/orbifold/solvers/BellmanSystem") (Or.inl (hw _ (List.mem_of_getElem? (i := 35) rfl))) (Or.inl (hw _ (List.mem_of_getElem? (i := 30) rfl))) (by decide) (t := .int) (t' := .int) (by decide) (by decide))), (H.2.2.2.2.2.2.2.2.2.1).other W (Or.inr (slot_ne (a0 := a0) (C := "com/example/orbifold/orbifold/solvers/BellmanSystem") (Or.inl (hw _ (List.mem_of_getElem? (i := 45) rfl))) (Or.inl (hw _ (List.mem_of_getElem? (i := 30) rfl))) (by decide) (t := .int) (t' := .int) (by decide) (by decide))), (H.2.2.2.2.2.2.2.2.2.2).other W (Or.inr (slot_ne (a0 := a0) (C := "com/example/orbifold/orbifold/solvers/BellmanSystem") (Or.inl (hw _ (List.mem_of_getElem? (i := 67) rfl))) (Or.inl (hw _ (List.mem_of_getElem? (i := 30) rfl))) (by decide) (t := .boolean) (t' := .int) (by decide) (by decide)))⟩
theorem BO.put_choices {Z : State} {h h' : Heap} {a : Nat} {ra : Nat} {ca : Nat} {ka : Nat} {la : Nat} {fa : Nat} {va : Nat} {nr : Int32} {nc : Int32} {nt : Int32} {fo : Int32} {w : Int32} (a0 : Array Value) (hw : ∀ d ∈ tables_1, d.before a0 Z = true) (H : BO Z h a ra ca ka la fa va nr nc nt fo) (W : Wr h h' a (Jvm.RoadKit.slotOf Z "com/example/orbifold/orbifold/solvers/BellmanSystem" "choices" "I") (.int w)) : BO Z h' a ra ca ka la fa va nr w nt fo := ⟨H.1.wr W, (H.2.1).other W (Or.inr (slot_ne (a0 := a0) (C := "com/example/orbifold/orbifold/solvers/BellmanSystem") (Or.inl (hw _ (List.mem_of_getElem? (i := 12) rfl))) (Or.inl (hw _ (List.mem_of_getElem? (i := 35) rfl))) (by decide) (t := (.array .int)) (t' := .int) (by decide) (by decide))), (H.2.2.1).other W (Or.inr (slot_ne (a0 := a0) (C := "com/example/orbifold/orbifold/solvers/BellmanSystem") (Or.inl (hw _ (List.mem_of_getElem? (i := 14) rfl))) (Or.inl (hw _ (List.mem_of_getElem? (i := 35) rfl))) (by decide) (t := (.array .int)) (t' := .int) (by decide) (by decide))), (H.2.2.2.1).other W (Or.inr (slot_ne (a0 := a0) (C := "com/example/orbifold/orbifold/solvers/BellmanSystem") (Or.inl (hw _ (List.mem_of_getElem? (i := 17) rfl))) (Or.inl (hw _ (List.mem_of_getElem? (i := 35) rfl))) (by decide) (t := (.array .double)) (t' := .int) (by decide) (by decide))), (H.2.2.2.2.1).other W (Or.inr (slot_ne (a0 := a0) (C := "com/example/orbifold/orbifold/solvers/BellmanSystem") (Or.inl (hw _ (List.mem_of_getElem? (i := 19) rfl))) (Or.inl (hw _ (List.mem_of_getElem? (i := 35) rfl))) (by decide) (t := (.array .int)) (t' := .int) (by decide) (by decide))), (H.2.2.2.2.2.1).other W (Or.inr (slot_ne (a0 := a0) (C := "com/example/orbifold/orbifold/solvers/BellmanSystem") (Or.inl (hw _ (List.mem_of_getElem? (i := 21) rfl))) (Or.inl (hw _ (List.mem_of_getElem? (i := 35) rfl))) (by decide) (t := (.array .double)) (t' := .int) (by decide) (by decide))), (H.2.2.2.2.2.2.1).other W (Or.inr (slot_ne (a0 := a0) (C := "com/example/orbifold/orbifold/solvers/BellmanSystem") (Or.inl (hw _ (List.mem_of_getElem? (i := 23) rfl))) (Or.inl (hw _ (List.mem_of_getElem? (i := 35) rfl))) (by decide) (t := (.array .double)) (t' := .int) (by decide) (by decide))), (H.2.2.2.2.2.2.2.1).other W (Or.inr (slot_ne (a0 := a0) (C := "com/example/orbifold/orbifold/solvers/BellmanSystem") (Or.inl (hw _ (List.mem_of_getElem? (i := 30) rfl))) (Or.inl (hw _ (List.mem_of_getElem? (i := 35) rfl))) (by decide) (t := .int) (t' := .int) (by decide) (by decide))), (H.2.2.2.2.2.2.2.2.1).same W, (H.2.2.2.2.2.2.2.2.2.1).other W (Or.inr (slot_ne (a0 := a0) (C := "com/example/orbifold/orbifold/solvers/BellmanSystem") (Or.inl (hw _ (List.mem_of_getElem? (i := 45) rfl))) (Or.inl (hw _ (List.mem_of_getElem? (i := 35) rfl))) (by decide) (t := .int) (t' := .int) (by decide) (by decide))), (H.2.2.2.2.2.2.2.2.2.2).other W (Or.inr (slot_ne (a0 := a0) (C := "com/example/orbifold/orbifold/solvers/BellmanSystem") (Or.inl (hw _ (List.mem_of_getElem? (i := 67) rfl))) (Or.inl (hw _ (List.mem_of_getElem? (i := 35) rfl))) (by decide) (t := .boolean) (t' := .int) (by decide) (by decide)))⟩
theorem BO.put_terms {Z : State} {h h' : Heap} {a : Nat} {ra : Nat} {ca : Nat} {ka : Nat} {la : Nat} {fa : Nat} {va : Nat} {nr : Int32} {nc : Int32} {nt : Int32} {fo : Int32} {w : Int32} (a0 : Array Value) (hw : ∀ d ∈ tables_1, d.before a0 Z = true) (H : BO Z h a ra ca ka la fa va nr nc nt fo) (W : Wr h h' a (Jvm.RoadKit.slotOf Z "com/example/orbifold/orbifold/solvers/BellmanSystem" "terms" "I") (.int w)) : BO Z h' a ra ca ka la fa va nr nc w fo := ⟨H.1.wr W, (H.2.1).other W (Or.inr (slot_ne (a0 := a0) (C := "com/example/orbifold/orbifold/solvers/BellmanSystem") (Or.inl (hw _ (List.mem_of_getElem? (i := 12) rfl))) (Or.inl (hw _ (List.mem_of_getElem? (i := 45) rfl))) (by decide) (t := (.array .int)) (t' := .int) (by decide) (by decide))), (H.2.2.1).other W (Or.inr (slot_ne (a0 := a0) (C := "com/example/orbifold/orbifold/solvers/BellmanSystem") (Or.inl (hw _ (List.mem_of_getElem? (i := 14) rfl))) (Or.inl (hw _ (List.mem_of_getElem? (i := 45) rfl))) (by decide) (t := (.array .int)) (t' := .int) (by decide) (by decide))), (H.2.2.2.1).other W (Or.inr (slot_ne (a0 := a0) (C := "com/example/orbifold/orbifold/solvers/BellmanSystem") (Or.inl (hw _ (List.mem_of_getElem? (i := 17) rfl))) (Or.inl (hw _ (List.mem_of_getElem? (i := 45) rfl))) (by decide) (t := (.array .double)) (t' := .int) (by decide) (by decide))), (H.2.2.2.2.1).other W (Or.inr (slot_ne (a0 := a0) (C := "com/example/orbifold/orbifold/solvers/BellmanSystem") (Or.inl (hw _ (List.mem_of_getElem? (i := 19) rfl))) (Or.inl (hw _ (List.mem_of_getElem? (i := 45) rfl))) (by decide) (t := (.array .int)) (t' := .int) (by decide) (by decide))), (H.2.2.2.2.2.1).other W (Or.inr (slot_ne (a0 := a0) (C := "com/example/orbifold/orbifold/solvers/BellmanSystem") (Or.inl (hw _ (List.mem_of_getElem? (i := 21) rfl))) (Or.inl (hw _ (List.mem_of_getElem? (i := 45) rfl))) (by decide) (t := (.array .double)) (t' := .int) (by decide) (by decide))), (H.2.2.2.2.2.2.1).other W (Or.inr (slot_ne (a0 := a0) (C := "com/example/orbifold/orbifold/solvers/BellmanSystem") (Or.inl (hw _ (List.mem_of_getElem? (i := 23) rfl))) (Or.inl (hw _ (List.mem_of_getElem? (i := 45) rfl))) (by decide) (t := (.array .double)) (t' := .int) (by decide) (by decide))), (H.2.2.2.2.2.2.2.1).other W (Or.inr (slot_ne (a0 := a0) (C := "com/example/orbifold/orbifold/solvers/BellmanSystem") (Or.inl (hw _ (List.mem_of_getElem? (i := 30) rfl))) (Or.inl (hw _ (List.mem_of_getElem? (i := 45) rfl))) (by decide) (t := .int) (t' := .int) (by decide) (by decide))), (H.2.2.2.2.2.2.2.2.1).other W (Or.inr (slot_ne (a0 := a0) (C := "com/example/orbifold/orbifold/solvers/BellmanSystem") (Or.inl (hw _ (List.mem_of_getElem? (i := 35) rfl))) (Or.inl (hw _ (List.mem_of_getElem? (i := 45) rfl))) (by decide) (t := .int) (t' := .int) (by decide) (by decide))), (H.2.2.2.2.2.2.2.2.2.1).same W, (H.2.2.2.2.2.2.2.2.2.2).other W (Or.inr (slot_ne (a0 := a0) (C := "com/example/orbifold/orbifold/solvers/BellmanSystem") (Or.inl (hw _ (List.mem_of_getElem? (i := 67) rfl))) (Or.inl (hw _ (List.mem_of_getElem? (i := 45) rfl))) (by decide) (t := .boolean) (t' := .int) (by decide) (by decide)))⟩
theorem BO.put_folded {Z : State} {h h' : Heap} {a : Nat} {ra : Nat} {ca : Nat} {ka : Nat} {la : Nat} {fa : Nat} {va : Nat} {nr : Int32} {nc : Int32} {nt : Int32} {fo : Int32} {w : Int32} (a0 : Array Value) (hw : ∀ d ∈ tables_1, d.before a0 Z = true) (H : BO Z h a ra ca ka la fa va nr nc nt fo) (W : Wr h h' a (Jvm.RoadKit.slotOf Z "com/example/orbifold/orbifold/solvers/BellmanSystem" "folded" "Z") (.int w)) : BO Z h' a ra ca ka la fa va nr nc nt w := ⟨H.1.wr W, (H.2.1).other W (Or.inr (slot_ne (a0 := a0) (C := "com/example/orbifold/orbifold/solvers/BellmanSystem") (Or.inl (hw _ (List.mem_of_getElem? (i := 12) rfl))) (Or.inl (hw _ (List.mem_of_getElem? (i := 67) rfl))) (by decide) (t := (.array .int)) (t' := .boolean) (by decide) (by decide))), (H.2.2.1).other W (Or.inr (slot_ne (a0 := a0) (C := "com/example/orbifold/orbifold/solvers/BellmanSystem") (Or.inl (hw _ (List.mem_of_getElem? (i := 14) rfl))) (Or.inl (hw _ (List.mem_of_getElem? (i := 67) rfl))) (by decide) (t := (.array .int)) (t' := .boolean) (by decide) (by decide))), (H.2.2.2.1).other W (Or.inr (slot_ne (a0 := a0) (C := "com/example/orbifold/orbifold/solvers/BellmanSystem") (Or.inl (hw _ (List.mem_of_getElem? (i := 17) rfl))) (Or.inl (hw _ (List.mem_of_getElem? (i := 67) rfl))) (by decide) (t := (.array .double)) (t' := .boolean) (by decide) (by decide))), (H.2.2.2.2.1).other W (Or.inr (slot_ne (a0 := a0) (C := "com/example/orbifold/orbifold/solvers/BellmanSystem") (Or.inl (hw _ (List.mem_of_getElem? (i := 19) rfl))) (Or.inl (hw _ (List.mem_of_getElem? (i := 67) rfl))) (by decide) (t := (.array .int)) (t' := .boolean) (by decide) (by decide))), (H.2.2.2.2.2.1).other W (Or.inr (slot_ne (a0 := a0) (C := "com/example/orbifold/orbifold/solvers/BellmanSystem") (Or.inl (hw _ (List.mem_of_getElem? (i := 21) rfl))) (Or.inl (hw _ (List.mem_of_getElem? (i := 67) rfl))) (by decide) (t := (.array .double)) (t' := .boolean) (by decide) (by decide))), (H.2.2.2.2.2.2.1).other W (Or.inr (slot_ne (a0 := a0) (C := "com/example/orbifold/orbifold/solvers/BellmanSystem") (Or.inl (hw _ (List.mem_of_getElem? (i := 23) rfl))) (Or.inl (hw _ (List.mem_of_getElem? (i := 67) rfl))) (by decide) (t := (.array .double)) (t' := .boolean) (by decide) (by decide))), (H.2.2.2.2.2.2.2.1).other W (Or.inr (slot_ne (a0 := a0) (C := "com/example/orbifold/orbifold/solvers/BellmanSystem") (Or.inl (hw _ (List.mem_of_getElem? (i := 30) rfl))) (Or.inl (hw _ (List.mem_of_getElem? (i := 67) rfl))) (by decide) (t := .int) (t' := .boolean) (by decide) (by decide))), (H.2.2.2.2.2.2.2.2.1).other W (Or.inr (slot_ne (a0 := a0) (C := "com/example/orbifold/orbifold/solvers/BellmanSystem") (Or.inl (hw _ (List.mem_of_getElem? (i := 35) rfl))) (Or.inl (hw _ (List.mem_of_getElem? (i := 67) rfl))) (by decide) (t := .int) (t' := .boolean) (by decide) (by decide))), (H.2.2.2.2.2.2.2.2.2.1).other W (Or.inr (slot_ne (a0 := a0) (C := "com/example/orbifold/orbifold/solvers/BellmanSystem") (Or.inl (hw _ (List.mem_of_getElem? (i := 45) rfl))) (Or.inl (hw _ (List.mem_of_getElem? (i := 67) rfl))) (by decide) (t := .int) (t' := .boolean) (by decide) (by decide))), (H.2.2.2.2.2.2.2.2.2.2).same W⟩
def Q1 (v : Option Value) (_ : Heap) : Prop := v = some (.int 1)
def BS (Z : State) (n0 : Nat) (h : Heap) (a ra ca ka la fa va : Nat) (nr nc nt fo : Int32) (rs cs : List Int32) (ks : List UInt64) (ls : List Int32) (fs vs : List UInt64) : Prop :=
  BO Z h a ra ca ka la fa va nr nc nt fo ∧ ArI Z h ra rs ∧ ArI Z h ca cs ∧ ArD Z h ka ks ∧ ArI Z h la ls ∧ ArD Z h fa fs ∧ ArD Z h va vs ∧ (n0 ≤ a ∧ a < ra ∧ ra < ca ∧ ca < ka ∧ ka < la ∧ la < fa ∧ fa < va)
theorem BS.set_rowStart {Z : State} {n0 : Nat} {h h' : Heap} {a ra ca ka la fa va : Nat} {nr nc nt fo : Int32} {rs cs ls : List Int32} {ks fs vs : List UInt64} {xs : List Int32} (H : BS Z n0 h a ra ca ka la fa va nr nc nt fo rs cs ks ls fs vs) (K : Keep h h' [ra]) (A : ArI Z h' ra xs) : BS Z n0 h' a ra ca ka la fa va nr nc nt fo xs cs ks ls fs vs := ⟨(H.1.keep K (ninN (by have := H.2.2.2.2.2.2.2; omega) nin0)), A, (H.2.2.1.keep K (ninN (by have := H.2.2.2.2.2.2.2; omega) nin0)), (H.2.2.2.1.keep K (ninN (by have := H.2.2.2.2.2.2.2; omega) nin0)), (H.2.2.2.2.1.keep K (ninN (by have := H.2.2.2.2.2.2.2; omega) nin0)), (H.2.2.2.2.2.1.keep K (ninN (by have := H.2.2.2.2.2.2.2; omega) nin0)), (H.2.2.2.2.2.2.1.keep K (ninN (by have := H.2.2.2.2.2.2.2; omega) nin0)), H.2.2.2.2.2.2.2⟩
theorem BS.set_choiceStart {Z : State} {n0 : Nat} {h h' : Heap} {a ra ca ka la fa va : Nat} {nr nc nt fo : Int32} {rs cs ls : List Int32} {ks fs vs : List UInt64} {xs : List Int32} (H : BS Z n0 h a ra ca ka la fa va nr nc nt fo rs cs ks ls fs vs) (K : Keep h h' [ca]) (A : ArI Z h' ca xs) : BS Z n0 h' a ra ca ka la fa va nr nc nt fo rs xs ks ls fs vs := ⟨(H.1.keep K (ninN (by have := H.2.2.2.2.2.2.2; omega) nin0)), (H.2.1.keep K (ninN (by have := H.2.2.2.2.2.2.2; omega) nin0)), A, (H.2.2.2.1.keep K (ninN (by have := H.2.2.2.2.2.2.2; omega) nin0)), (H.2.2.2.2.1.keep K (ninN (by have := H.2.2.2.2.2.2.2; omega) nin0)), (H.2.2.2.2.2.1.keep K (ninN (by have := H.2.2.2.2.2.2.2; omega) nin0)), (H.2.2.2.2.2.2.1.keep K (ninN (by have := H.2.2.2.2.2.2.2; omega) nin0)), H.2.2.2.2.2.2.2⟩
theorem BS.set_constants {Z : State} {n0 : Nat} {h h' : Heap} {a ra ca ka la fa va : Nat} {nr nc nt fo : Int32} {rs cs ls : List Int32} {ks fs vs : List UInt64} {xs : List UInt64} (H : BS Z n0 h a ra ca ka la fa va nr nc nt fo rs cs ks ls fs vs) (K : Keep h h' [ka]) (A : ArD Z h' ka xs) : BS Z n0 h' a ra ca ka la fa va nr nc nt fo rs cs xs ls fs vs := ⟨(H.1.keep K (ninN (by have := H.2.2.2.2.2.2.2; omega) nin0)), (H.2.1.keep K (ninN (by have := H.2.2.2.2.2.2.2; omega) nin0)), (H.2.2.1.keep K (ninN (by have := H.2.2.2.2.2.2.2; omega) nin0)), A, (H.2.2.2.2.1.keep K (ninN (by have := H.2.2.2.2.2.2.2; omega) nin0)), (H.2.2.2.2.2.1.keep K (ninN (by have := H.2.2.2.2.2.2.2; omega) nin0)), (H.2.2.2.2.2.2.1.keep K (ninN (by have := H.2.2.2.2.2.2.2; omega) nin0)), H.2.2.2.2.2.2.2⟩
theorem BS.set_columns {Z : State} {n0 : Nat} {h h' : Heap} {a ra ca ka la fa va : Nat} {nr nc nt fo : Int32} {rs cs ls : List Int32} {ks fs vs : List UInt64} {xs : List Int32} (H : BS Z n0 h a ra ca ka la fa va nr nc nt fo rs cs ks ls fs vs) (K : Keep h h' [la]) (A : ArI Z h' la xs) : BS Z n0 h' a ra ca ka la fa va nr nc nt fo rs cs ks xs fs vs := ⟨(H.1.keep K (ninN (by have := H.2.2.2.2.2.2.2; omega) nin0)), (H.2.1.keep K (ninN (by have := H.2.2.2.2.2.2.2; omega) nin0)), (H.2.2.1.keep K (ninN (by have := H.2.2.2.2.2.2.2; omega) nin0)), (H.2.2.2.1.keep K (ninN (by have := H.2.2.2.2.2.2.2; omega) nin0)), A, (H.2.2.2.2.2.1.keep K (ninN (by have := H.2.2.2.2.2.2.2; omega) nin0)), (H.2.2.2.2.2.2.1.keep K (ninN (by have := H.2.2.2.2.2.2.2; omega) nin0)), H.2.2.2.2.2.2.2⟩
theorem BS.set_coefficients {Z : State} {n0 : Nat} {h h' : Heap} {a ra ca ka la fa va : Nat} {nr nc nt fo : Int32} {rs cs ls : List Int32} {ks fs vs : List UInt64} {xs : List UInt64} (H : BS Z n0 h a ra ca ka la fa va nr nc nt fo rs cs ks ls fs vs) (K : Keep h h' [fa]) (A : ArD Z h' fa xs) : BS Z n0 h' a ra ca ka la fa va nr nc nt fo rs cs ks ls xs vs := ⟨(H.1.keep K (ninN (by have := H.2.2.2.2.2.2.2; omega) nin0)), (H.2.1.keep K (ninN (by have := H.2.2.2.2.2.2.2; omega) nin0)), (H.2.2.1.keep K (ninN (by have := H.2.2.2.2.2.2.2; omega) nin0)), (H.2.2.2.1.keep K (ninN (by have := H.2.2.2.2.2.2.2; omega) nin0)), (H.2.2.2.2.1.keep K (ninN (by have := H.2.2.2.2.2.2.2; omega) nin0)), A, (H.2.2.2.2.2.2.1.keep K (ninN (by have := H.2.2.2.2.2.2.2; omega) nin0)), H.2.2.2.2.2.2.2⟩
theorem BS.set_leaving {Z : State} {n0 : Nat} {h h' : Heap} {a ra ca ka la fa va : Nat} {nr nc nt fo : Int32} {rs cs ls : List Int32} {ks fs vs : List UInt64} {xs : List UInt64} (H : BS Z n0 h a ra ca ka la fa va nr nc nt fo rs cs ks ls fs vs) (K : Keep h h' [va]) (A : ArD Z h' va xs) : BS Z n0 h' a ra ca ka la fa va nr nc nt fo rs cs ks ls fs xs := ⟨(H.1.keep K (ninN (by have := H.2.2.2.2.2.2.2; omega) nin0)), (H.2.1.keep K (ninN (by have := H.2.2.2.2.2.2.2; omega) nin0)), (H.2.2.1.keep K (ninN (by have := H.2.2.2.2.2.2.2; omega) nin0)), (H.2.2.2.1.keep K (ninN (by have := H.2.2.2.2.2.2.2; omega) nin0)), (H.2.2.2.2.1.keep K (ninN (by have := H.2.2.2.2.2.2.2; omega) nin0)), (H.2.2.2.2.2.1.keep K (ninN (by have := H.2.2.2.2.2.2.2; omega) nin0)), A, H.2.2.2.2.2.2.2⟩
theorem BS.put_rows {Z : State} {n0 : Nat} {h h' : Heap} {a ra ca ka la fa va : Nat} {nr nc nt fo : Int32} {rs cs ls : List Int32} {ks fs vs : List UInt64} {w : Int32} (a0 : Array Value) (hw : ∀ d ∈ tables_1, d.before a0 Z = true) (H : BS Z n0 h a ra ca ka la fa va nr nc nt fo rs cs ks ls fs vs) (W : Wr h h' a (Jvm.RoadKit.slotOf Z "com/example/orbifold/orbifold/solvers/BellmanSystem" "rows" "I") (.int w)) : BS Z n0 h' a ra ca ka la fa va w nc nt fo rs cs ks ls fs vs := ⟨H.1.put_rows a0 hw W, (H.2.1.other W (by have := H.2.2.2.2.2.2.2; omega)), (H.2.2.1.other W (by have := H.2.2.2.2.2.2.2; omega)), (H.2.2.2.1.other W (by have := H.2.2.2.2.2.2.2; omega)), (H.2.2.2.2.1.other W (by have := H.2.2.2.2.2.2.2; omega)), (H.2.2.2.2.2.1.other W (by have := H.2.2.2.2.2.2.2; omega)), (H.2.2.2.2.2.2.1.other W (by have := H.2.2.2.2.2.2.2; omega)), H.2.2.2.2.2.2.2⟩
theorem BS.put_choices {Z : State} {n0 : Nat} {h h' : Heap} {a ra ca ka la fa va : Nat} {nr nc nt fo : Int32} {rs cs ls : List Int32} {ks fs vs : List UInt64} {w : Int32} (a0 : Array Value) (hw : ∀ d ∈ tables_1, d.before a0 Z = true) (H : BS Z n0 h a ra ca ka la fa va nr nc nt fo rs cs ks ls fs vs) (W : Wr h h' a (Jvm.RoadKit.slotOf Z "com/example/orbifold/orbifold/solvers/BellmanSystem" "choices" "I") (.int w)) : BS Z n0 h' a ra ca ka la fa va nr w nt fo rs cs ks ls fs vs := ⟨H.1.put_choices a0 hw W, (H.2.1.other W (by have := H.2.2.2.2.2.2.2; omega)), (H.2.2.1.other W (by have := H.2.2.2.2.2.2.2; omega)), (H.2.2.2.1.other W (by have := H.2.2.2.2.2.2.2; omega)), (H.2.2.2.2.1.other W (by have := H.2.2.2.2.2.2.2; omega)), (H.2.2.2.2.2.1.other W (by have := H.2.2.2.2.2.2.2; omega)), (H.2.2.2.2.2.2.1.other W (by have := H.2.2.2.2.2.2.2; omega)), H.2.2.2.2.2.2.2⟩
theorem BS.put_terms {Z : State} {n0 : Nat} {h h' : Heap} {a ra ca ka la fa va : Nat} {nr nc nt fo : Int32} {rs cs ls : List Int32} {ks fs vs : List UInt64} {w : Int32} (a0 : Array Value) (hw : ∀ d ∈ tables_1, d.before a0 Z = true) (H : BS Z n0 h a ra ca ka la fa va nr nc nt fo rs cs ks ls fs vs) (W : Wr h h' a (Jvm.RoadKit.slotOf Z "com/example/orbifold/orbifold/solvers/BellmanSystem" "terms" "I") (.int w)) : BS Z n0 h' a ra ca ka la fa va nr nc w fo rs cs ks ls fs vs := ⟨H.1.put_terms a0 hw W, (H.2.1.other W (by have := H.2.2.2.2.2.2.2; omega)), (H.2.2.1.other W (by have := H.2.2.2.2.2.2.2; omega)), (H.2.2.2.1.other W (by have := H.2.2.2.2.2.2.2; omega)), (H.2.2.2.2.1.other W (by have := H.2.2.2.2.2.2.2; omega)), (H.2.2.2.2.2.1.other W (by have := H.2.2.2.2.2.2.2; omega)), (H.2.2.2.2.2.2.1.other W (by have := H.2.2.2.2.2.2.2; omega)), H.2.2.2.2.2.2.2⟩
theorem BS.put_folded {Z : State} {n0 : Nat} {h h' : Heap} {a ra ca ka la fa va : Nat} {nr nc nt fo : Int32} {rs cs ls : List Int32} {ks fs vs : List UInt64} {w : Int32} (a0 : Array Value) (hw : ∀ d ∈ tables_1, d.before a0 Z = true) (H : BS Z n0 h a ra ca ka la fa va nr nc nt fo rs cs ks ls fs vs) (W : Wr h h' a (Jvm.RoadKit.slotOf Z "com/example/orbifold/orbifold/solvers/BellmanSystem" "folded" "Z") (.int w)) : BS Z n0 h' a ra ca ka la fa va nr nc nt w rs cs ks ls fs vs := ⟨H.1.put_folded a0 hw W, (H.2.1.other W (by have := H.2.2.2.2.2.2.2; omega)), (H.2.2.1.other W (by have := H.2.2.2.2.2.2.2; omega)), (H.2.2.2.1.other W (by have := H.2.2.2.2.2.2.2; omega)), (H.2.2.2.2.1.other W (by have := H.2.2.2.2.2.2.2; omega)), (H.2.2.2.2.2.1.other W (by have := H.2.2.2.2.2.2.2; omega)), (H.2.2.2.2.2.2.1.other W (by have := H.2.2.2.2.2.2.2; omega)), H.2.2.2.2.2.2.2⟩
theorem BS.put_rowStart {Z : State} {n0 : Nat} {h h' : Heap} {a ra ca ka la fa va : Nat} {nr nc nt fo : Int32} {rs cs ls : List Int32} {ks fs vs : List UInt64} (a0 : Array Value) (hw : ∀ d ∈ tables_1, d.before a0 Z = true) (H : BS Z n0 h a ra ca ka la fa va nr nc nt fo rs cs ks ls fs vs) (W : Wr h h' a (Jvm.RoadKit.slotOf Z "com/example/orbifold/orbifold/solvers/BellmanSystem" "rowStart" "[I") (.ref ra)) : BS Z n0 h' a ra ca ka la fa va nr nc nt fo rs cs ks ls fs vs := ⟨H.1.put_rowStart a0 hw W, (H.2.1.other W (by have := H.2.2.2.2.2.2.2; omega)), (H.2.2.1.other W (by have := H.2.2.2.2.2.2.2; omega)), (H.2.2.2.1.other W (by have := H.2.2.2.2.2.2.2; omega)), (H.2.2.2.2.1.other W (by have := H.2.2.2.2.2.2.2; omega)), (H.2.2.2.2.2.1.other W (by have := H.2.2.2.2.2.2.2; omega)), (H.2.2.2.2.2.2.1.other W (by have := H.2.2.2.2.2.2.2; omega)), H.2.2.2.2.2.2.2⟩
theorem BS.put_choiceStart {Z : State} {n0 : Nat} {h h' : Heap} {a ra ca ka la fa va : Nat} {nr nc nt fo : Int32} {rs cs ls : List Int32} {ks fs vs : List UInt64} (a0 : Array Value) (hw : ∀ d ∈ tables_1, d.before a0 Z = true) (H : BS Z n0 h a ra ca ka la fa va nr nc nt fo rs cs ks ls fs vs) (W : Wr h h' a (Jvm.RoadKit.slotOf Z "com/example/orbifold/orbifold/solvers/BellmanSystem" "choiceStart" "[I") (.ref ca)) : BS Z n0 h' a ra ca ka la fa va nr nc nt fo rs cs ks ls fs vs := ⟨H.1.put_choiceStart a0 hw W, (H.2.1.other W (by have := H.2.2.2.2.2.2.2; omega)), (H.2.2.1.other W (by have := H.2.2.2.2.2.2.2; omega)), (H.2.2.2.1.other W (by have := H.2.2.2.2.2.2.2; omega)), (H.2.2.2.2.1.other W (by have := H.2.2.2.2.2.2.2; omega)), (H.2.2.2.2.2.1.other W (by have := H.2.2.2.2.2.2.2; omega)), (H.2.2.2.2.2.2.1.other W (by have := H.2.2.2.2.2.2.2; omega)), H.2.2.2.2.2.2.2⟩
theorem BS.put_constants {Z : State} {n0 : Nat} {h h' : Heap} {a ra ca ka la fa va : Nat} {nr nc nt fo : Int32} {rs cs ls : List Int32} {ks fs vs : List UInt64} (a0 : Array Value) (hw : ∀ d ∈ tables_1, d.before a0 Z = true) (H : BS Z n0 h a ra ca ka la fa va nr nc nt fo rs cs ks ls fs vs) (W : Wr h h' a (Jvm.RoadKit.slotOf Z "com/example/orbifold/orbifold/solvers/BellmanSystem" "constants" "[D") (.ref ka)) : BS Z n0 h' a ra ca ka la fa va nr nc nt fo rs cs ks ls fs vs := ⟨H.1.put_constants a0 hw W, (H.2.1.other W (by have := H.2.2.2.2.2.2.2; omega)), (H.2.2.1.other W (by have := H.2.2.2.2.2.2.2; omega)), (H.2.2.2.1.other W (by have := H.2.2.2.2.2.2.2; omega)), (H.2.2.2.2.1.other W (by have := H.2.2.2.2.2.2.2; omega)), (H.2.2.2.2.2.1.other W (by have := H.2.2.2.2.2.2.2; omega)), (H.2.2.2.2.2.2.1.other W (by have := H.2.2.2.2.2.2.2; omega)), H.2.2.2.2.2.2.2⟩
theorem BS.put_columns {Z : State} {n0 : Nat} {h h' : Heap} {a ra ca ka la fa va : Nat} {nr nc nt fo : Int32} {rs cs ls : List Int32} {ks fs vs : List UInt64} (a0 : Array Value) (hw : ∀ d ∈ tables_1, d.before a0 Z = true) (H : BS Z n0 h a ra ca ka la fa va nr nc nt fo rs cs ks ls fs vs) (W : Wr h h' a (Jvm.RoadKit.slotOf Z "com/example/orbifold/orbifold/solvers/BellmanSystem" "columns" "[I") (.ref la)) : BS Z n0 h' a ra ca ka la fa va nr nc nt fo rs cs ks ls fs vs := ⟨H.1.put_columns a0 hw W, (H.2.1.other W (by have := H.2.2.2.2.2.2.2; omega)), (H.2.2.1.other W (by have := H.2.2.2.2.2.2.2; omega)), (H.2.2.2.1.other W (by have := H.2.2.2.2.2.2.2; omega)), (H.2.2.2.2.1.other W (by have := H.2.2.2.2.2.2.2; omega)), (H.2.2.2.2.2.1.other W (by have := H.2.2.2.2.2.2.2; omega)), (H.2.2.2.2.2.2.1.other W (by have := H.2.2.2.2.2.2.2; omega)), H.2.2.2.2.2.2.2⟩
theorem BS.put_coefficients {Z : State} {n0 : Nat} {h h' : Heap} {a ra ca ka la fa va : Nat} {nr nc nt fo : Int32} {rs cs ls : List Int32} {ks fs vs : List UInt64} (a0 : Array Value) (hw : ∀ d ∈ tables_1, d.before a0 Z = true) (H : BS Z n0 h a ra ca ka la fa va nr nc nt fo rs cs ks ls fs vs) (W : Wr h h' a (Jvm.RoadKit.slotOf Z "com/example/orbifold/orbifold/solvers/BellmanSystem" "coefficients" "[D") (.ref fa)) : BS Z n0 h' a ra ca ka la fa va nr nc nt fo rs cs ks ls fs vs := ⟨H.1.put_coefficients a0 hw W, (H.2.1.other W (by have := H.2.2.2.2.2.2.2; omega)), (H.2.2.1.other W (by have := H.2.2.2.2.2.2.2; omega)), (H.2.2.2.1.other W (by have := H.2.2.2.2.2.2.2; omega)), (H.2.2.2.2.1.other W (by have := H.2.2.2.2.2.2.2; omega)), (H.2.2.2.2.2.1.other W (by have := H.2.2.2.2.2.2.2; omega)), (H.2.2.2.2.2.2.1.other W (by have := H.2.2.2.2.2.2.2; omega)), H.2.2.2.2.2.2.2⟩
theorem BS.put_leaving {Z : State} {n0 : Nat} {h h' : Heap} {a ra ca ka la fa va : Nat} {nr nc nt fo : Int32} {rs cs ls : List Int32} {ks fs vs : List UInt64} (a0 : Array Value) (hw : ∀ d ∈ tables_1, d.before a0 Z = true) (H : BS Z n0 h a ra ca ka la fa va nr nc nt fo rs cs ks ls fs vs) (W : Wr h h' a (Jvm.RoadKit.slotOf Z "com/example/orbifold/orbifold/solvers/BellmanSystem" "leaving" "[D") (.ref va)) : BS Z n0 h' a ra ca ka la fa va nr nc nt fo rs cs ks ls fs vs := ⟨H.1.put_leaving a0 hw W, (H.2.1.other W (by have := H.2.2.2.2.2.2.2; omega)), (H.2.2.1.other W (by have := H.2.2.2.2.2.2.2; omega)), (H.2.2.2.1.other W (by have := H.2.2.2.2.2.2.2; omega)), (H.2.2.2.2.1.other W (by have := H.2.2.2.2.2.2.2; omega)), (H.2.2.2.2.2.1.other W (by have := H.2.2.2.2.2.2.2; omega)), (H.2.2.2.2.2.2.1.other W (by have := H.2.2.2.2.2.2.2; omega)), H.2.2.2.2.2.2.2⟩
theorem in4 {α : Type} {a b c d : α} {t : List α} {i : Nat} (h : i < 4) : i < ([a, b, c, d] ++ t).length := by
  simp only [List.length_append, List.length_cons, List.length_nil]; omega
theorem len4 {α : Type} {a b c d : α} {t : List α} (h : t.length = 1020) : ([a, b, c, d] ++ t).length = 1024 := by
  simp only [List.length_append, List.length_cons, List.length_nil]; omega
theorem rep4 {α : Type} (x : α) : List.replicate 1024 x = [x, x, x, x] ++ List.replicate 1020 x := by
  rw [show 1024 = 1020 + 1 + 1 + 1 + 1 from rfl, List.replicate_succ, List.replicate_succ, List.replicate_succ, List.replicate_succ]; rfl
set_option maxRecDepth 65536 in
set_option maxHeartbeats 40000000 in
theorem ensureI_go (l : Launch) (Z : State) {n0 : Nat} {h : Heap} {x : Nat} {n : Int32} {xs : List Int32} (A : ArI Z h x xs) (hl : xs.length = 1024) (hn : n.toInt ≤ 1024) :
    Go l Z ({ frames := 0, cells := 0, slots := 0, locals := 0 } : Room) ((⟨"com/example/orbifold/orbifold/solvers/BellmanSystem", "ensure", "([II)[I"⟩ : MethodName), prog_167_method_33_code, 2, some (.array .int)) n0 (fun v h' => v = some (.ref x) ∧ h' = h) h 0 0 0 #[.val (.ref x), .val (.int n)] [] := by
  refine Go.iloadN 1 d4_0 rfl rfl ?_
  refine Go.aloadN 2 d4_1 rfl rfl rfl ?_
  refine Go.alen 3 1024 A (by rw [List.length_map, hl]; decide) d4_2 rfl ?_
  refine Go.icmpF 6 d4_3 rfl (show (n).toInt ≤ (1024 : Int) from by have : (1024 : Int32).toInt = 1024 := (by decide); omega) ?_
  refine Go.aloadN 7 d4_6 rfl rfl rfl ?_
  refine Go.goto 22 d4_7 (by decide) (by decide) ?_
  exact Go.aret d4_22 rfl rfl rfl (by decide) (by decide) ⟨rfl, rfl⟩
set_option maxRecDepth 65536 in
set_option maxHeartbeats 40000000 in
theorem ensureD_go (l : Launch) (Z : State) {n0 : Nat} {h : Heap} {x : Nat} {n : Int32} {xs : List UInt64} (A : ArD Z h x xs) (hl : xs.length = 1024) (hn : n.toInt ≤ 1024) :
    Go l Z ({ frames := 0, cells := 0, slots := 0, locals := 0 } : Room) ((⟨"com/example/orbifold/orbifold/solvers/BellmanSystem", "ensure", "([DI)[D"⟩ : MethodName), prog_167_method_34_code, 2, some (.array .double)) n0 (fun v h' => v = some (.ref x) ∧ h' = h) h 0 0 0 #[.val (.ref x), .val (.int n)] [] := by
  refine Go.iloadN 1 d6_0 rfl rfl ?_
  refine Go.aloadN 2 d6_1 rfl rfl rfl ?_
  refine Go.alen 3 1024 A (by rw [List.length_map, hl]; decide) d6_2 rfl ?_
  refine Go.icmpF 6 d6_3 rfl (show (n).toInt ≤ (1024 : Int) from by have : (1024 : Int32).toInt = 1024 := (by decide); omega) ?_
  refine Go.aloadN 7 d6_6 rfl rfl rfl ?_
  refine Go.goto 22 d6_7 (by decide) (by decide) ?_
  exact Go.aret d6_22 rfl rfl rfl (by decide) (by decide) ⟨rfl, rfl⟩
def BN (Z : State) (h : Heap) (a : Nat) (ra : Value) (ca : Value) (ka : Value) (la : Value) (fa : Value) (va : Value) (nr : Int32) (nc : Int32) (nt : Int32) (fo : Int32) : Prop := Exa Z h a "com/example/orbifold/orbifold/solvers/BellmanSystem" ∧ Fld Z h a "com/example/orbifold/orbifold/solvers/BellmanSystem" "rowStart" "[I" ( ra) ∧ Fld Z h a "com/example/orbifold/orbifold/solvers/BellmanSystem" "choiceStart" "[I" ( ca) ∧ Fld Z h a "com/example/orbifold/orbifold/solvers/BellmanSystem" "constants" "[D" ( ka) ∧ Fld Z h a "com/example/orbifold/orbifold/solvers/BellmanSystem" "columns" "[I" ( la) ∧ Fld Z h a "com/example/orbifold/orbifold/solvers/BellmanSystem" "coefficients" "[D" ( fa) ∧ Fld Z h a "com/example/orbifold/orbifold/solvers/BellmanSystem" "leaving" "[D" ( va) ∧ Fld Z h a "com/example/orbifold/orbifold/solvers/BellmanSystem" "rows" "I" (.int nr) ∧ Fld Z h a "com/example/orbifold/orbifold/solvers/BellmanSystem" "choices" "I" (.int nc) ∧ Fld Z h a "com/example/orbifold/orbifold/solvers/BellmanSystem" "terms" "I" (.int nt) ∧ Fld Z h a "com/example/orbifold/orbifold/solvers/BellmanSystem" "folded" "Z" (.int fo)
theorem BN.ext {Z : State} {h h' : Heap} {a : Nat} {ra : Value} {ca : Value} {ka : Value} {la : Value} {fa : Value} {va : Value} {nr : Int32} {nc : Int32} {nt : Int32} {fo : Int32} (H : BN Z h a ra ca ka la fa va nr nc nt fo) (E : Ext h h') : BN Z h' a ra ca ka la fa va nr nc nt fo := ⟨H.1.ext E, (H.2.1).ext E, (H.2.2.1).ext E, (H.2.2.2.1).ext E, (H.2.2.2.2.1).ext E, (H.2.2.2.2.2.1).ext E, (H.2.2.2.2.2.2.1).ext E, (H.2.2.2.2.2.2.2.1).ext E, (H.2.2.2.2.2.2.2.2.1).ext E, (H.2.2.2.2.2.2.2.2.2.1).ext E, (H.2.2.2.2.2.2.2.2.2.2).ext E⟩
theorem BN.keep {Z : State} {h h' : Heap} {a : Nat} {ra : Value} {ca : Value} {ka : Value} {la : Value} {fa : Value} {va : Value} {nr : Int32} {nc : Int32} {nt : Int32} {fo : Int32} {ws : List Nat} (H : BN Z h a ra ca ka la fa va nr nc nt fo) (K : Keep h h' ws) (q : a ∉ ws) : BN Z h' a ra ca ka la fa va nr nc nt fo := ⟨H.1.keep K, (H.2.1).keep K q, (H.2.2.1).keep K q, (H.2.2.2.1).keep K q, (H.2.2.2.2.1).keep K q, (H.2.2.2.2.2.1).keep K q, (H.2.2.2.2.2.2.1).keep K q, (H.2.2.2.2.2.2.2.1).keep K q, (H.2.2.2.2.2.2.2.2.1).keep K q, (H.2.2.2.2.2.2.2.2.2.1).keep K q, (H.2.2.2.2.2.2.2.2.2.2).keep K q⟩
theorem BN.put_rowStart {Z : State} {h h' : Heap} {a : Nat} {ra : Value} {ca : Value} {ka : Value} {la : Value} {fa : Value} {va : Value} {nr : Int32} {nc : Int32} {nt : Int32} {fo : Int32} {w : Value} (a0 : Array Value) (hw : ∀ d ∈ tables_1, d.before a0 Z = true) (H : BN Z h a ra ca ka la fa va nr nc nt fo) (W : Wr h h' a (Jvm.RoadKit.slotOf Z "com/example/orbifold/orbifold/solvers/BellmanSystem" "rowStart" "[I") ( w)) : BN Z h' a w ca ka la fa va nr nc nt fo := ⟨H.1.wr W, (H.2.1).same W, (H.2.2.1).other W (Or.inr (slot_ne (a0 := a0) (C := "com/example/orbifold/orbifold/solvers/BellmanSystem") (Or.inl (hw _ (List.mem_of_getElem? (i := 14) rfl))) (Or.inl (hw _ (List.mem_of_getElem? (i := 12) rfl))) (by decide) (t := (.array .int)) (t' := (.array .int)) (by decide) (by decide))), (H.2.2.2.1).other W (Or.inr (slot_ne (a0 := a0) (C := "com/example/orbifold/orbifold/solvers/BellmanSystem") (Or.inl (hw _ (List.mem_of_getElem? (i := 17) rfl))) (Or.inl (hw _ (List.mem_of_getElem? (i := 12) rfl))) (by decide) (t := (.array .double)) (t' := (.array .int)) (by decide) (by decide))), (H.2.2.2.2.1).other W (Or.inr (slot_ne (a0 := a0) (C := "com/example/orbifold/orbifold/solvers/BellmanSystem") (Or.inl (hw _ (List.mem_of_getElem? (i := 19) rfl))) (Or.inl (hw _ (List.mem_of_getElem? (i := 12) rfl))) (by decide) (t := (.array .int)) (t' := (.array .int)) (by decide) (by decide))), (H.2.2.2.2.2.1).other W (Or.inr (slot_ne (a0 := a0) (C := "com/example/orbifold/orbifold/solvers/BellmanSystem") (Or.inl (hw _ (List.mem_of_getElem? (i := 21) rfl))) (Or.inl (hw _ (List.mem_of_getElem? (i := 12) rfl))) (by decide) (t := (.array .double)) (t' := (.array .int)) (by decide) (by decide))), (H.2.2.2.2.2.2.1).other W (Or.inr (slot_ne (a0 := a0) (C := "com/example/orbifold/orbifold/solvers/BellmanSystem") (Or.inl (hw _ (List.mem_of_getElem? (i := 23) rfl))) (Or.inl (hw _ (List.mem_of_getElem? (i := 12) rfl))) (by decide) (t := (.array .double)) (t' := (.array .int)) (by decide) (by decide))), (H.2.2.2.2.2.2.2.1).other W (Or.inr (slot_ne (a0 := a0) (C := "com/example/orbifold/orbifold/solvers/BellmanSystem") (Or.inl (hw _ (List.mem_of_getElem? (i := 30) rfl))) (Or.inl (hw _ (List.mem_of_getElem? (i := 12) rfl))) (by decide) (t := .int) (t' := (.array .int)) (by decide) (by decide))), (H.2.2.2.2.2.2.2.2.1).other W (Or.inr (slot_ne (a0 := a0) (C := "com/example/orbifold/orbifold/solvers/BellmanSystem") (Or.inl (hw _ (List.mem_of_getElem? (i := 35) rfl))) (Or.inl (hw _ (List.mem_of_getElem? (i := 12) rfl))) (by decide) (t := .int) (t' := (.array .int)) (by decide) (by decide))), (H.2.2.2.2.2.2.2.2.2.1).other W (Or.inr (slot_ne (a0 := a0) (C := "com/example/orbifold/orbifold/solvers/BellmanSystem") (Or.inl (hw _ (List.mem_of_getElem? (i := 45) rfl))) (Or.inl (hw _ (List.mem_of_getElem? (i := 12) rfl))) (by decide) (t := .int) (t' := (.array .int)) (by decide) (by decide))), (H.2.2.2.2.2.2.2.2.2.2).other W (Or.inr (slot_ne (a0 := a0) (C := "com/example/orbifold/orbifold/solvers/BellmanSystem") (Or.inl (hw _ (List.mem_of_getElem? (i := 67) rfl))) (Or.inl (hw _ (List.mem_of_getElem? (i := 12) rfl))) (by decide) (t := .boolean) (t' := (.array .int)) (by decide) (by decide)))⟩
theorem BN.put_choiceStart {Z : State} {h h' : Heap} {a : Nat} {ra : Value} {ca : Value} {ka : Value} {la : Value} {fa : Value} {va : Value} {nr : Int32} {nc : Int32} {nt : Int32} {fo : Int32} {w : Value} (a0 : Array Value) (hw : ∀ d ∈ tables_1, d.before a0 Z = true) (H : BN Z h a ra ca ka la fa va nr nc nt fo) (W : Wr h h' a (Jvm.RoadKit.slotOf Z "com/example/orbifold/orbifold/solvers/BellmanSystem" "choiceStart" "[I") ( w)) : BN Z h' a ra w ka la fa va nr nc nt fo := ⟨H.1.wr W, (H.2.1).other W (Or.inr (slot_ne (a0 := a0) (C := "com/example/orbifold/orbifold/solvers/BellmanSystem") (Or.inl (hw _ (List.mem_of_getElem? (i := 12) rfl))) (Or.inl (hw _ (List.mem_of_getElem? (i := 14) rfl))) (by decide) (t := (.array .int)) (t' := (.array .int)) (by decide) (by decide))), (H.2.2.1).same W, (H.2.2.2.1).other W (Or.inr (slot_ne (a0 := a0) (C := "com/example/orbifold/orbifold/solvers/BellmanSystem") (Or.inl (hw _ (List.mem_of_getElem? (i := 17) rfl))) (Or.inl (hw _ (List.mem_of_getElem? (i := 14) rfl))) (by decide) (t := (.array .double)) (t' := (.array .int)) (by decide) (by decide))), (H.2.2.2.2.1).other W (Or.inr (slot_ne (a0 := a0) (C := "com/example/orbifold/orbifold/solvers/BellmanSystem") (Or.inl (hw _ (List.mem_of_getElem? (i := 19) rfl))) (Or.inl (hw _ (List.mem_of_getElem? (i := 14) rfl))) (by decide) (t := (.array .int)) (t' := (.array .int)) (by decide) (by decide))), (H.2.2.2.2.2.1).other W (Or.inr (slot_ne (a0 := a0) (C := "com/example/orbifold/orbifold/solvers/BellmanSystem") (Or.inl (hw _ (List.mem_of_getElem? (i := 21) rfl))) (Or.inl (hw _ (List.mem_of_getElem? (i := 14) rfl))) (by decide) (t := (.array .double)) (t' := (.array .int)) (by decide) (by decide))), (H.2.2.2.2.2.2.1).other W (Or.inr (slot_ne (a0 := a0) (C := "com/example/orbifold/orbifold/solvers/BellmanSystem") (Or.inl (hw _ (List.mem_of_getElem? (i := 23) rfl))) (Or.inl (hw _ (List.mem_of_getElem? (i := 14) rfl))) (by decide) (t := (.array .double)) (t' := (.array .int)) (by decide) (by decide))), (H.2.2.2.2.2.2.2.1).other W (Or.inr (slot_ne (a0 := a0) (C := "com/example/orbifold/orbifold/solvers/BellmanSystem") (Or.inl (hw _ (List.mem_of_getElem? (i := 30) rfl))) (Or.inl (hw _ (List.mem_of_getElem? (i := 14) rfl))) (by decide) (t := .int) (t' := (.array .int)) (by decide) (by decide))), (H.2.2.2.2.2.2.2.2.1).other W (Or.inr (slot_ne (a0 := a0) (C := "com/example/orbifold/orbifold/solvers/BellmanSystem") (Or.inl (hw _ (List.mem_of_getElem? (i := 35) rfl))) (Or.inl (hw _ (List.mem_of_getElem? (i := 14) rfl))) (by decide) (t := .int) (t' := (.array .int)) (by decide) (by decide))), (H.2.2.2.2.2.2.2.2.2.1).other W (Or.inr (slot_ne (a0 := a0) (C := "com/example/orbifold/orbifold/solvers/BellmanSystem") (Or.inl (hw _ (List.mem_of_getElem? (i := 45) rfl))) (Or.inl (hw _ (List.mem_of_getElem? (i := 14) rfl))) (by decide) (t := .int) (t' := (.array .int)) (by decide) (by decide))), (H.2.2.2.2.2.2.2.2.2.2).other W (Or.inr (slot_ne (a0 := a0) (C := "com/example/orbifold/orbifold/solvers/BellmanSystem") (Or.inl (hw _ (List.mem_of_getElem? (i := 67) rfl))) (Or.inl (hw _ (List.mem_of_getElem? (i := 14) rfl))) (by decide) (t := .boolean) (t' := (.array .int)) (by decide) (by decide)))⟩
theorem BN.put_constants {Z : State} {h h' : Heap} {a : Nat} {ra : Value} {ca : Value} {ka : Value} {la : Value} {fa : Value} {va : Value} {nr : Int32} {nc : Int32} {nt : Int32} {fo : Int32} {w : Value} (a0 : Array Value) (hw : ∀ d ∈ tables_1, d.before a0 Z = true) (H : BN Z h a ra ca ka la fa va nr nc nt fo) (W : Wr h h' a (Jvm.RoadKit.slotOf Z "com/example/orbifold/orbifold/solvers/BellmanSystem" "constants" "[D") ( w)) : BN Z h' a ra ca w la fa va nr nc nt fo := ⟨H.1.wr W, (H.2.1).other W (Or.inr (slot_ne (a0 := a0) (C := "com/example/orbifold/orbifold/solvers/BellmanSystem") (Or.inl (hw _ (List.mem_of_getElem? (i := 12) rfl))) (Or.inl (hw _ (List.mem_of_getElem? (i := 17) rfl))) (by decide) (t := (.array .int)) (t' := (.array .double)) (by decide) (by decide))), (H.2.2.1).other W (Or.inr (slot_ne (a0 := a0) (C := "com/example/orbifold/orbifold/solvers/BellmanSystem") (Or.inl (hw _ (List.mem_of_getElem? (i := 14) rfl))) (Or.inl (hw _ (List.mem_of_getElem? (i := 17) rfl))) (by decide) (t := (.array .int)) (t' := (.array .double)) (by decide) (by decide))), (H.2.2.2.1).same W, (H.2.2.2.2.1).other W (Or.inr (slot_ne (a0 := a0) (C := "com/example/orbifold/orbifold/solvers/BellmanSystem") (Or.inl (hw _ (List.mem_of_getElem? (i := 19) rfl))) (Or.inl (hw _ (List.mem_of_getElem? (i := 17) rfl))) (by decide) (t := (.array .int)) (t' := (.array .double)) (by decide) (by decide))), (H.2.2.2.2.2.1).other W (Or.inr (slot_ne (a0 := a0) (C := "com/example/orbifold/orbifold/solvers/BellmanSystem") (Or.inl (hw _ (List.mem_of_getElem? (i := 21) rfl))) (Or.inl (hw _ (List.mem_of_getElem? (i := 17) rfl))) (by decide) (t := (.array .double)) (t' := (.array .double)) (by decide) (by decide))), (H.2.2.2.2.2.2.1).other W (Or.inr (slot_ne (a0 := a0) (C := "com/example/orbifold/orbifold/solvers/BellmanSystem") (Or.inl (hw _ (List.mem_of_getElem? (i := 23) rfl))) (Or.inl (hw _ (List.mem_of_getElem? (i := 17) rfl))) (by decide) (t := (.array .double)) (t' := (.array .double)) (by decide) (by decide))), (H.2.2.2.2.2.2.2.1).other W (Or.inr (slot_ne (a0 := a0) (C := "com/example/orbifold/orbifold/solvers/BellmanSystem") (Or.inl (hw _ (List.mem_of_getElem? (i := 30) rfl))) (Or.inl (hw _ (List.mem_of_getElem? (i := 17) rfl))) (by decide) (t := .int) (t' := (.array .double)) (by decide) (by decide))), (H.2.2.2.2.2.2.2.2.1).other W (Or.inr (slot_ne (a0 := a0) (C := "com/example/orbifold/orbifold/solvers/BellmanSystem") (Or.inl (hw _ (List.mem_of_getElem? (i := 35) rfl))) (Or.inl (hw _ (List.mem_of_getElem? (i := 17) rfl))) (by decide) (t := .int) (t' := (.array .double)) (by decide) (by decide))), (H.2.2.2.2.2.2.2.2.2.1).other W (Or.inr (slot_ne (a0 := a0) (C := "com/example/orbifold/orbifold/solvers/BellmanSystem") (Or.inl (hw _ (List.mem_of_getElem? (i := 45) rfl))) (Or.inl (hw _ (List.mem_of_getElem? (i := 17) rfl))) (by decide) (t := .int) (t' := (.array .double)) (by decide) (by decide))), (H.2.2.2.2.2.2.2.2.2.2).other W (Or.inr (slot_ne (a0 := a0) (C := "com/example/orbifold/orbifold/solvers/BellmanSystem") (Or.inl (hw _ (List.mem_of_getElem? (i := 67) rfl))) (Or.inl (hw _ (List.mem_of_getElem? (i := 17) rfl))) (by decide) (t := .boolean) (t' := (.array .double)) (by decide) (by decide)))⟩
theorem BN.put_columns {Z : State} {h h' : Heap} {a : Nat} {ra : Value} {ca : Value} {ka : Value} {la : Value} {fa : Value} {va : Value} {nr : Int32} {nc : Int32} {nt : Int32} {fo : Int32} {w : Value} (a0 : Array Value) (hw : ∀ d ∈ tables_1, d.before a0 Z = true) (H : BN Z h a ra ca ka la fa va nr nc nt fo) (W : Wr h h' a (Jvm.RoadKit.slotOf Z "com/example/orbifold/orbifold/solvers/BellmanSystem" "columns" "[I") ( w)) : BN Z h' a ra ca ka w fa va nr nc nt fo := ⟨H.1.wr W, (H.2.1).other W (Or.inr (slot_ne (a0 := a0) (C := "com/example/orbifold/orbifold/solvers/BellmanSystem") (Or.inl (hw _ (List.mem_of_getElem? (i := 12) rfl))) (Or.inl (hw _ (List.mem_of_getElem? (i := 19) rfl))) (by decide) (t := (.array .int)) (t' := (.array .int)) (by decide) (by decide))), (H.2.2.1).other W (Or.inr (slot_ne (a0 := a0) (C := "com/example/orbifold/orbifold/solvers/BellmanSystem") (Or.inl (hw _ (List.mem_of_getElem? (i := 14) rfl))) (Or.inl (hw _ (List.mem_of_getElem? (i := 19) rfl))) (by decide) (t := (.array .int)) (t' := (.array .int)) (by decide) (by decide))), (H.2.2.2.1).other W (Or.inr (slot_ne (a0 := a0) (C := "com/example/orbifold/orbifold/solvers/BellmanSystem") (Or.inl (hw _ (List.mem_of_getElem? (i := 17) rfl))) (Or.inl (hw _ (List.mem_of_getElem? (i := 19) rfl))) (by decide) (t := (.array .double)) (t' := (.array .int)) (by decide) (by decide))), (H.2.2.2.2.1).same W, (H.2.2.2.2.2.1).other W (Or.inr (slot_ne (a0 := a0) (C := "com/example/orbifold/orbifold/solvers/BellmanSystem") (Or.inl (hw _ (List.mem_of_getElem? (i := 21) rfl))) (Or.inl (hw _ (List.mem_of_getElem? (i := 19) rfl))) (by decide) (t := (.array .double)) (t' := (.array .int)) (by decide) (by decide))), (H.2.2.2.2.2.2.1).other W (Or.inr (slot_ne (a0 := a0) (C := "com/example/orbifold/orbifold/solvers/BellmanSystem") (Or.inl (hw _ (List.mem_of_getElem? (i := 23) rfl))) (Or.inl (hw _ (List.mem_of_getElem? (i := 19) rfl))) (by decide) (t := (.array .double)) (t' := (.array .int)) (by decide) (by decide))), (H.2.2.2.2.2.2.2.1).other W (Or.inr (slot_ne (a0 := a0) (C := "com/example/orbifold/orbifold/solvers/BellmanSystem") (Or.inl (hw _ (List.mem_of_getElem? (i := 30) rfl))) (Or.inl (hw _ (List.mem_of_getElem? (i := 19) rfl))) (by decide) (t := .int) (t' := (.array .int)) (by decide) (by decide))), (H.2.2.2.2.2.2.2.2.1).other W (Or.inr (slot_ne (a0 := a0) (C := "com/example/orbifold/orbifold/solvers/BellmanSystem") (Or.inl (hw _ (List.mem_of_getElem? (i := 35) rfl))) (Or.inl (hw _ (List.mem_of_getElem? (i := 19) rfl))) (by decide) (t := .int) (t' := (.array .int)) (by decide) (by decide))), (H.2.2.2.2.2.2.2.2.2.1).other W (Or.inr (slot_ne (a0 := a0) (C := "com/example/orbifold/orbifold/solvers/BellmanSystem") (Or.inl (hw _ (List.mem_of_getElem? (i := 45) rfl))) (Or.inl (hw _ (List.mem_of_getElem? (i := 19) rfl))) (by decide) (t := .int) (t' := (.array .int)) (by decide) (by decide))), (H.2.2.2.2.2.2.2.2.2.2).other W (Or.inr (slot_ne (a0 := a0) (C := "com/example/orbifold/orbifold/solvers/BellmanSystem") (Or.inl (hw _ (List.mem_of_getElem? (i := 67) rfl))) (Or.inl (hw _ (List.mem_of_getElem? (i := 19) rfl))) (by decide) (t := .boolean) (t' := (.array .int)) (by decide) (by decide)))⟩
theorem BN.put_coefficients {Z : State} {h h' : Heap} {a : Nat} {ra : Value} {ca : Value} {ka : Value} {la : Value} {fa : Value} {va : Value} {nr : Int32} {nc : Int32} {nt : Int32} {fo : Int32} {w : Value} (a0 : Array Value) (hw : ∀ d ∈ tables_1, d.before a0 Z = true) (H : BN Z h a ra ca ka la fa va nr nc nt fo) (W : Wr h h' a (Jvm.RoadKit.slotOf Z "com/example/orbifold/orbifold/solvers/BellmanSystem" "coefficients" "[D") ( w)) : BN Z h' a ra ca ka la w va nr nc nt fo := ⟨H.1.wr W, (H.2.1).other W (Or.inr (slot_ne (a0 := a0) (C := "com/example/orbifold/orbifold/solvers/BellmanSystem") (Or.inl (hw _ (List.mem_of_getElem? (i := 12) rfl))) (Or.inl (hw _ (List.mem_of_getElem? (i := 21) rfl))) (by decide) (t := (.array .int)) (t' := (.array .double)) (by decide) (by decide))), (H.2.2.1).other W (Or.inr (slot_ne (a0 := a0) (C := "com/example/orbifold/orbifold/solvers/BellmanSystem") (Or.inl (hw _ (List.mem_of_getElem? (i := 14) rfl))) (Or.inl (hw _ (List.mem_of_getElem? (i := 21) rfl))) (by decide) (t := (.array .int)) (t' := (.array .double)) (by decide) (by decide))), (H.2.2.2.1).other W (Or.inr (slot_ne (a0 := a0) (C := "com/example/orbifold/orbifold/solvers/BellmanSystem") (Or.inl (hw _ (List.mem_of_getElem? (i := 17) rfl))) (Or.inl (hw _ (List.mem_of_getElem? (i := 21) rfl))) (by decide) (t := (.array .double)) (t' := (.array .double)) (by decide) (by decide))), (H.2.2.2.2.1).other W (Or.inr (slot_ne (a0 := a0) (C := "com/example/orbifold/orbifold/solvers/BellmanSystem") (Or.inl (hw _ (List.mem_of_getElem? (i := 19) rfl))) (Or.inl (hw _ (List.mem_of_getElem? (i := 21) rfl))) (by decide) (t := (.array .int)) (t' := (.array .double)) (by decide) (by decide))), (H.2.2.2.2.2.1).same W, (H.2.2.2.2.2.2.1).other W (Or.inr (slot_ne (a0 := a0) (C := "com/example/orbifold/orbifold/solvers/BellmanSystem") (Or.inl (hw _ (List.mem_of_getElem? (i := 23) rfl))) (Or.inl (hw _ (List.mem_of_getElem? (i := 21) rfl))) (by decide) (t := (.array .double)) (t' := (.array .double)) (by decide) (by decide))), (H.2.2.2.2.2.2.2.1).other W (Or.inr (slot_ne (a0 := a0) (C := "com/example/orbifold/orbifold/solvers/BellmanSystem") (Or.inl (hw _ (List.mem_of_getElem? (i := 30) rfl))) (Or.inl (hw _ (List.mem_of_getElem? (i := 21) rfl))) (by decide) (t := .int) (t' := (.array .double)) (by decide) (by decide))), (H.2.2.2.2.2.2.2.2.1).other W (Or.inr (slot_ne (a0 := a0) (C := "com/example/orbifold/orbifold/solvers/BellmanSystem") (Or.inl (hw _ (List.mem_of_getElem? (i := 35) rfl))) (Or.inl (hw _ (List.mem_of_getElem? (i := 21) rfl))) (by decide) (t := .int) (t' := (.array .double)) (by decide) (by decide))), (H.2.2.2.2.2.2.2.2.2.1).other W (Or.inr (slot_ne (a0 := a0) (C := "com/example/orbifold/orbifold/solvers/BellmanSystem") (Or.inl (hw _ (List.mem_of_getElem? (i := 45) rfl))) (Or.inl (hw _ (List.mem_of_getElem? (i := 21) rfl))) (by decide) (t := .int) (t' := (.array .double)) (by decide) (by decide))), (H.2.2.2.2.2.2.2.2.2.2).other W (Or.inr (slot_ne (a0 := a0) (C := "com/example/orbifold/orbifold/solvers/BellmanSystem") (Or.inl (hw _ (List.mem_of_getElem? (i := 67) rfl))) (Or.inl (hw _ (List.mem_of_getElem? (i := 21) rfl))) (by decide) (t := .boolean) (t' := (.array .double)) (by decide) (by decide)))⟩
theorem BN.put_leaving {Z : State} {h h' : Heap} {a : Nat} {ra : Value} {ca : Value} {ka : Value} {la : Value} {fa : Value} {va : Value} {nr : Int32} {nc : Int32} {nt : Int32} {fo : Int32} {w : Value} (a0 : Array Value) (hw : ∀ d ∈ tables_1, d.before a0 Z = true) (H : BN Z h a ra ca ka la fa va nr nc nt fo) (W : Wr h h' a (Jvm.RoadKit.slotOf Z "com/example/orbifold/orbifold/solvers/BellmanSystem" "leaving" "[D") ( w)) : BN Z h' a ra ca ka la fa w nr nc nt fo := ⟨H.1.wr W, (H.2.1).other W (Or.inr (slot_ne (a0 := a0) (C := "com/example/orbifold/orbifold/solvers/BellmanSystem") (Or.inl (hw _ (List.mem_of_getElem? (i := 12) rfl))) (Or.inl (hw _ (List.mem_of_getElem? (i := 23) rfl))) (by decide) (t := (.array .int)) (t' := (.array .double)) (by decide) (by decide))), (H.2.2.1).other W (Or.inr (slot_ne (a0 := a0) (C := "com/example/orbifold/orbifold/solvers/BellmanSystem") (Or.inl (hw _ (List.mem_of_getElem? (i := 14) rfl))) (Or.inl (hw _ (List.mem_of_getElem? (i := 23) rfl))) (by decide) (t := (.array .int)) (t' := (.array .double)) (by decide) (by decide))), (H.2.2.2.1).other W (Or.inr (slot_ne (a0 := a0) (C := "com/example/orbifold/orbifold/solvers/BellmanSystem") (Or.inl (hw _ (List.mem_of_getElem? (i := 17) rfl))) (Or.inl (hw _ (List.mem_of_getElem? (i := 23) rfl))) (by decide) (t := (.array .double)) (t' := (.array .double)) (by decide) (by decide))), (H.2.2.2.2.1).other W (Or.inr (slot_ne (a0 := a0) (C := "com/example/orbifold/orbifold/solvers/BellmanSystem") (Or.inl (hw _ (List.mem_of_getElem? (i := 19) rfl))) (Or.inl (hw _ (List.mem_of_getElem? (i := 23) rfl))) (by decide) (t := (.array .int)) (t' := (.array .double)) (by decide) (by decide))), (H.2.2.2.2.2.1).other W (Or.inr (slot_ne (a0 := a0) (C := "com/example/orbifold/orbifold/solvers/BellmanSystem") (Or.inl (hw _ (List.mem_of_getElem? (i := 21) rfl))) (Or.inl (hw _ (List.mem_of_getElem? (i := 23) rfl))) (by decide) (t := (.array .double)) (t' := (.array .double)) (by decide) (by decide))), (H.2.2.2.2.2.2.1).same W, (H.2.2.2.2.2.2.2.1).other W (Or.inr (slot_ne (a0 := a0) (C := "com/example/orbifold/orbifold/solvers/BellmanSystem") (Or.inl (hw _ (List.mem_of_getElem? (i := 30) rfl))) (Or.inl (hw _ (List.mem_of_getElem? (i := 23) rfl))) (by decide) (t := .int) (t' := (.array .double)) (by decide) (by decide))), (H.2.2.2.2.2.2.2.2.1).other W (Or.inr (slot_ne (a0 := a0) (C := "com/example/orbifold/orbifold/solvers/BellmanSystem") (Or.inl (hw _ (List.mem_of_getElem? (i := 35) rfl))) (Or.inl (hw _ (List.mem_of_getElem? (i := 23) rfl))) (by decide) (t := .int) (t' := (.array .double)) (by decide) (by decide))), (H.2.2.2.2.2.2.2.2.2.1).other W (Or.inr (slot_ne (a0 := a0) (C := "com/example/orbifold/orbifold/solvers/BellmanSystem") (Or.inl (hw _ (List.mem_of_getElem? (i := 45) rfl))) (Or.inl (hw _ (List.mem_of_getElem? (i := 23) rfl))) (by decide) (t := .int) (t' := (.array .double)) (by decide) (by decide))), (H.2.2.2.2.2.2.2.2.2.2).other W (Or.inr (slot_ne (a0 := a0) (C := "com/example/orbifold/orbifold/solvers/BellmanSystem") (Or.inl (hw _ (List.mem_of_getElem? (i := 67) rfl))) (Or.inl (hw _ (List.mem_of_getElem? (i := 23) rfl))) (by decide) (t := .boolean) (t' := (.array .double)) (by decide) (by decide)))⟩
theorem BN.put_rows {Z : State} {h h' : Heap} {a : Nat} {ra : Value} {ca : Value} {ka : Value} {la : Value} {fa : Value} {va : Value} {nr : Int32} {nc : Int32} {nt : Int32} {fo : Int32} {w : Int32} (a0 : Array Value) (hw : ∀ d ∈ tables_1, d.before a0 Z = true) (H : BN Z h a ra ca ka la fa va nr nc nt fo) (W : Wr h h' a (Jvm.RoadKit.slotOf Z "com/example/orbifold/orbifold/solvers/BellmanSystem" "rows" "I") (.int w)) : BN Z h' a ra ca ka la fa va w nc nt fo := ⟨H.1.wr W, (H.2.1).other W (Or.inr (slot_ne (a0 := a0) (C := "com/example/orbifold/orbifold/solvers/BellmanSystem") (Or.inl (hw _ (List.mem_of_getElem? (i := 12) rfl))) (Or.inl (hw _ (List.mem_of_getElem? (i := 30) rfl))) (by decide) (t := (.array .int)) (t' := .int) (by decide) (by decide))), (H.2.2.1).other W (Or.inr (slot_ne (a0 := a0) (C := "com/example/orbifold/orbifold/solvers/BellmanSystem") (Or.inl (hw _ (List.mem_of_getElem? (i := 14) rfl))) (Or.inl (hw _ (List.mem_of_getElem? (i := 30) rfl))) (by decide) (t := (.array .int)) (t' := .int) (by decide) (by decide))), (H.2.2.2.1).other W (Or.inr (slot_ne (a0 := a0) (C := "com/example/orbifold/orbifold/solvers/BellmanSystem") (Or.inl (hw _ (List.mem_of_getElem? (i := 17) rfl))) (Or.inl (hw _ (List.mem_of_getElem? (i := 30) rfl))) (by decide) (t := (.array .double)) (t' := .int) (by decide) (by decide))), (H.2.2.2.2.1).other W (Or.inr (slot_ne (a0 := a0) (C := "com/example/orbifold/orbifold/solvers/BellmanSystem") (Or.inl (hw _ (List.mem_of_getElem? (i := 19) rfl))) (Or.inl (hw _ (List.mem_of_getElem? (i := 30) rfl))) (by decide) (t := (.array .int)) (t' := .int) (by decide) (by decide))), (H.2.2.2.2.2.1).other W (Or.inr (slot_ne (a0 := a0) (C := "com/example/orbifold/orbifold/solvers/BellmanSystem") (Or.inl (hw _ (List.mem_of_getElem? (i := 21) rfl))) (Or.inl (hw _ (List.mem_of_getElem? (i := 30) rfl))) (by decide) (t := (.array .double)) (t' := .int) (by decide) (by decide))), (H.2.2.2.2.2.2.1).other W (Or.inr (slot_ne (a0 := a0) (C := "com/example/orbifold/orbifold/solvers/BellmanSystem") (Or.inl (hw _ (List.mem_of_getElem? (i := 23) rfl))) (Or.inl (hw _ (List.mem_of_getElem? (i := 30) rfl))) (by decide) (t := (.array .double)) (t' := .int) (by decide) (by decide))), (H.2.2.2.2.2.2.2.1).same W, (H.2.2.2.2.2.2.2.2.1).other W (Or.inr (slot_ne (a0 := a0) (C := "com/example/orbifold/orbifold/solvers/BellmanSystem") (Or.inl (hw _ (List.mem_of_getElem? (i := 35) rfl))) (Or.inl (hw _ (List.mem_of_getElem? (i := 30) rfl))) (by decide) (t := .int) (t' := .int) (by decide) (by decide))), (H.2.2.2.2.2.2.2.2.2.1).other W (Or.inr (slot_ne (a0 := a0) (C := "com/example/orbifold/orbifold/solvers/BellmanSystem") (Or.inl (hw _ (List.mem_of_getElem? (i := 45) rfl))) (Or.inl (hw _ (List.mem_of_getElem? (i := 30) rfl))) (by decide) (t := .int) (t' := .int) (by decide) (by decide))), (H.2.2.2.2.2.2.2.2.2.2).other W (Or.inr (slot_ne (a0 := a0) (C := "com/example/orbifold/orbifold/solvers/BellmanSystem") (Or.inl (hw _ (List.mem_of_getElem? (i := 67) rfl))) (Or.inl (hw _ (List.mem_of_getElem? (i := 30) rfl))) (by decide) (t := .boolean) (t' := .int) (by decide) (by decide)))⟩
theorem BN.put_choices {Z : State} {h h' : Heap} {a : Nat} {ra : Value} {ca : Value} {ka : Value} {la : Value} {fa : Value} {va : Value} {nr : Int32} {nc : Int32} {nt : Int32} {fo : Int32} {w : Int32} (a0 : Array Value) (hw : ∀ d ∈ tables_1, d.before a0 Z = true) (H : BN Z h a ra ca ka la fa va nr nc nt fo) (W : Wr h h' a (Jvm.RoadKit.slotOf Z "com/example/orbifold/orbifold/solvers/BellmanSystem" "choices" "I") (.int w)) : BN Z h' a ra ca ka la fa va nr w nt fo := ⟨H.1.wr W, (H.2.1).other W (Or.inr (slot_ne (a0 := a0) (C := "com/example/orbifold/orbifold/solvers/BellmanSystem") (Or.inl (hw _ (List.mem_of_getElem? (i := 12) rfl))) (Or.inl (hw _ (List.mem_of_getElem? (i := 35) rfl))) (by decide) (t := (.array .int)) (t' := .int) (by decide) (by decide))), (H.2.2.1).other W (Or.inr (slot_ne (a0 := a0) (C := "com/example/orbifold/orbifold/solvers/BellmanSystem") (Or.inl (hw _ (List.mem_of_getElem? (i := 14) rfl))) (Or.inl (hw _ (List.mem_of_getElem? (i := 35) rfl))) (by decide) (t := (.array .int)) (t' := .int) (by decide) (by decide))), (H.2.2.2.1).other W (Or.inr (slot_ne (a0 := a0) (C := "com/example/orbifold/orbifold/solvers/BellmanSystem") (Or.inl (hw _ (List.mem_of_getElem? (i := 17) rfl))) (Or.inl (hw _ (List.mem_of_getElem? (i := 35) rfl))) (by decide) (t := (.array .double)) (t' := .int) (by decide) (by decide))), (H.2.2.2.2.1).other W (Or.inr (slot_ne (a0 := a0) (C := "com/example/orbifold/orbifold/solvers/BellmanSystem") (Or.inl (hw _ (List.mem_of_getElem? (i := 19) rfl))) (Or.inl (hw _ (List.mem_of_getElem? (i := 35) rfl))) (by decide) (t := (.array .int)) (t' := .int) (by decide) (by decide))), (H.2.2.2.2.2.1).other W (Or.inr (slot_ne (a0 := a0) (C := "com/example/orbifold/orbifold/solvers/BellmanSystem") (Or.inl (hw _ (List.mem_of_getElem? (i := 21) rfl))) (Or.inl (hw _ (List.mem_of_getElem? (i := 35) rfl))) (by decide) (t := (.array .double)) (t' := .int) (by decide) (by decide))), (H.2.2.2.2.2.2.1).other W (Or.inr (slot_ne (a0 := a0) (C := "com/example/orbifold/orbifold/solvers/BellmanSystem") (Or.inl (hw _ (List.mem_of_getElem? (i := 23) rfl))) (Or.inl (hw _ (List.mem_of_getElem? (i := 35) rfl))) (by decide) (t := (.array .double)) (t' := .int) (by decide) (by decide))), (H.2.2.2.2.2.2.2.1).other W (Or.inr (slot_ne (a0 := a0) (C := "com/example/orbifold/orbifold/solvers/BellmanSystem") (Or.inl (hw _ (List.mem_of_getElem? (i := 30) rfl))) (Or.inl (hw _ (List.mem_of_getElem? (i := 35) rfl))) (by decide) (t := .int) (t' := .int) (by decide) (by decide))), (H.2.2.2.2.2.2.2.2.1).same W, (H.2.2.2.2.2.2.2.2.2.1).other W (Or.inr (slot_ne (a0 := a0) (C := "com/example/orbifold/orbifold/solvers/BellmanSystem") (Or.inl (hw _ (List.mem_of_getElem? (i := 45) rfl))) (Or.inl (hw _ (List.mem_of_getElem? (i := 35) rfl))) (by decide) (t := .int) (t' := .int) (by decide) (by decide))), (H.2.2.2.2.2.2.2.2.2.2).other W (Or.inr (slot_ne (a0 := a0) (C := "com/example/orbifold/orbifold/solvers/BellmanSystem") (Or.inl (hw _ (List.mem_of_getElem? (i := 67) rfl))) (Or.inl (hw _ (List.mem_of_getElem? (i := 35) rfl))) (by decide) (t := .boolean) (t' := .int) (by decide) (by decide)))⟩
theorem BN.put_terms {Z : State} {h h' : Heap} {a : Nat} {ra : Value} {ca : Value} {ka : Value} {la : Value} {fa : Value} {va : Value} {nr : Int32} {nc : Int32} {nt : Int32} {fo : Int32} {w : Int32} (a0 : Array Value) (hw : ∀ d ∈ tables_1, d.before a0 Z = true) (H : BN Z h a ra ca ka la fa va nr nc nt fo) (W : Wr h h' a (Jvm.RoadKit.slotOf Z "com/example/orbifold/orbifold/solvers/BellmanSystem" "terms" "I") (.int w)) : BN Z h' a ra ca ka la fa va nr nc w fo := ⟨H.1.wr W, (H.2.1).other W (Or.inr (slot_ne (a0 := a0) (C := "com/example/orbifold/orbifold/solvers/BellmanSystem") (Or.inl (hw _ (List.mem_of_getElem? (i := 12) rfl))) (Or.inl (hw _ (List.mem_of_getElem? (i := 45) rfl))) (by decide) (t := (.array .int)) (t' := .int) (by decide) (by decide))), (H.2.2.1).other W (Or.inr (slot_ne (a0 := a0) (C := "com/example/orbifold/orbifold/solvers/BellmanSystem") (Or.inl (hw _ (List.mem_of_getElem? (i := 14) rfl))) (Or.inl (hw _ (List.mem_of_getElem? (i := 45) rfl))) (by decide) (t := (.array .int)) (t' := .int) (by decide) (by decide))), (H.2.2.2.1).other W (Or.inr (slot_ne (a0 := a0) (C := "com/example/orbifold/orbifold/solvers/BellmanSystem") (Or.inl (hw _ (List.mem_of_getElem? (i := 17) rfl))) (Or.inl (hw _ (List.mem_of_getElem? (i := 45) rfl))) (by decide) (t := (.array .double)) (t' := .int) (by decide) (by decide))), (H.2.2.2.2.1).other W (Or.inr (slot_ne (a0 := a0) (C := "com/example/orbifold/orbifold/solvers/BellmanSystem") (Or.inl (hw _ (List.mem_of_getElem? (i := 19) rfl))) (Or.inl (hw _ (List.mem_of_getElem? (i := 45) rfl))) (by decide) (t := (.array .int)) (t' := .int) (by decide) (by decide))), (H.2.2.2.2.2.1).other W (Or.inr (slot_ne (a0 := a0) (C := "com/example/orbifold/orbifold/solvers/BellmanSystem") (Or.inl (hw _ (List.mem_of_getElem? (i := 21) rfl))) (Or.inl (hw _ (List.mem_of_getElem? (i := 45) rfl))) (by decide) (t := (.array .double)) (t' := .int) (by decide) (by decide))), (H.2.2.2.2.2.2.1).other W (Or.inr (slot_ne (a0 := a0) (C := "com/example/orbifold/orbifold/solvers/BellmanSystem") (Or.inl (hw _ (List.mem_of_getElem? (i := 23) rfl))) (Or.inl (hw _ (List.mem_of_getElem? (i := 45) rfl))) (by decide) (t := (.array .double)) (t' := .int) (by decide) (by decide))), (H.2.2.2.2.2.2.2.1).other W (Or.inr (slot_ne (a0 := a0) (C := "com/example/orbifold/orbifold/solvers/BellmanSystem") (Or.inl (hw _ (List.mem_of_getElem? (i := 30) rfl))) (Or.inl (hw _ (List.mem_of_getElem? (i := 45) rfl))) (by decide) (t := .int) (t' := .int) (by decide) (by decide))), (H.2.2.2.2.2.2.2.2.1).other W (Or.inr (slot_ne (a0 := a0) (C := "com/example/orbifold/orbifold/solvers/BellmanSystem") (Or.inl (hw _ (List.mem_of_getElem? (i := 35) rfl))) (Or.inl (hw _ (List.mem_of_getElem? (i := 45) rfl))) (by decide) (t := .int) (t' := .int) (by decide) (by decide))), (H.2.2.2.2.2.2.2.2.2.1).same W, (H.2.2.2.2.2.2.2.2.2.2).other W (Or.inr (slot_ne (a0 := a0) (C := "com/example/orbifold/orbifold/solvers/BellmanSystem") (Or.inl (hw _ (List.mem_of_getElem? (i := 67) rfl))) (Or.inl (hw _ (List.mem_of_getElem? (i := 45) rfl))) (by decide) (t := .boolean) (t' := .int) (by decide) (by decide)))⟩
theorem BN.put_folded {Z : State} {h h' : Heap} {a : Nat} {ra : Value} {ca : Value} {ka : Value} {la : Value} {fa : Value} {va : Value} {nr : Int32} {nc : Int32} {nt : Int32} {fo : Int32} {w : Int32} (a0 : Array Value) (hw : ∀ d ∈ tables_1, d.before a0 Z = true) (H : BN Z h a ra ca ka la fa va nr nc nt fo) (W : Wr h h' a (Jvm.RoadKit.slotOf Z "com/example/orbifold/orbifold/solvers/BellmanSystem" "folded" "Z") (.int w)) : BN Z h' a ra ca ka la fa va nr nc nt w := ⟨H.1.wr W, (H.2.1).other W (Or.inr (slot_ne (a0 := a0) (C := "com/example/orbifold/orbifold/solvers/BellmanSystem") (Or.inl (hw _ (List.mem_of_getElem? (i := 12) rfl))) (Or.inl (hw _ (List.mem_of_getElem? (i := 67) rfl))) (by decide) (t := (.array .int)) (t' := .boolean) (by decide) (by decide))), (H.2.2.1).other W (Or.inr (slot_ne (a0 := a0) (C := "com/example/orbifold/orbifold/solvers/BellmanSystem") (Or.inl (hw _ (List.mem_of_getElem? (i := 14) rfl))) (Or.inl (hw _ (List.mem_of_getElem? (i := 67) rfl))) (by decide) (t := (.array .int)) (t' := .boolean) (by decide) (by decide))), (H.2.2.2.1).other W (Or.inr (slot_ne (a0 := a0) (C := "com/example/orbifold/orbifold/solvers/BellmanSystem") (Or.inl (hw _ (List.mem_of_getElem? (i := 17) rfl))) (Or.inl (hw _ (List.mem_of_getElem? (i := 67) rfl))) (by decide) (t := (.array .double)) (t' := .boolean) (by decide) (by decide))), (H.2.2.2.2.1).other W (Or.inr (slot_ne (a0 := a0) (C := "com/example/orbifold/orbifold/solvers/BellmanSystem") (Or.inl (hw _ (List.mem_of_getElem? (i := 19) rfl))) (Or.inl (hw _ (List.mem_of_getElem? (i := 67) rfl))) (by decide) (t := (.array .int)) (t' := .boolean) (by decide) (by decide))), (H.2.2.2.2.2.1).other W (Or.inr (slot_ne (a0 := a0) (C := "com/example/orbifold/orbifold/solvers/BellmanSystem") (Or.inl (hw _ (List.mem_of_getElem? (i := 21) rfl))) (Or.inl (hw _ (List.mem_of_getElem? (i := 67) rfl))) (by decide) (t := (.array .double)) (t' := .boolean) (by decide) (by decide))), (H.2.2.2.2.2.2.1).other W (Or.inr (slot_ne (a0 := a0) (C := "com/example/orbifold/orbifold/solvers/BellmanSystem") (Or.inl (hw _ (List.mem_of_getElem? (i := 23) rfl))) (Or.inl (hw _ (List.mem_of_getElem? (i := 67) rfl))) (by decide) (t := (.array .double)) (t' := .boolean) (by decide) (by decide))), (H.2.2.2.2.2.2.2.1).other W (Or.inr (slot_ne (a0 := a0) (C := "com/example/orbifold/orbifold/solvers/BellmanSystem") (Or.inl (hw _ (List.mem_of_getElem? (i := 30) rfl))) (Or.inl (hw _ (List.mem_of_getElem? (i := 67) rfl))) (by decide) (t := .int) (t' := .boolean) (by decide) (by decide))), (H.2.2.2.2.2.2.2.2.1).other W (Or.inr (slot_ne (a0 := a0) (C := "com/example/orbifold/orbifold/solvers/BellmanSystem") (Or.inl (hw _ (List.mem_of_getElem? (i := 35) rfl))) (Or.inl (hw _ (List.mem_of_getElem? (i := 67) rfl))) (by decide) (t := .int) (t' := .boolean) (by decide) (by decide))), (H.2.2.2.2.2.2.2.2.2.1).other W (Or.inr (slot_ne (a0 := a0) (C := "com/example/orbifold/orbifold/solvers/BellmanSystem") (Or.inl (hw _ (List.mem_of_getElem? (i := 45) rfl))) (Or.inl (hw _ (List.mem_of_getElem? (i := 67) rfl))) (by decide) (t := .int) (t' := .boolean) (by decide) (by decide))), (H.2.2.2.2.2.2.2.2.2.2).same W⟩
set_option maxRecDepth 65536 in
set_option maxHeartbeats 40000000 in
theorem init_go (l : Launch) (Z : State) (a0 : Array Value) (hw : ∀ d ∈ tables_1, d.before a0 Z = true) {n0 : Nat} {h : Heap} {a : Nat} (B0 : BN Z h a .null .null .null .null .null .null 0 0 0 0) (na : n0 ≤ a) :
    Go l Z ({ frames := 1, cells := 6, slots := 6144, locals := 16 } : Room) ((⟨"com/example/orbifold/orbifold/solvers/BellmanSystem", "<init>", "()V"⟩ : MethodName), prog_167_method_1_code, 1, none) n0 (fun v h' => v = none ∧ ∃ ra ca ka la fa va tI tD, tI.length = 1020 ∧ tD.length = 1020 ∧ BS Z n0 h' a ra ca ka la fa va 0 0 0 0 ([0, 0, 0, 0] ++ tI) ([0, 0, 0, 0] ++ tI) ([0, 0, 0, 0] ++ tD) ([0, 0, 0, 0] ++ tI) ([0, 0, 0, 0] ++ tD) ([0, 0, 0, 0] ++ tD)) h 0 0 0 #[.val (.ref a)] [] := by
  refine Go.aloadN 1 d1_0 rfl rfl rfl ?_
  refine Go.initO 4 (hw _ (List.mem_of_getElem? (i := 7) rfl)) (hw _ (List.mem_of_getElem? (i := 8) rfl)) (hw _ (List.mem_of_getElem? (i := 9) rfl)) rfl d1_1 rfl (by decide) (leB rfl) ?_
  refine Go.aloadN 5 d1_4 rfl rfl rfl ?_
  refine Go.sipush 8 (1024 : Int32) d1_5 rfl (by decide) ?_
  refine Go.newI 10 1024 (hw _ (List.mem_of_getElem? (i := 10) rfl)) (i := 1024) (by decide) (by decide) (by decide) d1_8 rfl (by decide) (by decide) ?_
  intro p0 ra E0 g0 n0 A0
  have B0e := B0.ext E0
  have o0 : a < ra := Nat.lt_of_lt_of_le B0.1.lt g0
  have X0_0 := A0
  refine Go.putF 13 (hw _ (List.mem_of_getElem? (i := 11) rfl)) B0e.2.1 B0e.1 (Or.inl (hw _ (List.mem_of_getElem? (i := 12) rfl))) (hw _ (List.mem_of_getElem? (i := 2) rfl)) (ty := (.array .int)) (by decide) rfl rfl na d1_10 rfl ?_
  intro q0 W0
  have B1 := B0e.put_rowStart a0 hw W0
  have F0_0 := X0_0.other W0 (by omega)
  refine Go.aloadN 14 d1_13 rfl rfl rfl ?_
  refine Go.sipush 17 (1024 : Int32) d1_14 rfl (by decide) ?_
  refine Go.newI 19 1024 (hw _ (List.mem_of_getElem? (i := 10) rfl)) (i := 1024) (by decide) (by decide) (by decide) d1_17 rfl (by decide) (by decide) ?_
  intro p1 ca E1 g1 n1 A1
  have B1e := B1.ext E1
  have o1 : ra < ca := Nat.lt_of_lt_of_le F0_0.lt g1
  have X1_0 := F0_0.ext E1
  have X1_1 := A1
  refine Go.putF 22 (hw _ (List.mem_of_getElem? (i := 13) rfl)) B1e.2.2.1 B1e.1 (Or.inl (hw _ (List.mem_of_getElem? (i := 14) rfl))) (hw _ (List.mem_of_getElem? (i := 2) rfl)) (ty := (.array .int)) (by decide) rfl rfl na d1_19 rfl ?_
  intro q1 W1
  have B2 := B1e.put_choiceStart a0 hw W1
  have F1_0 := X1_0.other W1 (by omega)
  have F1_1 := X1_1.other W1 (by omega)
  refine Go.aloadN 23 d1_22 rfl rfl rfl ?_
  refine Go.sipush 26 (1024 : Int32) d1_23 rfl (by decide) ?_
  refine Go.newD 28 1024 (hw _ (List.mem_of_getElem? (i := 15) rfl)) (i := 1024) (by decide) (by decide) (by decide) d1_26 rfl (by decide) (by decide) ?_
  intro p2 ka E2 g2 n2 A2
  have B2e := B2.ext E2
  have o2 : ca < ka := Nat.lt_of_lt_of_le F1_1.lt g2
  have X2_0 := F1_0.ext E2
  have X2_1 := F1_1.ext E2
  have X2_2 := A2
  refine Go.putF 31 (hw _ (List.mem_of_getElem? (i := 16) rfl)) B2e.2.2.2.1 B2e.1 (Or.inl (hw _ (List.mem_of_getElem? (i := 17) rfl))) (hw _ (List.mem_of_getElem? (i := 2) rfl)) (ty := (.array .double)) (by decide) rfl rfl na d1_28 rfl ?_
  intro q2 W2
  have B3 := B2e.put_constants a0 hw W2
  have F2_0 := X2_0.other W2 (by omega)
  have F2_1 := X2_1.other W2 (by omega)
  have F2_2 := X2_2.other W2 (by omega)
  refine Go.aloadN 32 d1_31 rfl rfl rfl ?_
  refine Go.sipush 35 (1024 : Int32) d1_32 rfl (by decide) ?_
  refine Go.newI 37 1024 (hw _ (List.mem_of_getElem? (i := 10) rfl)) (i := 1024) (by decide) (by decide) (by decide) d1_35 rfl (by decide) (by decide) ?_
  intro p3 la E3 g3 n3 A3
  have B3e := B3.ext E3
  have o3 : ka < la := Nat.lt_of_lt_of_le F2_2.lt g3
  have X3_0 := F2_0.ext E3
  have X3_1 := F2_1.ext E3
  have X3_2 := F2_2.ext E3
  have X3_3 := A3
  refine Go.putF 40 (hw _ (List.mem_of_getElem? (i := 18) rfl)) B3e.2.2.2.2.1 B3e.1 (Or.inl (hw _ (List.mem_of_getElem? (i := 19) rfl))) (hw _ (List.mem_of_getElem? (i := 2) rfl)) (ty := (.array .int)) (by decide) rfl rfl na d1_37 rfl ?_
  intro q3 W3
  have B4 := B3e.put_columns a0 hw W3
  have F3_0 := X3_0.other W3 (by omega)
  have F3_1 := X3_1.other W3 (by omega)
  have F3_2 := X3_2.other W3 (by omega)
  have F3_3 := X3_3.other W3 (by omega)
  refine Go.aloadN 41 d1_40 rfl rfl rfl ?_
  refine Go.sipush 44 (1024 : Int32) d1_41 rfl (by decide) ?_
  refine Go.newD 46 1024 (hw _ (List.mem_of_getElem? (i := 15) rfl)) (i := 1024) (by decide) (by decide) (by decide) d1_44 rfl (by decide) (by decide) ?_
  intro p4 fa E4 g4 n4 A4
  have B4e := B4.ext E4
  have o4 : la < fa := Nat.lt_of_lt_of_le F3_3.lt g4
  have X4_0 := F3_0.ext E4
  have X4_1 := F3_1.ext E4
  have X4_2 := F3_2.ext E4
  have X4_3 := F3_3.ext E4
  have X4_4 := A4
  refine Go.putF 49 (hw _ (List.mem_of_getElem? (i := 20) rfl)) B4e.2.2.2.2.2.1 B4e.1 (Or.inl (hw _ (List.mem_of_getElem? (i := 21) rfl))) (hw _ (List.mem_of_getElem? (i := 2) rfl)) (ty := (.array .double)) (by decide) rfl rfl na d1_46 rfl ?_
  intro q4 W4
  have B5 := B4e.put_coefficients a0 hw W4
  have F4_0 := X4_0.other W4 (by omega)
  have F4_1 := X4_1.other W4 (by omega)
  have F4_2 := X4_2.other W4 (by omega)
  have F4_3 := X4_3.other W4 (by omega)
  have F4_4 := X4_4.other W4 (by omega)
  refine Go.aloadN 50 d1_49 rfl rfl rfl ?_
  refine Go.sipush 53 (1024 : Int32) d1_50 rfl (by decide) ?_
  refine Go.newD 55 1024 (hw _ (List.mem_of_getElem? (i := 15) rfl)) (i := 1024) (by decide) (by decide) (by decide) d1_53 rfl (by decide) (by decide) ?_
  intro p5 va E5 g5 n5 A5
  have B5e := B5.ext E5
  have o5 : fa < va := Nat.lt_of_lt_of_le F4_4.lt g5
  have X5_0 := F4_0.ext E5
  have X5_1 := F4_1.ext E5
  have X5_2 := F4_2.ext E5
  have X5_3 := F4_3.ext E5
  have X5_4 := F4_4.ext E5
  have X5_5 := A5
  refine Go.putF 58 (hw _ (List.mem_of_getElem? (i := 22) rfl)) B5e.2.2.2.2.2.2.1 B5e.1 (Or.inl (hw _ (List.mem_of_getElem? (i := 23) rfl))) (hw _ (List.mem_of_getElem? (i := 2) rfl)) (ty := (.array .double)) (by decide) rfl rfl na d1_55 rfl ?_
  intro q5 W5
  have B6 := B5e.put_leaving a0 hw W5
  have F5_0 := X5_0.other W5 (by omega)
  have F5_1 := X5_1.other W5 (by omega)
  have F5_2 := X5_2.other W5 (by omega)
  have F5_3 := X5_3.other W5 (by omega)
  have F5_4 := X5_4.other W5 (by omega)
  have F5_5 := X5_5.other W5 (by omega)
  refine Go.ret d1_58 rfl (by decide) (by decide) ⟨rfl, ra, ca, ka, la, fa, va, List.replicate 1020 0, List.replicate 1020 0, by simp, by simp, ⟨⟨B6.1, B6.2⟩, by rw [← rep4]; exact F5_0, by rw [← rep4]; exact F5_1, by rw [← rep4]; exact F5_2, by rw [← rep4]; exact F5_3, by rw [← rep4]; exact F5_4, by rw [← rep4]; exact F5_5, na, o0, o1, o2, o3, o4, o5⟩⟩
set_option maxRecDepth 65536 in
set_option maxHeartbeats 40000000 in
theorem startRow_0 (l : Launch) (Z : State) (a0 : Array Value) (hw : ∀ d ∈ tables_1, d.before a0 Z = true) {n0 : Nat} {h : Heap} {a ra ca ka la fa va : Nat} {tI : List Int32} {tD : List UInt64} (hTI : tI.length = 1020) (hTD : tD.length = 1020) {rs0 rs1 rs2 rs3 : Int32} {cs0 cs1 cs2 cs3 : Int32} {ks0 ks1 ks2 ks3 : UInt64} {ls0 ls1 ls2 ls3 : Int32} {fs0 fs1 fs2 fs3 : UInt64} {vs0 vs1 vs2 vs3 : UInt64}  (H : BS Z n0 h a ra ca ka la fa va (0 : Int32) (0 : Int32) (0 : Int32) (0 : Int32) ([rs0, rs1, rs2, rs3] ++ tI) ([cs0, cs1, cs2, cs3] ++ tI) ([ks0, ks1, ks2, ks3] ++ tD) ([ls0, ls1, ls2, ls3] ++ tI) ([fs0, fs1, fs2, fs3] ++ tD) ([vs0, vs1, vs2, vs3] ++ tD)) :
    Go l Z ({ frames := 1, cells := 0, slots := 0, locals := 20 } : Room) ((⟨"com/example/orbifold/orbifold/solvers/BellmanSystem", "startRow", "()V"⟩ : MethodName), prog_167_method_2_code, 1, none) n0 (fun v h' => v = none ∧ BS Z n0 h' a ra ca ka la fa va (1 : Int32) (0 : Int32) (0 : Int32) (0 : Int32) ([rs0, (0 : Int32), rs2, rs3] ++ tI) ([cs0, cs1, cs2, cs3] ++ tI) ([ks0, ks1, ks2, ks3] ++ tD) ([ls0, ls1, ls2, ls3] ++ tI) ([fs0, fs1, fs2, fs3] ++ tD) ([vs0, vs1, vs2, vs3] ++ tD)) h 0 0 0 #[.val (.ref a)] [] := by
  refine Go.aloadN 1 d3_0 rfl rfl rfl ?_
  refine Go.aloadN 2 d3_1 rfl rfl rfl ?_
  refine Go.getf 5 (hw _ (List.mem_of_getElem? (i := 11) rfl)) H.1.2.1 d3_2 rfl ?_
  refine Go.aloadN 6 d3_5 rfl rfl rfl ?_
  refine Go.getf 9 (hw _ (List.mem_of_getElem? (i := 29) rfl)) H.1.2.2.2.2.2.2.2.1 d3_6 rfl ?_
  refine Go.iconst 10 (2 : Int32) d3_9 rfl (by decide) ?_
  refine Go.iadd 11 (2 : Int32) d3_10 rfl (by decide) ?_
  refine Go.callS 14 [(.ref ra), (.int (2 : Int32))] [(.ref a)] (hw _ (List.mem_of_getElem? (i := 31) rfl)) (hw _ (List.mem_of_getElem? (i := 32) rfl)) (hw _ (List.mem_of_getElem? (i := 33) rfl)) (hw _ (List.mem_of_getElem? (i := 3) rfl)) (by decide) pn_1 pd_2 rfl (ef_4_AI ra (2 : Int32)) (ensureI_go l Z H.2.1 (len4 hTI) (by decide)) rfl rfl (by decide) (leB rfl) (by decide) (by decide) d3_11 rfl ?_
  rintro _ _ ⟨rfl, rfl⟩
  refine Go.putF 17 (hw _ (List.mem_of_getElem? (i := 11) rfl)) H.1.2.1 H.1.1 (Or.inl (hw _ (List.mem_of_getElem? (i := 12) rfl))) (hw _ (List.mem_of_getElem? (i := 2) rfl)) (ty := (.array .int)) (by decide) rfl rfl (by have := H.2.2.2.2.2.2.2; omega) d3_14 rfl ?_
  intro h1 W1
  have H1 : BS Z n0 h1 a ra ca ka la fa va (0 : Int32) (0 : Int32) (0 : Int32) (0 : Int32) ([rs0, rs1, rs2, rs3] ++ tI) ([cs0, cs1, cs2, cs3] ++ tI) ([ks0, ks1, ks2, ks3] ++ tD) ([ls0, ls1, ls2, ls3] ++ tI) ([fs0, fs1, fs2, fs3] ++ tD) ([vs0, vs1, vs2, vs3] ++ tD) := H.put_rowStart a0 hw W1
  refine Go.aloadN 18 d3_17 rfl rfl rfl ?_
  refine Go.dup 19 d3_18 rfl rfl ?_
  refine Go.getf 22 (hw _ (List.mem_of_getElem? (i := 29) rfl)) H1.1.2.2.2.2.2.2.2.1 d3_19 rfl ?_
  refine Go.iconst 23 (1 : Int32) d3_22 rfl (by decide) ?_
  refine Go.iadd 24 (1 : Int32) d3_23 rfl (by decide) ?_
  refine Go.putF 27 (hw _ (List.mem_of_getElem? (i := 29) rfl)) H1.1.2.2.2.2.2.2.2.1 H1.1.1 (Or.inl (hw _ (List.mem_of_getElem? (i := 30) rfl))) (hw _ (List.mem_of_getElem? (i := 2) rfl)) (ty := .int) (by decide) rfl rfl (by have := H1.2.2.2.2.2.2.2; omega) d3_24 rfl ?_
  intro h2 W2
  have H2 : BS Z n0 h2 a ra ca ka la fa va (1 : Int32) (0 : Int32) (0 : Int32) (0 : Int32) ([rs0, rs1, rs2, rs3] ++ tI) ([cs0, cs1, cs2, cs3] ++ tI) ([ks0, ks1, ks2, ks3] ++ tD) ([ls0, ls1, ls2, ls3] ++ tI) ([fs0, fs1, fs2, fs3] ++ tD) ([vs0, vs1, vs2, vs3] ++ tD) := H1.put_rows a0 hw W2
  refine Go.aloadN 28 d3_27 rfl rfl rfl ?_
  refine Go.getf 31 (hw _ (List.mem_of_getElem? (i := 11) rfl)) H2.1.2.1 d3_28 rfl ?_
  refine Go.aloadN 32 d3_31 rfl rfl rfl ?_
  refine Go.getf 35 (hw _ (List.mem_of_getElem? (i := 29) rfl)) H2.1.2.2.2.2.2.2.2.1 d3_32 rfl ?_
  refine Go.aloadN 36 d3_35 rfl rfl rfl ?_
  refine Go.getf 39 (hw _ (List.mem_of_getElem? (i := 34) rfl)) H2.1.2.2.2.2.2.2.2.2.1 d3_36 rfl ?_
  refine Go.iastore 40 H2.2.1 (i := 1) (by decide) (in4 (by decide)) (by have := H2.2.2.2.2.2.2.2; omega) d3_39 rfl ?_
  intro h3 K3 A3
  have H3 : BS Z n0 h3 a ra ca ka la fa va (1 : Int32) (0 : Int32) (0 : Int32) (0 : Int32) ([rs0, (0 : Int32), rs2, rs3] ++ tI) ([cs0, cs1, cs2, cs3] ++ tI) ([ks0, ks1, ks2, ks3] ++ tD) ([ls0, ls1, ls2, ls3] ++ tI) ([fs0, fs1, fs2, fs3] ++ tD) ([vs0, vs1, vs2, vs3] ++ tD) := H2.set_rowStart K3 A3
  exact Go.ret d3_40 rfl (by decide) (by decide) ⟨rfl, H3⟩
set_option maxRecDepth 65536 in
set_option maxHeartbeats 40000000 in
theorem startRow_1 (l : Launch) (Z : State) (a0 : Array Value) (hw : ∀ d ∈ tables_1, d.before a0 Z = true) {n0 : Nat} {h : Heap} {a ra ca ka la fa va : Nat} {tI : List Int32} {tD : List UInt64} (hTI : tI.length = 1020) (hTD : tD.length = 1020) {rs0 rs1 rs2 rs3 : Int32} {cs0 cs1 cs2 cs3 : Int32} {ks0 ks1 ks2 ks3 : UInt64} {ls0 ls1 ls2 ls3 : Int32} {fs0 fs1 fs2 fs3 : UInt64} {vs0 vs1 vs2 vs3 : UInt64}  (H : BS Z n0 h a ra ca ka la fa va (1 : Int32) (1 : Int32) (2 : Int32) (0 : Int32) ([rs0, rs1, rs2, rs3] ++ tI) ([cs0, cs1, cs2, cs3] ++ tI) ([ks0, ks1, ks2, ks3] ++ tD) ([ls0, ls1, ls2, ls3] ++ tI) ([fs0, fs1, fs2, fs3] ++ tD) ([vs0, vs1, vs2, vs3] ++ tD)) :
    Go l Z ({ frames := 1, cells := 0, slots := 0, locals := 20 } : Room) ((⟨"com/example/orbifold/orbifold/solvers/BellmanSystem", "startRow", "()V"⟩ : MethodName), prog_167_method_2_code, 1, none) n0 (fun v h' => v = none ∧ BS Z n0 h' a ra ca ka la fa va (2 : Int32) (1 : Int32) (2 : Int32) (0 : Int32) ([rs0, rs1, (1 : Int32), rs3] ++ tI) ([cs0, cs1, cs2, cs3] ++ tI) ([ks0, ks1, ks2, ks3] ++ tD) ([ls0, ls1, ls2, ls3] ++ tI) ([fs0, fs1, fs2, fs3] ++ tD) ([vs0, vs1, vs2, vs3] ++ tD)) h 0 0 0 #[.val (.ref a)] [] := by
  refine Go.aloadN 1 d3_0 rfl rfl rfl ?_
  refine Go.aloadN 2 d3_1 rfl rfl rfl ?_
  refine Go.getf 5 (hw _ (List.mem_of_getElem? (i := 11) rfl)) H.1.2.1 d3_2 rfl ?_
  refine Go.aloadN 6 d3_5 rfl rfl rfl ?_
  refine Go.getf 9 (hw _ (List.mem_of_getElem? (i := 29) rfl)) H.1.2.2.2.2.2.2.2.1 d3_6 rfl ?_
  refine Go.iconst 10 (2 : Int32) d3_9 rfl (by decide) ?_
  refine Go.iadd 11 (3 : Int32) d3_10 rfl (by decide) ?_
  refine Go.callS 14 [(.ref ra), (.int (3 : Int32))] [(.ref a)] (hw _ (List.mem_of_getElem? (i := 31) rfl)) (hw _ (List.mem_of_getElem? (i := 32) rfl)) (hw _ (List.mem_of_getElem? (i := 33) rfl)) (hw _ (List.mem_of_getElem? (i := 3) rfl)) (by decide) pn_1 pd_2 rfl (ef_4_AI ra (3 : Int32)) (ensureI_go l Z H.2.1 (len4 hTI) (by decide)) rfl rfl (by decide) (leB rfl) (by decide) (by decide) d3_11 rfl ?_
  rintro _ _ ⟨rfl, rfl⟩
  refine Go.putF 17 (hw _ (List.mem_of_getElem? (i := 11) rfl)) H.1.2.1 H.1.1 (Or.inl (hw _ (List.mem_of_getElem? (i := 12) rfl))) (hw _ (List.mem_of_getElem? (i := 2) rfl)) (ty := (.array .int)) (by decide) rfl rfl (by have := H.2.2.2.2.2.2.2; omega) d3_14 rfl ?_
  intro h4 W4
  have H4 : BS Z n0 h4 a ra ca ka la fa va (1 : Int32) (1 : Int32) (2 : Int32) (0 : Int32) ([rs0, rs1, rs2, rs3] ++ tI) ([cs0, cs1, cs2, cs3] ++ tI) ([ks0, ks1, ks2, ks3] ++ tD) ([ls0, ls1, ls2, ls3] ++ tI) ([fs0, fs1, fs2, fs3] ++ tD) ([vs0, vs1, vs2, vs3] ++ tD) := H.put_rowStart a0 hw W4
  refine Go.aloadN 18 d3_17 rfl rfl rfl ?_
  refine Go.dup 19 d3_18 rfl rfl ?_
  refine Go.getf 22 (hw _ (List.mem_of_getElem? (i := 29) rfl)) H4.1.2.2.2.2.2.2.2.1 d3_19 rfl ?_
  refine Go.iconst 23 (1 : Int32) d3_22 rfl (by decide) ?_
  refine Go.iadd 24 (2 : Int32) d3_23 rfl (by decide) ?_
  refine Go.putF 27 (hw _ (List.mem_of_getElem? (i := 29) rfl)) H4.1.2.2.2.2.2.2.2.1 H4.1.1 (Or.inl (hw _ (List.mem_of_getElem? (i := 30) rfl))) (hw _ (List.mem_of_getElem? (i := 2) rfl)) (ty := .int) (by decide) rfl rfl (by have := H4.2.2.2.2.2.2.2; omega) d3_24 rfl ?_
  intro h5 W5
  have H5 : BS Z n0 h5 a ra ca ka la fa va (2 : Int32) (1 : Int32) (2 : Int32) (0 : Int32) ([rs0, rs1, rs2, rs3] ++ tI) ([cs0, cs1, cs2, cs3] ++ tI) ([ks0, ks1, ks2, ks3] ++ tD) ([ls0, ls1, ls2, ls3] ++ tI) ([fs0, fs1, fs2, fs3] ++ tD) ([vs0, vs1, vs2, vs3] ++ tD) := H4.put_rows a0 hw W5
  refine Go.aloadN 28 d3_27 rfl rfl rfl ?_
  refine Go.getf 31 (hw _ (List.mem_of_getElem? (i := 11) rfl)) H5.1.2.1 d3_28 rfl ?_
  refine Go.aloadN 32 d3_31 rfl rfl rfl ?_
  refine Go.getf 35 (hw _ (List.mem_of_getElem? (i := 29) rfl)) H5.1.2.2.2.2.2.2.2.1 d3_32 rfl ?_
  refine Go.aloadN 36 d3_35 rfl rfl rfl ?_
  refine Go.getf 39 (hw _ (List.mem_of_getElem? (i := 34) rfl)) H5.1.2.2.2.2.2.2.2.2.1 d3_36 rfl ?_
  refine Go.iastore 40 H5.2.1 (i := 2) (by decide) (in4 (by decide)) (by have := H5.2.2.2.2.2.2.2; omega) d3_39 rfl ?_
  intro h6 K6 A6
  have H6 : BS Z n0 h6 a ra ca ka la fa va (2 : Int32) (1 : Int32) (2 : Int32) (0 : Int32) ([rs0, rs1, (1 : Int32), rs3] ++ tI) ([cs0, cs1, cs2, cs3] ++ tI) ([ks0, ks1, ks2, ks3] ++ tD) ([ls0, ls1, ls2, ls3] ++ tI) ([fs0, fs1, fs2, fs3] ++ tD) ([vs0, vs1, vs2, vs3] ++ tD) := H5.set_rowStart K6 A6
  exact Go.ret d3_40 rfl (by decide) (by decide) ⟨rfl, H6⟩
set_option maxRecDepth 65536 in
set_option maxHeartbeats 40000000 in
theorem startChoice_1 (l : Launch) (Z : State) (a0 : Array Value) (hw : ∀ d ∈ tables_1, d.before a0 Z = true) {n0 : Nat} {h : Heap} {a ra ca ka la fa va : Nat} {tI : List Int32} {tD : List UInt64} (hTI : tI.length = 1020) (hTD : tD.length = 1020) {rs0 rs1 rs2 rs3 : Int32} {cs0 cs1 cs2 cs3 : Int32} {ks0 ks1 ks2 ks3 : UInt64} {ls0 ls1 ls2 ls3 : Int32} {fs0 fs1 fs2 fs3 : UInt64} {vs0 vs1 vs2 vs3 : UInt64}  (H : BS Z n0 h a ra ca ka la fa va (1 : Int32) (0 : Int32) (0 : Int32) (0 : Int32) ([rs0, rs1, rs2, rs3] ++ tI) ([cs0, cs1, cs2, cs3] ++ tI) ([ks0, ks1, ks2, ks3] ++ tD) ([ls0, ls1, ls2, ls3] ++ tI) ([fs0, fs1, fs2, fs3] ++ tD) ([vs0, vs1, vs2, vs3] ++ tD)) :
    Go l Z ({ frames := 1, cells := 0, slots := 0, locals := 20 } : Room) ((⟨"com/example/orbifold/orbifold/solvers/BellmanSystem", "startChoice", "()V"⟩ : MethodName), prog_167_method_3_code, 1, none) n0 (fun v h' => v = none ∧ BS Z n0 h' a ra ca ka la fa va (1 : Int32) (1 : Int32) (0 : Int32) (0 : Int32) ([rs0, (1 : Int32), rs2, rs3] ++ tI) ([cs0, (0 : Int32), cs2, cs3] ++ tI) ([(0 : UInt64), ks1, ks2, ks3] ++ tD) ([ls0, ls1, ls2, ls3] ++ tI) ([fs0, fs1, fs2, fs3] ++ tD) ([(0 : UInt64), vs1, vs2, vs3] ++ tD)) h 0 0 0 #[.val (.ref a)] [] := by
  refine Go.aloadN 1 d5_0 rfl rfl rfl ?_
  refine Go.aloadN 2 d5_1 rfl rfl rfl ?_
  refine Go.getf 5 (hw _ (List.mem_of_getElem? (i := 13) rfl)) H.1.2.2.1 d5_2 rfl ?_
  refine Go.aloadN 6 d5_5 rfl rfl rfl ?_
  refine Go.getf 9 (hw _ (List.mem_of_getElem? (i := 34) rfl)) H.1.2.2.2.2.2.2.2.2.1 d5_6 rfl ?_
  refine Go.iconst 10 (2 : Int32) d5_9 rfl (by decide) ?_
  refine Go.iadd 11 (2 : Int32) d5_10 rfl (by decide) ?_
  refine Go.callS 14 [(.ref ca), (.int (2 : Int32))] [(.ref a)] (hw _ (List.mem_of_getElem? (i := 31) rfl)) (hw _ (List.mem_of_getElem? (i := 32) rfl)) (hw _ (List.mem_of_getElem? (i := 33) rfl)) (hw _ (List.mem_of_getElem? (i := 3) rfl)) (by decide) pn_1 pd_2 rfl (ef_4_AI ca (2 : Int32)) (ensureI_go l Z H.2.2.1 (len4 hTI) (by decide)) rfl rfl (by decide) (leB rfl) (by decide) (by decide) d5_11 rfl ?_
  rintro _ _ ⟨rfl, rfl⟩
  refine Go.putF 17 (hw _ (List.mem_of_getElem? (i := 13) rfl)) H.1.2.2.1 H.1.1 (Or.inl (hw _ (List.mem_of_getElem? (i := 14) rfl))) (hw _ (List.mem_of_getElem? (i := 2) rfl)) (ty := (.array .int)) (by decide) rfl rfl (by have := H.2.2.2.2.2.2.2; omega) d5_14 rfl ?_
  intro h7 W7
  have H7 : BS Z n0 h7 a ra ca ka la fa va (1 : Int32) (0 : Int32) (0 : Int32) (0 : Int32) ([rs0, rs1, rs2, rs3] ++ tI) ([cs0, cs1, cs2, cs3] ++ tI) ([ks0, ks1, ks2, ks3] ++ tD) ([ls0, ls1, ls2, ls3] ++ tI) ([fs0, fs1, fs2, fs3] ++ tD) ([vs0, vs1, vs2, vs3] ++ tD) := H.put_choiceStart a0 hw W7
  refine Go.aloadN 18 d5_17 rfl rfl rfl ?_
  refine Go.aloadN 19 d5_18 rfl rfl rfl ?_
  refine Go.getf 22 (hw _ (List.mem_of_getElem? (i := 16) rfl)) H7.1.2.2.2.1 d5_19 rfl ?_
  refine Go.aloadN 23 d5_22 rfl rfl rfl ?_
  refine Go.getf 26 (hw _ (List.mem_of_getElem? (i := 34) rfl)) H7.1.2.2.2.2.2.2.2.2.1 d5_23 rfl ?_
  refine Go.iconst 27 (1 : Int32) d5_26 rfl (by decide) ?_
  refine Go.iadd 28 (1 : Int32) d5_27 rfl (by decide) ?_
  refine Go.callS 31 [(.ref ka), (.int (1 : Int32))] [(.ref a)] (hw _ (List.mem_of_getElem? (i := 41) rfl)) (hw _ (List.mem_of_getElem? (i := 42) rfl)) (hw _ (List.mem_of_getElem? (i := 43) rfl)) (hw _ (List.mem_of_getElem? (i := 3) rfl)) (by decide) pn_1 pd_4 rfl (ef_6_AI ka (1 : Int32)) (ensureD_go l Z H7.2.2.2.1 (len4 hTD) (by decide)) rfl rfl (by decide) (leB rfl) (by decide) (by decide) d5_28 rfl ?_
  rintro _ _ ⟨rfl, rfl⟩
  refine Go.putF 34 (hw _ (List.mem_of_getElem? (i := 16) rfl)) H7.1.2.2.2.1 H7.1.1 (Or.inl (hw _ (List.mem_of_getElem? (i := 17) rfl))) (hw _ (List.mem_of_getElem? (i := 2) rfl)) (ty := (.array .double)) (by decide) rfl rfl (by have := H7.2.2.2.2.2.2.2; omega) d5_31 rfl ?_
  intro h8 W8
  have H8 : BS Z n0 h8 a ra ca ka la fa va (1 : Int32) (0 : Int32) (0 : Int32) (0 : Int32) ([rs0, rs1, rs2, rs3] ++ tI) ([cs0, cs1, cs2, cs3] ++ tI) ([ks0, ks1, ks2, ks3] ++ tD) ([ls0, ls1, ls2, ls3] ++ tI) ([fs0, fs1, fs2, fs3] ++ tD) ([vs0, vs1, vs2, vs3] ++ tD) := H7.put_constants a0 hw W8
  refine Go.aloadN 35 d5_34 rfl rfl rfl ?_
  refine Go.getf 38 (hw _ (List.mem_of_getElem? (i := 16) rfl)) H8.1.2.2.2.1 d5_35 rfl ?_
  refine Go.aloadN 39 d5_38 rfl rfl rfl ?_
  refine Go.getf 42 (hw _ (List.mem_of_getElem? (i := 34) rfl)) H8.1.2.2.2.2.2.2.2.2.1 d5_39 rfl ?_
  refine Go.dconst0 43 (0 : UInt64) d5_42 rfl rfl ?_
  refine Go.dastore 44 H8.2.2.2.1 (i := 0) (by decide) (in4 (by decide)) (by have := H8.2.2.2.2.2.2.2; omega) d5_43 rfl ?_
  intro h9 K9 A9
  have H9 : BS Z n0 h9 a ra ca ka la fa va (1 : Int32) (0 : Int32) (0 : Int32) (0 : Int32) ([rs0, rs1, rs2, rs3] ++ tI) ([cs0, cs1, cs2, cs3] ++ tI) ([(0 : UInt64), ks1, ks2, ks3] ++ tD) ([ls0, ls1, ls2, ls3] ++ tI) ([fs0, fs1, fs2, fs3] ++ tD) ([vs0, vs1, vs2, vs3] ++ tD) := H8.set_constants K9 A9
  refine Go.aloadN 45 d5_44 rfl rfl rfl ?_
  refine Go.aloadN 46 d5_45 rfl rfl rfl ?_
  refine Go.getf 49 (hw _ (List.mem_of_getElem? (i := 22) rfl)) H9.1.2.2.2.2.2.2.1 d5_46 rfl ?_
  refine Go.aloadN 50 d5_49 rfl rfl rfl ?_
  refine Go.getf 53 (hw _ (List.mem_of_getElem? (i := 34) rfl)) H9.1.2.2.2.2.2.2.2.2.1 d5_50 rfl ?_
  refine Go.iconst 54 (1 : Int32) d5_53 rfl (by decide) ?_
  refine Go.iadd 55 (1 : Int32) d5_54 rfl (by decide) ?_
  refine Go.callS 58 [(.ref va), (.int (1 : Int32))] [(.ref a)] (hw _ (List.mem_of_getElem? (i := 41) rfl)) (hw _ (List.mem_of_getElem? (i := 42) rfl)) (hw _ (List.mem_of_getElem? (i := 43) rfl)) (hw _ (List.mem_of_getElem? (i := 3) rfl)) (by decide) pn_1 pd_4 rfl (ef_6_AI va (1 : Int32)) (ensureD_go l Z H9.2.2.2.2.2.2.1 (len4 hTD) (by decide)) rfl rfl (by decide) (leB rfl) (by decide) (by decide) d5_55 rfl ?_
  rintro _ _ ⟨rfl, rfl⟩
  refine Go.putF 61 (hw _ (List.mem_of_getElem? (i := 22) rfl)) H9.1.2.2.2.2.2.2.1 H9.1.1 (Or.inl (hw _ (List.mem_of_getElem? (i := 23) rfl))) (hw _ (List.mem_of_getElem? (i := 2) rfl)) (ty := (.array .double)) (by decide) rfl rfl (by have := H9.2.2.2.2.2.2.2; omega) d5_58 rfl ?_
  intro h10 W10
  have H10 : BS Z n0 h10 a ra ca ka la fa va (1 : Int32) (0 : Int32) (0 : Int32) (0 : Int32) ([rs0, rs1, rs2, rs3] ++ tI) ([cs0, cs1, cs2, cs3] ++ tI) ([(0 : UInt64), ks1, ks2, ks3] ++ tD) ([ls0, ls1, ls2, ls3] ++ tI) ([fs0, fs1, fs2, fs3] ++ tD) ([vs0, vs1, vs2, vs3] ++ tD) := H9.put_leaving a0 hw W10
  refine Go.aloadN 62 d5_61 rfl rfl rfl ?_
  refine Go.getf 65 (hw _ (List.mem_of_getElem? (i := 22) rfl)) H10.1.2.2.2.2.2.2.1 d5_62 rfl ?_
  refine Go.aloadN 66 d5_65 rfl rfl rfl ?_
  refine Go.getf 69 (hw _ (List.mem_of_getElem? (i := 34) rfl)) H10.1.2.2.2.2.2.2.2.2.1 d5_66 rfl ?_
  refine Go.dconst0 70 (0 : UInt64) d5_69 rfl rfl ?_
  refine Go.dastore 71 H10.2.2.2.2.2.2.1 (i := 0) (by decide) (in4 (by decide)) (by have := H10.2.2.2.2.2.2.2; omega) d5_70 rfl ?_
  intro h11 K11 A11
  have H11 : BS Z n0 h11 a ra ca ka la fa va (1 : Int32) (0 : Int32) (0 : Int32) (0 : Int32) ([rs0, rs1, rs2, rs3] ++ tI) ([cs0, cs1, cs2, cs3] ++ tI) ([(0 : UInt64), ks1, ks2, ks3] ++ tD) ([ls0, ls1, ls2, ls3] ++ tI) ([fs0, fs1, fs2, fs3] ++ tD) ([(0 : UInt64), vs1, vs2, vs3] ++ tD) := H10.set_leaving K11 A11
  refine Go.aloadN 72 d5_71 rfl rfl rfl ?_
  refine Go.dup 73 d5_72 rfl rfl ?_
  refine Go.getf 76 (hw _ (List.mem_of_getElem? (i := 34) rfl)) H11.1.2.2.2.2.2.2.2.2.1 d5_73 rfl ?_
  refine Go.iconst 77 (1 : Int32) d5_76 rfl (by decide) ?_
  refine Go.iadd 78 (1 : Int32) d5_77 rfl (by decide) ?_
  refine Go.putF 81 (hw _ (List.mem_of_getElem? (i := 34) rfl)) H11.1.2.2.2.2.2.2.2.2.1 H11.1.1 (Or.inl (hw _ (List.mem_of_getElem? (i := 35) rfl))) (hw _ (List.mem_of_getElem? (i := 2) rfl)) (ty := .int) (by decide) rfl rfl (by have := H11.2.2.2.2.2.2.2; omega) d5_78 rfl ?_
  intro h12 W12
  have H12 : BS Z n0 h12 a ra ca ka la fa va (1 : Int32) (1 : Int32) (0 : Int32) (0 : Int32) ([rs0, rs1, rs2, rs3] ++ tI) ([cs0, cs1, cs2, cs3] ++ tI) ([(0 : UInt64), ks1, ks2, ks3] ++ tD) ([ls0, ls1, ls2, ls3] ++ tI) ([fs0, fs1, fs2, fs3] ++ tD) ([(0 : UInt64), vs1, vs2, vs3] ++ tD) := H11.put_choices a0 hw W12
  refine Go.aloadN 82 d5_81 rfl rfl rfl ?_
  refine Go.getf 85 (hw _ (List.mem_of_getElem? (i := 13) rfl)) H12.1.2.2.1 d5_82 rfl ?_
  refine Go.aloadN 86 d5_85 rfl rfl rfl ?_
  refine Go.getf 89 (hw _ (List.mem_of_getElem? (i := 34) rfl)) H12.1.2.2.2.2.2.2.2.2.1 d5_86 rfl ?_
  refine Go.aloadN 90 d5_89 rfl rfl rfl ?_
  refine Go.getf 93 (hw _ (List.mem_of_getElem? (i := 44) rfl)) H12.1.2.2.2.2.2.2.2.2.2.1 d5_90 rfl ?_
  refine Go.iastore 94 H12.2.2.1 (i := 1) (by decide) (in4 (by decide)) (by have := H12.2.2.2.2.2.2.2; omega) d5_93 rfl ?_
  intro h13 K13 A13
  have H13 : BS Z n0 h13 a ra ca ka la fa va (1 : Int32) (1 : Int32) (0 : Int32) (0 : Int32) ([rs0, rs1, rs2, rs3] ++ tI) ([cs0, (0 : Int32), cs2, cs3] ++ tI) ([(0 : UInt64), ks1, ks2, ks3] ++ tD) ([ls0, ls1, ls2, ls3] ++ tI) ([fs0, fs1, fs2, fs3] ++ tD) ([(0 : UInt64), vs1, vs2, vs3] ++ tD) := H12.set_choiceStart K13 A13
  refine Go.aloadN 95 d5_94 rfl rfl rfl ?_
  refine Go.getf 98 (hw _ (List.mem_of_getElem? (i := 11) rfl)) H13.1.2.1 d5_95 rfl ?_
  refine Go.aloadN 99 d5_98 rfl rfl rfl ?_
  refine Go.getf 102 (hw _ (List.mem_of_getElem? (i := 29) rfl)) H13.1.2.2.2.2.2.2.2.1 d5_99 rfl ?_
  refine Go.aloadN 103 d5_102 rfl rfl rfl ?_
  refine Go.getf 106 (hw _ (List.mem_of_getElem? (i := 34) rfl)) H13.1.2.2.2.2.2.2.2.2.1 d5_103 rfl ?_
  refine Go.iastore 107 H13.2.1 (i := 1) (by decide) (in4 (by decide)) (by have := H13.2.2.2.2.2.2.2; omega) d5_106 rfl ?_
  intro h14 K14 A14
  have H14 : BS Z n0 h14 a ra ca ka la fa va (1 : Int32) (1 : Int32) (0 : Int32) (0 : Int32) ([rs0, (1 : Int32), rs2, rs3] ++ tI) ([cs0, (0 : Int32), cs2, cs3] ++ tI) ([(0 : UInt64), ks1, ks2, ks3] ++ tD) ([ls0, ls1, ls2, ls3] ++ tI) ([fs0, fs1, fs2, fs3] ++ tD) ([(0 : UInt64), vs1, vs2, vs3] ++ tD) := H13.set_rowStart K14 A14
  exact Go.ret d5_107 rfl (by decide) (by decide) ⟨rfl, H14⟩
set_option maxRecDepth 65536 in
set_option maxHeartbeats 40000000 in
theorem startChoice_2 (l : Launch) (Z : State) (a0 : Array Value) (hw : ∀ d ∈ tables_1, d.before a0 Z = true) {n0 : Nat} {h : Heap} {a ra ca ka la fa va : Nat} {tI : List Int32} {tD : List UInt64} (hTI : tI.length = 1020) (hTD : tD.length = 1020) {rs0 rs1 rs2 rs3 : Int32} {cs0 cs1 cs2 cs3 : Int32} {ks0 ks1 ks2 ks3 : UInt64} {ls0 ls1 ls2 ls3 : Int32} {fs0 fs1 fs2 fs3 : UInt64} {vs0 vs1 vs2 vs3 : UInt64}  (H : BS Z n0 h a ra ca ka la fa va (2 : Int32) (1 : Int32) (2 : Int32) (0 : Int32) ([rs0, rs1, rs2, rs3] ++ tI) ([cs0, cs1, cs2, cs3] ++ tI) ([ks0, ks1, ks2, ks3] ++ tD) ([ls0, ls1, ls2, ls3] ++ tI) ([fs0, fs1, fs2, fs3] ++ tD) ([vs0, vs1, vs2, vs3] ++ tD)) :
    Go l Z ({ frames := 1, cells := 0, slots := 0, locals := 20 } : Room) ((⟨"com/example/orbifold/orbifold/solvers/BellmanSystem", "startChoice", "()V"⟩ : MethodName), prog_167_method_3_code, 1, none) n0 (fun v h' => v = none ∧ BS Z n0 h' a ra ca ka la fa va (2 : Int32) (2 : Int32) (2 : Int32) (0 : Int32) ([rs0, rs1, (2 : Int32), rs3] ++ tI) ([cs0, cs1, (2 : Int32), cs3] ++ tI) ([ks0, (0 : UInt64), ks2, ks3] ++ tD) ([ls0, ls1, ls2, ls3] ++ tI) ([fs0, fs1, fs2, fs3] ++ tD) ([vs0, (0 : UInt64), vs2, vs3] ++ tD)) h 0 0 0 #[.val (.ref a)] [] := by
  refine Go.aloadN 1 d5_0 rfl rfl rfl ?_
  refine Go.aloadN 2 d5_1 rfl rfl rfl ?_
  refine Go.getf 5 (hw _ (List.mem_of_getElem? (i := 13) rfl)) H.1.2.2.1 d5_2 rfl ?_
  refine Go.aloadN 6 d5_5 rfl rfl rfl ?_
  refine Go.getf 9 (hw _ (List.mem_of_getElem? (i := 34) rfl)) H.1.2.2.2.2.2.2.2.2.1 d5_6 rfl ?_
  refine Go.iconst 10 (2 : Int32) d5_9 rfl (by decide) ?_
  refine Go.iadd 11 (3 : Int32) d5_10 rfl (by decide) ?_
  refine Go.callS 14 [(.ref ca), (.int (3 : Int32))] [(.ref a)] (hw _ (List.mem_of_getElem? (i := 31) rfl)) (hw _ (List.mem_of_getElem? (i := 32) rfl)) (hw _ (List.mem_of_getElem? (i := 33) rfl)) (hw _ (List.mem_of_getElem? (i := 3) rfl)) (by decide) pn_1 pd_2 rfl (ef_4_AI ca (3 : Int32)) (ensureI_go l Z H.2.2.1 (len4 hTI) (by decide)) rfl rfl (by decide) (leB rfl) (by decide) (by decide) d5_11 rfl ?_
  rintro _ _ ⟨rfl, rfl⟩
  refine Go.putF 17 (hw _ (List.mem_of_getElem? (i := 13) rfl)) H.1.2.2.1 H.1.1 (Or.inl (hw _ (List.mem_of_getElem? (i := 14) rfl))) (hw _ (List.mem_of_getElem? (i := 2) rfl)) (ty := (.array .int)) (by decide) rfl rfl (by have := H.2.2.2.2.2.2.2; omega) d5_14 rfl ?_
  intro h15 W15
  have H15 : BS Z n0 h15 a ra ca ka la fa va (2 : Int32) (1 : Int32) (2 : Int32) (0 : Int32) ([rs0, rs1, rs2, rs3] ++ tI) ([cs0, cs1, cs2, cs3] ++ tI) ([ks0, ks1, ks2, ks3] ++ tD) ([ls0, ls1, ls2, ls3] ++ tI) ([fs0, fs1, fs2, fs3] ++ tD) ([vs0, vs1, vs2, vs3] ++ tD) := H.put_choiceStart a0 hw W15
  refine Go.aloadN 18 d5_17 rfl rfl rfl ?_
  refine Go.aloadN 19 d5_18 rfl rfl rfl ?_
  refine Go.getf 22 (hw _ (List.mem_of_getElem? (i := 16) rfl)) H15.1.2.2.2.1 d5_19 rfl ?_
  refine Go.aloadN 23 d5_22 rfl rfl rfl ?_
  refine Go.getf 26 (hw _ (List.mem_of_getElem? (i := 34) rfl)) H15.1.2.2.2.2.2.2.2.2.1 d5_23 rfl ?_
  refine Go.iconst 27 (1 : Int32) d5_26 rfl (by decide) ?_
  refine Go.iadd 28 (2 : Int32) d5_27 rfl (by decide) ?_
  refine Go.callS 31 [(.ref ka), (.int (2 : Int32))] [(.ref a)] (hw _ (List.mem_of_getElem? (i := 41) rfl)) (hw _ (List.mem_of_getElem? (i := 42) rfl)) (hw _ (List.mem_of_getElem? (i := 43) rfl)) (hw _ (List.mem_of_getElem? (i := 3) rfl)) (by decide) pn_1 pd_4 rfl (ef_6_AI ka (2 : Int32)) (ensureD_go l Z H15.2.2.2.1 (len4 hTD) (by decide)) rfl rfl (by decide) (leB rfl) (by decide) (by decide) d5_28 rfl ?_
  rintro _ _ ⟨rfl, rfl⟩
  refine Go.putF 34 (hw _ (List.mem_of_getElem? (i := 16) rfl)) H15.1.2.2.2.1 H15.1.1 (Or.inl (hw _ (List.mem_of_getElem? (i := 17) rfl))) (hw _ (List.mem_of_getElem? (i := 2) rfl)) (ty := (.array .double)) (by decide) rfl rfl (by have := H15.2.2.2.2.2.2.2; omega) d5_31 rfl ?_
  intro h16 W16
  have H16 : BS Z n0 h16 a ra ca ka la fa va (2 : Int32) (1 : Int32) (2 : Int32) (0 : Int32) ([rs0, rs1, rs2, rs3] ++ tI) ([cs0, cs1, cs2, cs3] ++ tI) ([ks0, ks1, ks2, ks3] ++ tD) ([ls0, ls1, ls2, ls3] ++ tI) ([fs0, fs1, fs2, fs3] ++ tD) ([vs0, vs1, vs2, vs3] ++ tD) := H15.put_constants a0 hw W16
  refine Go.aloadN 35 d5_34 rfl rfl rfl ?_
  refine Go.getf 38 (hw _ (List.mem_of_getElem? (i := 16) rfl)) H16.1.2.2.2.1 d5_35 rfl ?_
  refine Go.aloadN 39 d5_38 rfl rfl rfl ?_
  refine Go.getf 42 (hw _ (List.mem_of_getElem? (i := 34) rfl)) H16.1.2.2.2.2.2.2.2.2.1 d5_39 rfl ?_
  refine Go.dconst0 43 (0 : UInt64) d5_42 rfl rfl ?_
  refine Go.dastore 44 H16.2.2.2.1 (i := 1) (by decide) (in4 (by decide)) (by have := H16.2.2.2.2.2.2.2; omega) d5_43 rfl ?_
  intro h17 K17 A17
  have H17 : BS Z n0 h17 a ra ca ka la fa va (2 : Int32) (1 : Int32) (2 : Int32) (0 : Int32) ([rs0, rs1, rs2, rs3] ++ tI) ([cs0, cs1, cs2, cs3] ++ tI) ([ks0, (0 : UInt64), ks2, ks3] ++ tD) ([ls0, ls1, ls2, ls3] ++ tI) ([fs0, fs1, fs2, fs3] ++ tD) ([vs0, vs1, vs2, vs3] ++ tD) := H16.set_constants K17 A17
  refine Go.aloadN 45 d5_44 rfl rfl rfl ?_
  refine Go.aloadN 46 d5_45 rfl rfl rfl ?_
  refine Go.getf 49 (hw _ (List.mem_of_getElem? (i := 22) rfl)) H17.1.2.2.2.2.2.2.1 d5_46 rfl ?_
  refine Go.aloadN 50 d5_49 rfl rfl rfl ?_
  refine Go.getf 53 (hw _ (List.mem_of_getElem? (i := 34) rfl)) H17.1.2.2.2.2.2.2.2.2.1 d5_50 rfl ?_
  refine Go.iconst 54 (1 : Int32) d5_53 rfl (by decide) ?_
  refine Go.iadd 55 (2 : Int32) d5_54 rfl (by decide) ?_
  refine Go.callS 58 [(.ref va), (.int (2 : Int32))] [(.ref a)] (hw _ (List.mem_of_getElem? (i := 41) rfl)) (hw _ (List.mem_of_getElem? (i := 42) rfl)) (hw _ (List.mem_of_getElem? (i := 43) rfl)) (hw _ (List.mem_of_getElem? (i := 3) rfl)) (by decide) pn_1 pd_4 rfl (ef_6_AI va (2 : Int32)) (ensureD_go l Z H17.2.2.2.2.2.2.1 (len4 hTD) (by decide)) rfl rfl (by decide) (leB rfl) (by decide) (by decide) d5_55 rfl ?_
  rintro _ _ ⟨rfl, rfl⟩
  refine Go.putF 61 (hw _ (List.mem_of_getElem? (i := 22) rfl)) H17.1.2.2.2.2.2.2.1 H17.1.1 (Or.inl (hw _ (List.mem_of_getElem? (i := 23) rfl))) (hw _ (List.mem_of_getElem? (i := 2) rfl)) (ty := (.array .double)) (by decide) rfl rfl (by have := H17.2.2.2.2.2.2.2; omega) d5_58 rfl ?_
  intro h18 W18
  have H18 : BS Z n0 h18 a ra ca ka la fa va (2 : Int32) (1 : Int32) (2 : Int32) (0 : Int32) ([rs0, rs1, rs2, rs3] ++ tI) ([cs0, cs1, cs2, cs3] ++ tI) ([ks0, (0 : UInt64), ks2, ks3] ++ tD) ([ls0, ls1, ls2, ls3] ++ tI) ([fs0, fs1, fs2, fs3] ++ tD) ([vs0, vs1, vs2, vs3] ++ tD) := H17.put_leaving a0 hw W18
  refine Go.aloadN 62 d5_61 rfl rfl rfl ?_
  refine Go.getf 65 (hw _ (List.mem_of_getElem? (i := 22) rfl)) H18.1.2.2.2.2.2.2.1 d5_62 rfl ?_
  refine Go.aloadN 66 d5_65 rfl rfl rfl ?_
  refine Go.getf 69 (hw _ (List.mem_of_getElem? (i := 34) rfl)) H18.1.2.2.2.2.2.2.2.2.1 d5_66 rfl ?_
  refine Go.dconst0 70 (0 : UInt64) d5_69 rfl rfl ?_
  refine Go.dastore 71 H18.2.2.2.2.2.2.1 (i := 1) (by decide) (in4 (by decide)) (by have := H18.2.2.2.2.2.2.2; omega) d5_70 rfl ?_
  intro h19 K19 A19
  have H19 : BS Z n0 h19 a ra ca ka la fa va (2 : Int32) (1 : Int32) (2 : Int32) (0 : Int32) ([rs0, rs1, rs2, rs3] ++ tI) ([cs0, cs1, cs2, cs3] ++ tI) ([ks0, (0 : UInt64), ks2, ks3] ++ tD) ([ls0, ls1, ls2, ls3] ++ tI) ([fs0, fs1, fs2, fs3] ++ tD) ([vs0, (0 : UInt64), vs2, vs3] ++ tD) := H18.set_leaving K19 A19
  refine Go.aloadN 72 d5_71 rfl rfl rfl ?_
  refine Go.dup 73 d5_72 rfl rfl ?_
  refine Go.getf 76 (hw _ (List.mem_of_getElem? (i := 34) rfl)) H19.1.2.2.2.2.2.2.2.2.1 d5_73 rfl ?_
  refine Go.iconst 77 (1 : Int32) d5_76 rfl (by decide) ?_
  refine Go.iadd 78 (2 : Int32) d5_77 rfl (by decide) ?_
  refine Go.putF 81 (hw _ (List.mem_of_getElem? (i := 34) rfl)) H19.1.2.2.2.2.2.2.2.2.1 H19.1.1 (Or.inl (hw _ (List.mem_of_getElem? (i := 35) rfl))) (hw _ (List.mem_of_getElem? (i := 2) rfl)) (ty := .int) (by decide) rfl rfl (by have := H19.2.2.2.2.2.2.2; omega) d5_78 rfl ?_
  intro h20 W20
  have H20 : BS Z n0 h20 a ra ca ka la fa va (2 : Int32) (2 : Int32) (2 : Int32) (0 : Int32) ([rs0, rs1, rs2, rs3] ++ tI) ([cs0, cs1, cs2, cs3] ++ tI) ([ks0, (0 : UInt64), ks2, ks3] ++ tD) ([ls0, ls1, ls2, ls3] ++ tI) ([fs0, fs1, fs2, fs3] ++ tD) ([vs0, (0 : UInt64), vs2, vs3] ++ tD) := H19.put_choices a0 hw W20
  refine Go.aloadN 82 d5_81 rfl rfl rfl ?_
  refine Go.getf 85 (hw _ (List.mem_of_getElem? (i := 13) rfl)) H20.1.2.2.1 d5_82 rfl ?_
  refine Go.aloadN 86 d5_85 rfl rfl rfl ?_
  refine Go.getf 89 (hw _ (List.mem_of_getElem? (i := 34) rfl)) H20.1.2.2.2.2.2.2.2.2.1 d5_86 rfl ?_
  refine Go.aloadN 90 d5_89 rfl rfl rfl ?_
  refine Go.getf 93 (hw _ (List.mem_of_getElem? (i := 44) rfl)) H20.1.2.2.2.2.2.2.2.2.2.1 d5_90 rfl ?_
  refine Go.iastore 94 H20.2.2.1 (i := 2) (by decide) (in4 (by decide)) (by have := H20.2.2.2.2.2.2.2; omega) d5_93 rfl ?_
  intro h21 K21 A21
  have H21 : BS Z n0 h21 a ra ca ka la fa va (2 : Int32) (2 : Int32) (2 : Int32) (0 : Int32) ([rs0, rs1, rs2, rs3] ++ tI) ([cs0, cs1, (2 : Int32), cs3] ++ tI) ([ks0, (0 : UInt64), ks2, ks3] ++ tD) ([ls0, ls1, ls2, ls3] ++ tI) ([fs0, fs1, fs2, fs3] ++ tD) ([vs0, (0 : UInt64), vs2, vs3] ++ tD) := H20.set_choiceStart K21 A21
  refine Go.aloadN 95 d5_94 rfl rfl rfl ?_
  refine Go.getf 98 (hw _ (List.mem_of_getElem? (i := 11) rfl)) H21.1.2.1 d5_95 rfl ?_
  refine Go.aloadN 99 d5_98 rfl rfl rfl ?_
  refine Go.getf 102 (hw _ (List.mem_of_getElem? (i := 29) rfl)) H21.1.2.2.2.2.2.2.2.1 d5_99 rfl ?_
  refine Go.aloadN 103 d5_102 rfl rfl rfl ?_
  refine Go.getf 106 (hw _ (List.mem_of_getElem? (i := 34) rfl)) H21.1.2.2.2.2.2.2.2.2.1 d5_103 rfl ?_
  refine Go.iastore 107 H21.2.1 (i := 2) (by decide) (in4 (by decide)) (by have := H21.2.2.2.2.2.2.2; omega) d5_106 rfl ?_
  intro h22 K22 A22
  have H22 : BS Z n0 h22 a ra ca ka la fa va (2 : Int32) (2 : Int32) (2 : Int32) (0 : Int32) ([rs0, rs1, (2 : Int32), rs3] ++ tI) ([cs0, cs1, (2 : Int32), cs3] ++ tI) ([ks0, (0 : UInt64), ks2, ks3] ++ tD) ([ls0, ls1, ls2, ls3] ++ tI) ([fs0, fs1, fs2, fs3] ++ tD) ([vs0, (0 : UInt64), vs2, vs3] ++ tD) := H21.set_rowStart K22 A22
  exact Go.ret d5_107 rfl (by decide) (by decide) ⟨rfl, H22⟩
set_option maxRecDepth 65536 in
set_option maxHeartbeats 40000000 in
theorem addConstant_1 (l : Launch) (Z : State) (a0 : Array Value) (hw : ∀ d ∈ tables_1, d.before a0 Z = true) {n0 : Nat} {h : Heap} {a ra ca ka la fa va : Nat} {tI : List Int32} {tD : List UInt64} (hTI : tI.length = 1020) (hTD : tD.length = 1020) {rs0 rs1 rs2 rs3 : Int32} {cs0 cs1 cs2 cs3 : Int32} {ks0 ks1 ks2 ks3 : UInt64} {ls0 ls1 ls2 ls3 : Int32} {fs0 fs1 fs2 fs3 : UInt64} {vs0 vs1 vs2 vs3 : UInt64} {x y : UInt64} (q : DAdd ks0 x y) (H : BS Z n0 h a ra ca ka la fa va (1 : Int32) (1 : Int32) (0 : Int32) (0 : Int32) ([rs0, rs1, rs2, rs3] ++ tI) ([cs0, cs1, cs2, cs3] ++ tI) ([ks0, ks1, ks2, ks3] ++ tD) ([ls0, ls1, ls2, ls3] ++ tI) ([fs0, fs1, fs2, fs3] ++ tD) ([vs0, vs1, vs2, vs3] ++ tD)) :
    Go l Z ({ frames := 1, cells := 0, slots := 0, locals := 20 } : Room) ((⟨"com/example/orbifold/orbifold/solvers/BellmanSystem", "addConstant", "(D)V"⟩ : MethodName), prog_167_method_4_code, 3, none) n0 (fun v h' => v = none ∧ BS Z n0 h' a ra ca ka la fa va (1 : Int32) (1 : Int32) (0 : Int32) (0 : Int32) ([rs0, rs1, rs2, rs3] ++ tI) ([cs0, cs1, cs2, cs3] ++ tI) ([y, ks1, ks2, ks3] ++ tD) ([ls0, ls1, ls2, ls3] ++ tI) ([fs0, fs1, fs2, fs3] ++ tD) ([vs0, vs1, vs2, vs3] ++ tD)) h 0 0 0 #[.val (.ref a), .val (.double x), .second] [] := by
  refine Go.aloadN 1 d7_0 rfl rfl rfl ?_
  refine Go.getf 4 (hw _ (List.mem_of_getElem? (i := 16) rfl)) H.1.2.2.2.1 d7_1 rfl ?_
  refine Go.aloadN 5 d7_4 rfl rfl rfl ?_
  refine Go.getf 8 (hw _ (List.mem_of_getElem? (i := 34) rfl)) H.1.2.2.2.2.2.2.2.2.1 d7_5 rfl ?_
  refine Go.iconst 9 (1 : Int32) d7_8 rfl (by decide) ?_
  refine Go.isub 10 (0 : Int32) d7_9 rfl (by decide) ?_
  refine Go.dup2 11 d7_10 rfl rfl rfl ?_
  refine Go.daload 12 H.2.2.2.1 (i := 0) (by decide) rfl d7_11 rfl ?_
  refine Go.dloadN 13 d7_12 rfl rfl ?_
  refine Go.dadd 14 y d7_13 rfl q.1 q.2 ?_
  refine Go.dastore 15 H.2.2.2.1 (i := 0) (by decide) (in4 (by decide)) (by have := H.2.2.2.2.2.2.2; omega) d7_14 rfl ?_
  intro h23 K23 A23
  have H23 : BS Z n0 h23 a ra ca ka la fa va (1 : Int32) (1 : Int32) (0 : Int32) (0 : Int32) ([rs0, rs1, rs2, rs3] ++ tI) ([cs0, cs1, cs2, cs3] ++ tI) ([y, ks1, ks2, ks3] ++ tD) ([ls0, ls1, ls2, ls3] ++ tI) ([fs0, fs1, fs2, fs3] ++ tD) ([vs0, vs1, vs2, vs3] ++ tD) := H.set_constants K23 A23
  exact Go.ret d7_15 rfl (by decide) (by decide) ⟨rfl, H23⟩
set_option maxRecDepth 65536 in
set_option maxHeartbeats 40000000 in
theorem addLeaving_1 (l : Launch) (Z : State) (a0 : Array Value) (hw : ∀ d ∈ tables_1, d.before a0 Z = true) {n0 : Nat} {h : Heap} {a ra ca ka la fa va : Nat} {tI : List Int32} {tD : List UInt64} (hTI : tI.length = 1020) (hTD : tD.length = 1020) {rs0 rs1 rs2 rs3 : Int32} {cs0 cs1 cs2 cs3 : Int32} {ks0 ks1 ks2 ks3 : UInt64} {ls0 ls1 ls2 ls3 : Int32} {fs0 fs1 fs2 fs3 : UInt64} {vs0 vs1 vs2 vs3 : UInt64} {x y : UInt64} (q : DAdd vs0 x y) (H : BS Z n0 h a ra ca ka la fa va (1 : Int32) (1 : Int32) (0 : Int32) (0 : Int32) ([rs0, rs1, rs2, rs3] ++ tI) ([cs0, cs1, cs2, cs3] ++ tI) ([ks0, ks1, ks2, ks3] ++ tD) ([ls0, ls1, ls2, ls3] ++ tI) ([fs0, fs1, fs2, fs3] ++ tD) ([vs0, vs1, vs2, vs3] ++ tD)) :
    Go l Z ({ frames := 1, cells := 0, slots := 0, locals := 20 } : Room) ((⟨"com/example/orbifold/orbifold/solvers/BellmanSystem", "addLeaving", "(D)V"⟩ : MethodName), prog_167_method_5_code, 3, none) n0 (fun v h' => v = none ∧ BS Z n0 h' a ra ca ka la fa va (1 : Int32) (1 : Int32) (0 : Int32) (0 : Int32) ([rs0, rs1, rs2, rs3] ++ tI) ([cs0, cs1, cs2, cs3] ++ tI) ([ks0, ks1, ks2, ks3] ++ tD) ([ls0, ls1, ls2, ls3] ++ tI) ([fs0, fs1, fs2, fs3] ++ tD) ([y, vs1, vs2, vs3] ++ tD)) h 0 0 0 #[.val (.ref a), .val (.double x), .second] [] := by
  refine Go.aloadN 1 d8_0 rfl rfl rfl ?_
  refine Go.getf 4 (hw _ (List.mem_of_getElem? (i := 22) rfl)) H.1.2.2.2.2.2.2.1 d8_1 rfl ?_
  refine Go.aloadN 5 d8_4 rfl rfl rfl ?_
  refine Go.getf 8 (hw _ (List.mem_of_getElem? (i := 34) rfl)) H.1.2.2.2.2.2.2.2.2.1 d8_5 rfl ?_
  refine Go.iconst 9 (1 : Int32) d8_8 rfl (by decide) ?_
  refine Go.isub 10 (0 : Int32) d8_9 rfl (by decide) ?_
  refine Go.dup2 11 d8_10 rfl rfl rfl ?_
  refine Go.daload 12 H.2.2.2.2.2.2.1 (i := 0) (by decide) rfl d8_11 rfl ?_
  refine Go.dloadN 13 d8_12 rfl rfl ?_
  refine Go.dadd 14 y d8_13 rfl q.1 q.2 ?_
  refine Go.dastore 15 H.2.2.2.2.2.2.1 (i := 0) (by decide) (in4 (by decide)) (by have := H.2.2.2.2.2.2.2; omega) d8_14 rfl ?_
  intro h24 K24 A24
  have H24 : BS Z n0 h24 a ra ca ka la fa va (1 : Int32) (1 : Int32) (0 : Int32) (0 : Int32) ([rs0, rs1, rs2, rs3] ++ tI) ([cs0, cs1, cs2, cs3] ++ tI) ([ks0, ks1, ks2, ks3] ++ tD) ([ls0, ls1, ls2, ls3] ++ tI) ([fs0, fs1, fs2, fs3] ++ tD) ([y, vs1, vs2, vs3] ++ tD) := H.set_leaving K24 A24
  exact Go.ret d8_15 rfl (by decide) (by decide) ⟨rfl, H24⟩
set_option maxRecDepth 65536 in
set_option maxHeartbeats 40000000 in
theorem addTerm_0 (l : Launch) (Z : State) (a0 : Array Value) (hw : ∀ d ∈ tables_1, d.before a0 Z = true) {n0 : Nat} {h : Heap} {a ra ca ka la fa va : Nat} {tI : List Int32} {tD : List UInt64} (hTI : tI.length = 1020) (hTD : tD.length = 1020) {rs0 rs1 rs2 rs3 : Int32} {cs0 cs1 cs2 cs3 : Int32} {ks0 ks1 ks2 ks3 : UInt64} {ls0 ls1 ls2 ls3 : Int32} {fs0 fs1 fs2 fs3 : UInt64} {vs0 vs1 vs2 vs3 : UInt64} {i : Int32} {x : UInt64} (H : BS Z n0 h a ra ca ka la fa va (1 : Int32) (1 : Int32) (0 : Int32) (0 : Int32) ([rs0, rs1, rs2, rs3] ++ tI) ([cs0, cs1, cs2, cs3] ++ tI) ([ks0, ks1, ks2, ks3] ++ tD) ([ls0, ls1, ls2, ls3] ++ tI) ([fs0, fs1, fs2, fs3] ++ tD) ([vs0, vs1, vs2, vs3] ++ tD)) :
    Go l Z ({ frames := 1, cells := 0, slots := 0, locals := 20 } : Room) ((⟨"com/example/orbifold/orbifold/solvers/BellmanSystem", "addTerm", "(ID)V"⟩ : MethodName), prog_167_method_6_code, 4, none) n0 (fun v h' => v = none ∧ BS Z n0 h' a ra ca ka la fa va (1 : Int32) (1 : Int32) (1 : Int32) (0 : Int32) ([rs0, rs1, rs2, rs3] ++ tI) ([cs0, (1 : Int32), cs2, cs3] ++ tI) ([ks0, ks1, ks2, ks3] ++ tD) ([i, ls1, ls2, ls3] ++ tI) ([x, fs1, fs2, fs3] ++ tD) ([vs0, vs1, vs2, vs3] ++ tD)) h 0 0 0 #[.val (.ref a), .val (.int i), .val (.double x), .second] [] := by
  refine Go.aloadN 1 d9_0 rfl rfl rfl ?_
  refine Go.aloadN 2 d9_1 rfl rfl rfl ?_
  refine Go.getf 5 (hw _ (List.mem_of_getElem? (i := 18) rfl)) H.1.2.2.2.2.1 d9_2 rfl ?_
  refine Go.aloadN 6 d9_5 rfl rfl rfl ?_
  refine Go.getf 9 (hw _ (List.mem_of_getElem? (i := 44) rfl)) H.1.2.2.2.2.2.2.2.2.2.1 d9_6 rfl ?_
  refine Go.iconst 10 (1 : Int32) d9_9 rfl (by decide) ?_
  refine Go.iadd 11 (1 : Int32) d9_10 rfl (by decide) ?_
  refine Go.callS 14 [(.ref la), (.int (1 : Int32))] [(.ref a)] (hw _ (List.mem_of_getElem? (i := 31) rfl)) (hw _ (List.mem_of_getElem? (i := 32) rfl)) (hw _ (List.mem_of_getElem? (i := 33) rfl)) (hw _ (List.mem_of_getElem? (i := 3) rfl)) (by decide) pn_1 pd_2 rfl (ef_4_AI la (1 : Int32)) (ensureI_go l Z H.2.2.2.2.1 (len4 hTI) (by decide)) rfl rfl (by decide) (leB rfl) (by decide) (by decide) d9_11 rfl ?_
  rintro _ _ ⟨rfl, rfl⟩
  refine Go.putF 17 (hw _ (List.mem_of_getElem? (i := 18) rfl)) H.1.2.2.2.2.1 H.1.1 (Or.inl (hw _ (List.mem_of_getElem? (i := 19) rfl))) (hw _ (List.mem_of_getElem? (i := 2) rfl)) (ty := (.array .int)) (by decide) rfl rfl (by have := H.2.2.2.2.2.2.2; omega) d9_14 rfl ?_
  intro h25 W25
  have H25 : BS Z n0 h25 a ra ca ka la fa va (1 : Int32) (1 : Int32) (0 : Int32) (0 : Int32) ([rs0, rs1, rs2, rs3] ++ tI) ([cs0, cs1, cs2, cs3] ++ tI) ([ks0, ks1, ks2, ks3] ++ tD) ([ls0, ls1, ls2, ls3] ++ tI) ([fs0, fs1, fs2, fs3] ++ tD) ([vs0, vs1, vs2, vs3] ++ tD) := H.put_columns a0 hw W25
  refine Go.aloadN 18 d9_17 rfl rfl rfl ?_
  refine Go.aloadN 19 d9_18 rfl rfl rfl ?_
  refine Go.getf 22 (hw _ (List.mem_of_getElem? (i := 20) rfl)) H25.1.2.2.2.2.2.1 d9_19 rfl ?_
  refine Go.aloadN 23 d9_22 rfl rfl rfl ?_
  refine Go.getf 26 (hw _ (List.mem_of_getElem? (i := 44) rfl)) H25.1.2.2.2.2.2.2.2.2.2.1 d9_23 rfl ?_
  refine Go.iconst 27 (1 : Int32) d9_26 rfl (by decide) ?_
  refine Go.iadd 28 (1 : Int32) d9_27 rfl (by decide) ?_
  refine Go.callS 31 [(.ref fa), (.int (1 : Int32))] [(.ref a)] (hw _ (List.mem_of_getElem? (i := 41) rfl)) (hw _ (List.mem_of_getElem? (i := 42) rfl)) (hw _ (List.mem_of_getElem? (i := 43) rfl)) (hw _ (List.mem_of_getElem? (i := 3) rfl)) (by decide) pn_1 pd_4 rfl (ef_6_AI fa (1 : Int32)) (ensureD_go l Z H25.2.2.2.2.2.1 (len4 hTD) (by decide)) rfl rfl (by decide) (leB rfl) (by decide) (by decide) d9_28 rfl ?_
  rintro _ _ ⟨rfl, rfl⟩
  refine Go.putF 34 (hw _ (List.mem_of_getElem? (i := 20) rfl)) H25.1.2.2.2.2.2.1 H25.1.1 (Or.inl (hw _ (List.mem_of_getElem? (i := 21) rfl))) (hw _ (List.mem_of_getElem? (i := 2) rfl)) (ty := (.array .double)) (by decide) rfl rfl (by have := H25.2.2.2.2.2.2.2; omega) d9_31 rfl ?_
  intro h26 W26
  have H26 : BS Z n0 h26 a ra ca ka la fa va (1 : Int32) (1 : Int32) (0 : Int32) (0 : Int32) ([rs0, rs1, rs2, rs3] ++ tI) ([cs0, cs1, cs2, cs3] ++ tI) ([ks0, ks1, ks2, ks3] ++ tD) ([ls0, ls1, ls2, ls3] ++ tI) ([fs0, fs1, fs2, fs3] ++ tD) ([vs0, vs1, vs2, vs3] ++ tD) := H25.put_coefficients a0 hw W26
  refine Go.aloadN 35 d9_34 rfl rfl rfl ?_
  refine Go.getf 38 (hw _ (List.mem_of_getElem? (i := 18) rfl)) H26.1.2.2.2.2.1 d9_35 rfl ?_
  refine Go.aloadN 39 d9_38 rfl rfl rfl ?_
  refine Go.getf 42 (hw _ (List.mem_of_getElem? (i := 44) rfl)) H26.1.2.2.2.2.2.2.2.2.2.1 d9_39 rfl ?_
  refine Go.iloadN 43 d9_42 rfl rfl ?_
  refine Go.iastore 44 H26.2.2.2.2.1 (i := 0) (by decide) (in4 (by decide)) (by have := H26.2.2.2.2.2.2.2; omega) d9_43 rfl ?_
  intro h27 K27 A27
  have H27 : BS Z n0 h27 a ra ca ka la fa va (1 : Int32) (1 : Int32) (0 : Int32) (0 : Int32) ([rs0, rs1, rs2, rs3] ++ tI) ([cs0, cs1, cs2, cs3] ++ tI) ([ks0, ks1, ks2, ks3] ++ tD) ([i, ls1, ls2, ls3] ++ tI) ([fs0, fs1, fs2, fs3] ++ tD) ([vs0, vs1, vs2, vs3] ++ tD) := H26.set_columns K27 A27
  refine Go.aloadN 45 d9_44 rfl rfl rfl ?_
  refine Go.getf 48 (hw _ (List.mem_of_getElem? (i := 20) rfl)) H27.1.2.2.2.2.2.1 d9_45 rfl ?_
  refine Go.aloadN 49 d9_48 rfl rfl rfl ?_
  refine Go.getf 52 (hw _ (List.mem_of_getElem? (i := 44) rfl)) H27.1.2.2.2.2.2.2.2.2.2.1 d9_49 rfl ?_
  refine Go.dloadN 53 d9_52 rfl rfl ?_
  refine Go.dastore 54 H27.2.2.2.2.2.1 (i := 0) (by decide) (in4 (by decide)) (by have := H27.2.2.2.2.2.2.2; omega) d9_53 rfl ?_
  intro h28 K28 A28
  have H28 : BS Z n0 h28 a ra ca ka la fa va (1 : Int32) (1 : Int32) (0 : Int32) (0 : Int32) ([rs0, rs1, rs2, rs3] ++ tI) ([cs0, cs1, cs2, cs3] ++ tI) ([ks0, ks1, ks2, ks3] ++ tD) ([i, ls1, ls2, ls3] ++ tI) ([x, fs1, fs2, fs3] ++ tD) ([vs0, vs1, vs2, vs3] ++ tD) := H27.set_coefficients K28 A28
  refine Go.aloadN 55 d9_54 rfl rfl rfl ?_
  refine Go.dup 56 d9_55 rfl rfl ?_
  refine Go.getf 59 (hw _ (List.mem_of_getElem? (i := 44) rfl)) H28.1.2.2.2.2.2.2.2.2.2.1 d9_56 rfl ?_
  refine Go.iconst 60 (1 : Int32) d9_59 rfl (by decide) ?_
  refine Go.iadd 61 (1 : Int32) d9_60 rfl (by decide) ?_
  refine Go.putF 64 (hw _ (List.mem_of_getElem? (i := 44) rfl)) H28.1.2.2.2.2.2.2.2.2.2.1 H28.1.1 (Or.inl (hw _ (List.mem_of_getElem? (i := 45) rfl))) (hw _ (List.mem_of_getElem? (i := 2) rfl)) (ty := .int) (by decide) rfl rfl (by have := H28.2.2.2.2.2.2.2; omega) d9_61 rfl ?_
  intro h29 W29
  have H29 : BS Z n0 h29 a ra ca ka la fa va (1 : Int32) (1 : Int32) (1 : Int32) (0 : Int32) ([rs0, rs1, rs2, rs3] ++ tI) ([cs0, cs1, cs2, cs3] ++ tI) ([ks0, ks1, ks2, ks3] ++ tD) ([i, ls1, ls2, ls3] ++ tI) ([x, fs1, fs2, fs3] ++ tD) ([vs0, vs1, vs2, vs3] ++ tD) := H28.put_terms a0 hw W29
  refine Go.aloadN 65 d9_64 rfl rfl rfl ?_
  refine Go.getf 68 (hw _ (List.mem_of_getElem? (i := 13) rfl)) H29.1.2.2.1 d9_65 rfl ?_
  refine Go.aloadN 69 d9_68 rfl rfl rfl ?_
  refine Go.getf 72 (hw _ (List.mem_of_getElem? (i := 34) rfl)) H29.1.2.2.2.2.2.2.2.2.1 d9_69 rfl ?_
  refine Go.aloadN 73 d9_72 rfl rfl rfl ?_
  refine Go.getf 76 (hw _ (List.mem_of_getElem? (i := 44) rfl)) H29.1.2.2.2.2.2.2.2.2.2.1 d9_73 rfl ?_
  refine Go.iastore 77 H29.2.2.1 (i := 1) (by decide) (in4 (by decide)) (by have := H29.2.2.2.2.2.2.2; omega) d9_76 rfl ?_
  intro h30 K30 A30
  have H30 : BS Z n0 h30 a ra ca ka la fa va (1 : Int32) (1 : Int32) (1 : Int32) (0 : Int32) ([rs0, rs1, rs2, rs3] ++ tI) ([cs0, (1 : Int32), cs2, cs3] ++ tI) ([ks0, ks1, ks2, ks3] ++ tD) ([i, ls1, ls2, ls3] ++ tI) ([x, fs1, fs2, fs3] ++ tD) ([vs0, vs1, vs2, vs3] ++ tD) := H29.set_choiceStart K30 A30
  exact Go.ret d9_77 rfl (by decide) (by decide) ⟨rfl, H30⟩
set_option maxRecDepth 65536 in
set_option maxHeartbeats 40000000 in
theorem addTerm_1 (l : Launch) (Z : State) (a0 : Array Value) (hw : ∀ d ∈ tables_1, d.before a0 Z = true) {n0 : Nat} {h : Heap} {a ra ca ka la fa va : Nat} {tI : List Int32} {tD : List UInt64} (hTI : tI.length = 1020) (hTD : tD.length = 1020) {rs0 rs1 rs2 rs3 : Int32} {cs0 cs1 cs2 cs3 : Int32} {ks0 ks1 ks2 ks3 : UInt64} {ls0 ls1 ls2 ls3 : Int32} {fs0 fs1 fs2 fs3 : UInt64} {vs0 vs1 vs2 vs3 : UInt64} {i : Int32} {x : UInt64} (H : BS Z n0 h a ra ca ka la fa va (1 : Int32) (1 : Int32) (1 : Int32) (0 : Int32) ([rs0, rs1, rs2, rs3] ++ tI) ([cs0, cs1, cs2, cs3] ++ tI) ([ks0, ks1, ks2, ks3] ++ tD) ([ls0, ls1, ls2, ls3] ++ tI) ([fs0, fs1, fs2, fs3] ++ tD) ([vs0, vs1, vs2, vs3] ++ tD)) :
    Go l Z ({ frames := 1, cells := 0, slots := 0, locals := 20 } : Room) ((⟨"com/example/orbifold/orbifold/solvers/BellmanSystem", "addTerm", "(ID)V"⟩ : MethodName), prog_167_method_6_code, 4, none) n0 (fun v h' => v = none ∧ BS Z n0 h' a ra ca ka la fa va (1 : Int32) (1 : Int32) (2 : Int32) (0 : Int32) ([rs0, rs1, rs2, rs3] ++ tI) ([cs0, (2 : Int32), cs2, cs3] ++ tI) ([ks0, ks1, ks2, ks3] ++ tD) ([ls0, i, ls2, ls3] ++ tI) ([fs0, x, fs2, fs3] ++ tD) ([vs0, vs1, vs2, vs3] ++ tD)) h 0 0 0 #[.val (.ref a), .val (.int i), .val (.double x), .second] [] := by
  refine Go.aloadN 1 d9_0 rfl rfl rfl ?_
  refine Go.aloadN 2 d9_1 rfl rfl rfl ?_
  refine Go.getf 5 (hw _ (List.mem_of_getElem? (i := 18) rfl)) H.1.2.2.2.2.1 d9_2 rfl ?_
  refine Go.aloadN 6 d9_5 rfl rfl rfl ?_
  refine Go.getf 9 (hw _ (List.mem_of_getElem? (i := 44) rfl)) H.1.2.2.2.2.2.2.2.2.2.1 d9_6 rfl ?_
  refine Go.iconst 10 (1 : Int32) d9_9 rfl (by decide) ?_
  refine Go.iadd 11 (2 : Int32) d9_10 rfl (by decide) ?_
  refine Go.callS 14 [(.ref la), (.int (2 : Int32))] [(.ref a)] (hw _ (List.mem_of_getElem? (i := 31) rfl)) (hw _ (List.mem_of_getElem? (i := 32) rfl)) (hw _ (List.mem_of_getElem? (i := 33) rfl)) (hw _ (List.mem_of_getElem? (i := 3) rfl)) (by decide) pn_1 pd_2 rfl (ef_4_AI la (2 : Int32)) (ensureI_go l Z H.2.2.2.2.1 (len4 hTI) (by decide)) rfl rfl (by decide) (leB rfl) (by decide) (by decide) d9_11 rfl ?_
  rintro _ _ ⟨rfl, rfl⟩
  refine Go.putF 17 (hw _ (List.mem_of_getElem? (i := 18) rfl)) H.1.2.2.2.2.1 H.1.1 (Or.inl (hw _ (List.mem_of_getElem? (i := 19) rfl))) (hw _ (List.mem_of_getElem? (i := 2) rfl)) (ty := (.array .int)) (by decide) rfl rfl (by have := H.2.2.2.2.2.2.2; omega) d9_14 rfl ?_
  intro h31 W31
  have H31 : BS Z n0 h31 a ra ca ka la fa va (1 : Int32) (1 : Int32) (1 : Int32) (0 : Int32) ([rs0, rs1, rs2, rs3] ++ tI) ([cs0, cs1, cs2, cs3] ++ tI) ([ks0, ks1, ks2, ks3] ++ tD) ([ls0, ls1, ls2, ls3] ++ tI) ([fs0, fs1, fs2, fs3] ++ tD) ([vs0, vs1, vs2, vs3] ++ tD) := H.put_columns a0 hw W31
  refine Go.aloadN 18 d9_17 rfl rfl rfl ?_
  refine Go.aloadN 19 d9_18 rfl rfl rfl ?_
  refine Go.getf 22 (hw _ (List.mem_of_getElem? (i := 20) rfl)) H31.1.2.2.2.2.2.1 d9_19 rfl ?_
  refine Go.aloadN 23 d9_22 rfl rfl rfl ?_
  refine Go.getf 26 (hw _ (List.mem_of_getElem? (i := 44) rfl)) H31.1.2.2.2.2.2.2.2.2.2.1 d9_23 rfl ?_
  refine Go.iconst 27 (1 : Int32) d9_26 rfl (by decide) ?_
  refine Go.iadd 28 (2 : Int32) d9_27 rfl (by decide) ?_
  refine Go.callS 31 [(.ref fa), (.int (2 : Int32))] [(.ref a)] (hw _ (List.mem_of_getElem? (i := 41) rfl)) (hw _ (List.mem_of_getElem? (i := 42) rfl)) (hw _ (List.mem_of_getElem? (i := 43) rfl)) (hw _ (List.mem_of_getElem? (i := 3) rfl)) (by decide) pn_1 pd_4 rfl (ef_6_AI fa (2 : Int32)) (ensureD_go l Z H31.2.2.2.2.2.1 (len4 hTD) (by decide)) rfl rfl (by decide) (leB rfl) (by decide) (by decide) d9_28 rfl ?_
  rintro _ _ ⟨rfl, rfl⟩
  refine Go.putF 34 (hw _ (List.mem_of_getElem? (i := 20) rfl)) H31.1.2.2.2.2.2.1 H31.1.1 (Or.inl (hw _ (List.mem_of_getElem? (i := 21) rfl))) (hw _ (List.mem_of_getElem? (i := 2) rfl)) (ty := (.array .double)) (by decide) rfl rfl (by have := H31.2.2.2.2.2.2.2; omega) d9_31 rfl ?_
  intro h32 W32
  have H32 : BS Z n0 h32 a ra ca ka la fa va (1 : Int32) (1 : Int32) (1 : Int32) (0 : Int32) ([rs0, rs1, rs2, rs3] ++ tI) ([cs0, cs1, cs2, cs3] ++ tI) ([ks0, ks1, ks2, ks3] ++ tD) ([ls0, ls1, ls2, ls3] ++ tI) ([fs0, fs1, fs2, fs3] ++ tD) ([vs0, vs1, vs2, vs3] ++ tD) := H31.put_coefficients a0 hw W32
  refine Go.aloadN 35 d9_34 rfl rfl rfl ?_
  refine Go.getf 38 (hw _ (List.mem_of_getElem? (i := 18) rfl)) H32.1.2.2.2.2.1 d9_35 rfl ?_
  refine Go.aloadN 39 d9_38 rfl rfl rfl ?_
  refine Go.getf 42 (hw _ (List.mem_of_getElem? (i := 44) rfl)) H32.1.2.2.2.2.2.2.2.2.2.1 d9_39 rfl ?_
  refine Go.iloadN 43 d9_42 rfl rfl ?_
  refine Go.iastore 44 H32.2.2.2.2.1 (i := 1) (by decide) (in4 (by decide)) (by have := H32.2.2.2.2.2.2.2; omega) d9_43 rfl ?_
  intro h33 K33 A33
  have H33 : BS Z n0 h33 a ra ca ka la fa va (1 : Int32) (1 : Int32) (1 : Int32) (0 : Int32) ([rs0, rs1, rs2, rs3] ++ tI) ([cs0, cs1, cs2, cs3] ++ tI) ([ks0, ks1, ks2, ks3] ++ tD) ([ls0, i, ls2, ls3] ++ tI) ([fs0, fs1, fs2, fs3] ++ tD) ([vs0, vs1, vs2, vs3] ++ tD) := H32.set_columns K33 A33
  refine Go.aloadN 45 d9_44 rfl rfl rfl ?_
  refine Go.getf 48 (hw _ (List.mem_of_getElem? (i := 20) rfl)) H33.1.2.2.2.2.2.1 d9_45 rfl ?_
  refine Go.aloadN 49 d9_48 rfl rfl rfl ?_
  refine Go.getf 52 (hw _ (List.mem_of_getElem? (i := 44) rfl)) H33.1.2.2.2.2.2.2.2.2.2.1 d9_49 rfl ?_
  refine Go.dloadN 53 d9_52 rfl rfl ?_
  refine Go.dastore 54 H33.2.2.2.2.2.1 (i := 1) (by decide) (in4 (by decide)) (by have := H33.2.2.2.2.2.2.2; omega) d9_53 rfl ?_
  intro h34 K34 A34
  have H34 : BS Z n0 h34 a ra ca ka la fa va (1 : Int32) (1 : Int32) (1 : Int32) (0 : Int32) ([rs0, rs1, rs2, rs3] ++ tI) ([cs0, cs1, cs2, cs3] ++ tI) ([ks0, ks1, ks2, ks3] ++ tD) ([ls0, i, ls2, ls3] ++ tI) ([fs0, x, fs2, fs3] ++ tD) ([vs0, vs1, vs2, vs3] ++ tD) := H33.set_coefficients K34 A34
  refine Go.aloadN 55 d9_54 rfl rfl rfl ?_
  refine Go.dup 56 d9_55 rfl rfl ?_
  refine Go.getf 59 (hw _ (List.mem_of_getElem? (i := 44) rfl)) H34.1.2.2.2.2.2.2.2.2.2.1 d9_56 rfl ?_
  refine Go.iconst 60 (1 : Int32) d9_59 rfl (by decide) ?_
  refine Go.iadd 61 (2 : Int32) d9_60 rfl (by decide) ?_
  refine Go.putF 64 (hw _ (List.mem_of_getElem? (i := 44) rfl)) H34.1.2.2.2.2.2.2.2.2.2.1 H34.1.1 (Or.inl (hw _ (List.mem_of_getElem? (i := 45) rfl))) (hw _ (List.mem_of_getElem? (i := 2) rfl)) (ty := .int) (by decide) rfl rfl (by have := H34.2.2.2.2.2.2.2; omega) d9_61 rfl ?_
  intro h35 W35
  have H35 : BS Z n0 h35 a ra ca ka la fa va (1 : Int32) (1 : Int32) (2 : Int32) (0 : Int32) ([rs0, rs1, rs2, rs3] ++ tI) ([cs0, cs1, cs2, cs3] ++ tI) ([ks0, ks1, ks2, ks3] ++ tD) ([ls0, i, ls2, ls3] ++ tI) ([fs0, x, fs2, fs3] ++ tD) ([vs0, vs1, vs2, vs3] ++ tD) := H34.put_terms a0 hw W35
  refine Go.aloadN 65 d9_64 rfl rfl rfl ?_
  refine Go.getf 68 (hw _ (List.mem_of_getElem? (i := 13) rfl)) H35.1.2.2.1 d9_65 rfl ?_
  refine Go.aloadN 69 d9_68 rfl rfl rfl ?_
  refine Go.getf 72 (hw _ (List.mem_of_getElem? (i := 34) rfl)) H35.1.2.2.2.2.2.2.2.2.1 d9_69 rfl ?_
  refine Go.aloadN 73 d9_72 rfl rfl rfl ?_
  refine Go.getf 76 (hw _ (List.mem_of_getElem? (i := 44) rfl)) H35.1.2.2.2.2.2.2.2.2.2.1 d9_73 rfl ?_
  refine Go.iastore 77 H35.2.2.1 (i := 1) (by decide) (in4 (by decide)) (by have := H35.2.2.2.2.2.2.2; omega) d9_76 rfl ?_
  intro h36 K36 A36
  have H36 : BS Z n0 h36 a ra ca ka la fa va (1 : Int32) (1 : Int32) (2 : Int32) (0 : Int32) ([rs0, rs1, rs2, rs3] ++ tI) ([cs0, (2 : Int32), cs2, cs3] ++ tI) ([ks0, ks1, ks2, ks3] ++ tD) ([ls0, i, ls2, ls3] ++ tI) ([fs0, x, fs2, fs3] ++ tD) ([vs0, vs1, vs2, vs3] ++ tD) := H35.set_choiceStart K36 A36
  exact Go.ret d9_77 rfl (by decide) (by decide) ⟨rfl, H36⟩
set_option maxRecDepth 65536 in
set_option maxHeartbeats 40000000 in
theorem addTerm_2 (l : Launch) (Z : State) (a0 : Array Value) (hw : ∀ d ∈ tables_1, d.before a0 Z = true) {n0 : Nat} {h : Heap} {a ra ca ka la fa va : Nat} {tI : List Int32} {tD : List UInt64} (hTI : tI.length = 1020) (hTD : tD.length = 1020) {rs0 rs1 rs2 rs3 : Int32} {cs0 cs1 cs2 cs3 : Int32} {ks0 ks1 ks2 ks3 : UInt64} {ls0 ls1 ls2 ls3 : Int32} {fs0 fs1 fs2 fs3 : UInt64} {vs0 vs1 vs2 vs3 : UInt64} {i : Int32} {x : UInt64} (H : BS Z n0 h a ra ca ka la fa va (2 : Int32) (2 : Int32) (2 : Int32) (0 : Int32) ([rs0, rs1, rs2, rs3] ++ tI) ([cs0, cs1, cs2, cs3] ++ tI) ([ks0, ks1, ks2, ks3] ++ tD) ([ls0, ls1, ls2, ls3] ++ tI) ([fs0, fs1, fs2, fs3] ++ tD) ([vs0, vs1, vs2, vs3] ++ tD)) :
    Go l Z ({ frames := 1, cells := 0, slots := 0, locals := 20 } : Room) ((⟨"com/example/orbifold/orbifold/solvers/BellmanSystem", "addTerm", "(ID)V"⟩ : MethodName), prog_167_method_6_code, 4, none) n0 (fun v h' => v = none ∧ BS Z n0 h' a ra ca ka la fa va (2 : Int32) (2 : Int32) (3 : Int32) (0 : Int32) ([rs0, rs1, rs2, rs3] ++ tI) ([cs0, cs1, (3 : Int32), cs3] ++ tI) ([ks0, ks1, ks2, ks3] ++ tD) ([ls0, ls1, i, ls3] ++ tI) ([fs0, fs1, x, fs3] ++ tD) ([vs0, vs1, vs2, vs3] ++ tD)) h 0 0 0 #[.val (.ref a), .val (.int i), .val (.double x), .second] [] := by
  refine Go.aloadN 1 d9_0 rfl rfl rfl ?_
  refine Go.aloadN 2 d9_1 rfl rfl rfl ?_
  refine Go.getf 5 (hw _ (List.mem_of_getElem? (i := 18) rfl)) H.1.2.2.2.2.1 d9_2 rfl ?_
  refine Go.aloadN 6 d9_5 rfl rfl rfl ?_
  refine Go.getf 9 (hw _ (List.mem_of_getElem? (i := 44) rfl)) H.1.2.2.2.2.2.2.2.2.2.1 d9_6 rfl ?_
  refine Go.iconst 10 (1 : Int32) d9_9 rfl (by decide) ?_
  refine Go.iadd 11 (3 : Int32) d9_10 rfl (by decide) ?_
  refine Go.callS 14 [(.ref la), (.int (3 : Int32))] [(.ref a)] (hw _ (List.mem_of_getElem? (i := 31) rfl)) (hw _ (List.mem_of_getElem? (i := 32) rfl)) (hw _ (List.mem_of_getElem? (i := 33) rfl)) (hw _ (List.mem_of_getElem? (i := 3) rfl)) (by decide) pn_1 pd_2 rfl (ef_4_AI la (3 : Int32)) (ensureI_go l Z H.2.2.2.2.1 (len4 hTI) (by decide)) rfl rfl (by decide) (leB rfl) (by decide) (by decide) d9_11 rfl ?_
  rintro _ _ ⟨rfl, rfl⟩
  refine Go.putF 17 (hw _ (List.mem_of_getElem? (i := 18) rfl)) H.1.2.2.2.2.1 H.1.1 (Or.inl (hw _ (List.mem_of_getElem? (i := 19) rfl))) (hw _ (List.mem_of_getElem? (i := 2) rfl)) (ty := (.array .int)) (by decide) rfl rfl (by have := H.2.2.2.2.2.2.2; omega) d9_14 rfl ?_
  intro h37 W37
  have H37 : BS Z n0 h37 a ra ca ka la fa va (2 : Int32) (2 : Int32) (2 : Int32) (0 : Int32) ([rs0, rs1, rs2, rs3] ++ tI) ([cs0, cs1, cs2, cs3] ++ tI) ([ks0, ks1, ks2, ks3] ++ tD) ([ls0, ls1, ls2, ls3] ++ tI) ([fs0, fs1, fs2, fs3] ++ tD) ([vs0, vs1, vs2, vs3] ++ tD) := H.put_columns a0 hw W37
  refine Go.aloadN 18 d9_17 rfl rfl rfl ?_
  refine Go.aloadN 19 d9_18 rfl rfl rfl ?_
  refine Go.getf 22 (hw _ (List.mem_of_getElem? (i := 20) rfl)) H37.1.2.2.2.2.2.1 d9_19 rfl ?_
  refine Go.aloadN 23 d9_22 rfl rfl rfl ?_
  refine Go.getf 26 (hw _ (List.mem_of_getElem? (i := 44) rfl)) H37.1.2.2.2.2.2.2.2.2.2.1 d9_23 rfl ?_
  refine Go.iconst 27 (1 : Int32) d9_26 rfl (by decide) ?_
  refine Go.iadd 28 (3 : Int32) d9_27 rfl (by decide) ?_
  refine Go.callS 31 [(.ref fa), (.int (3 : Int32))] [(.ref a)] (hw _ (List.mem_of_getElem? (i := 41) rfl)) (hw _ (List.mem_of_getElem? (i := 42) rfl)) (hw _ (List.mem_of_getElem? (i := 43) rfl)) (hw _ (List.mem_of_getElem? (i := 3) rfl)) (by decide) pn_1 pd_4 rfl (ef_6_AI fa (3 : Int32)) (ensureD_go l Z H37.2.2.2.2.2.1 (len4 hTD) (by decide)) rfl rfl (by decide) (leB rfl) (by decide) (by decide) d9_28 rfl ?_
  rintro _ _ ⟨rfl, rfl⟩
  refine Go.putF 34 (hw _ (List.mem_of_getElem? (i := 20) rfl)) H37.1.2.2.2.2.2.1 H37.1.1 (Or.inl (hw _ (List.mem_of_getElem? (i := 21) rfl))) (hw _ (List.mem_of_getElem? (i := 2) rfl)) (ty := (.array .double)) (by decide) rfl rfl (by have := H37.2.2.2.2.2.2.2; omega) d9_31 rfl ?_
  intro h38 W38
  have H38 : BS Z n0 h38 a ra ca ka la fa va (2 : Int32) (2 : Int32) (2 : Int32) (0 : Int32) ([rs0, rs1, rs2, rs3] ++ tI) ([cs0, cs1, cs2, cs3] ++ tI) ([ks0, ks1, ks2, ks3] ++ tD) ([ls0, ls1, ls2, ls3] ++ tI) ([fs0, fs1, fs2, fs3] ++ tD) ([vs0, vs1, vs2, vs3] ++ tD) := H37.put_coefficients a0 hw W38
  refine Go.aloadN 35 d9_34 rfl rfl rfl ?_
  refine Go.getf 38 (hw _ (List.mem_of_getElem? (i := 18) rfl)) H38.1.2.2.2.2.1 d9_35 rfl ?_
  refine Go.aloadN 39 d9_38 rfl rfl rfl ?_
  refine Go.getf 42 (hw _ (List.mem_of_getElem? (i := 44) rfl)) H38.1.2.2.2.2.2.2.2.2.2.1 d9_39 rfl ?_
  refine Go.iloadN 43 d9_42 rfl rfl ?_
  refine Go.iastore 44 H38.2.2.2.2.1 (i := 2) (by decide) (in4 (by decide)) (by have := H38.2.2.2.2.2.2.2; omega) d9_43 rfl ?_
  intro h39 K39 A39
  have H39 : BS Z n0 h39 a ra ca ka la fa va (2 : Int32) (2 : Int32) (2 : Int32) (0 : Int32) ([rs0, rs1, rs2, rs3] ++ tI) ([cs0, cs1, cs2, cs3] ++ tI) ([ks0, ks1, ks2, ks3] ++ tD) ([ls0, ls1, i, ls3] ++ tI) ([fs0, fs1, fs2, fs3] ++ tD) ([vs0, vs1, vs2, vs3] ++ tD) := H38.set_columns K39 A39
  refine Go.aloadN 45 d9_44 rfl rfl rfl ?_
  refine Go.getf 48 (hw _ (List.mem_of_getElem? (i := 20) rfl)) H39.1.2.2.2.2.2.1 d9_45 rfl ?_
  refine Go.aloadN 49 d9_48 rfl rfl rfl ?_
  refine Go.getf 52 (hw _ (List.mem_of_getElem? (i := 44) rfl)) H39.1.2.2.2.2.2.2.2.2.2.1 d9_49 rfl ?_
  refine Go.dloadN 53 d9_52 rfl rfl ?_
  refine Go.dastore 54 H39.2.2.2.2.2.1 (i := 2) (by decide) (in4 (by decide)) (by have := H39.2.2.2.2.2.2.2; omega) d9_53 rfl ?_
  intro h40 K40 A40
  have H40 : BS Z n0 h40 a ra ca ka la fa va (2 : Int32) (2 : Int32) (2 : Int32) (0 : Int32) ([rs0, rs1, rs2, rs3] ++ tI) ([cs0, cs1, cs2, cs3] ++ tI) ([ks0, ks1, ks2, ks3] ++ tD) ([ls0, ls1, i, ls3] ++ tI) ([fs0, fs1, x, fs3] ++ tD) ([vs0, vs1, vs2, vs3] ++ tD) := H39.set_coefficients K40 A40
  refine Go.aloadN 55 d9_54 rfl rfl rfl ?_
  refine Go.dup 56 d9_55 rfl rfl ?_
  refine Go.getf 59 (hw _ (List.mem_of_getElem? (i := 44) rfl)) H40.1.2.2.2.2.2.2.2.2.2.1 d9_56 rfl ?_
  refine Go.iconst 60 (1 : Int32) d9_59 rfl (by decide) ?_
  refine Go.iadd 61 (3 : Int32) d9_60 rfl (by decide) ?_
  refine Go.putF 64 (hw _ (List.mem_of_getElem? (i := 44) rfl)) H40.1.2.2.2.2.2.2.2.2.2.1 H40.1.1 (Or.inl (hw _ (List.mem_of_getElem? (i := 45) rfl))) (hw _ (List.mem_of_getElem? (i := 2) rfl)) (ty := .int) (by decide) rfl rfl (by have := H40.2.2.2.2.2.2.2; omega) d9_61 rfl ?_
  intro h41 W41
  have H41 : BS Z n0 h41 a ra ca ka la fa va (2 : Int32) (2 : Int32) (3 : Int32) (0 : Int32) ([rs0, rs1, rs2, rs3] ++ tI) ([cs0, cs1, cs2, cs3] ++ tI) ([ks0, ks1, ks2, ks3] ++ tD) ([ls0, ls1, i, ls3] ++ tI) ([fs0, fs1, x, fs3] ++ tD) ([vs0, vs1, vs2, vs3] ++ tD) := H40.put_terms a0 hw W41
  refine Go.aloadN 65 d9_64 rfl rfl rfl ?_
  refine Go.getf 68 (hw _ (List.mem_of_getElem? (i := 13) rfl)) H41.1.2.2.1 d9_65 rfl ?_
  refine Go.aloadN 69 d9_68 rfl rfl rfl ?_
  refine Go.getf 72 (hw _ (List.mem_of_getElem? (i := 34) rfl)) H41.1.2.2.2.2.2.2.2.2.1 d9_69 rfl ?_
  refine Go.aloadN 73 d9_72 rfl rfl rfl ?_
  refine Go.getf 76 (hw _ (List.mem_of_getElem? (i := 44) rfl)) H41.1.2.2.2.2.2.2.2.2.2.1 d9_73 rfl ?_
  refine Go.iastore 77 H41.2.2.1 (i := 2) (by decide) (in4 (by decide)) (by have := H41.2.2.2.2.2.2.2; omega) d9_76 rfl ?_
  intro h42 K42 A42
  have H42 : BS Z n0 h42 a ra ca ka la fa va (2 : Int32) (2 : Int32) (3 : Int32) (0 : Int32) ([rs0, rs1, rs2, rs3] ++ tI) ([cs0, cs1, (3 : Int32), cs3] ++ tI) ([ks0, ks1, ks2, ks3] ++ tD) ([ls0, ls1, i, ls3] ++ tI) ([fs0, fs1, x, fs3] ++ tD) ([vs0, vs1, vs2, vs3] ++ tD) := H41.set_choiceStart K42 A42
  exact Go.ret d9_77 rfl (by decide) (by decide) ⟨rfl, H42⟩
set_option maxRecDepth 65536 in
set_option maxHeartbeats 40000000 in
theorem addTerm_3 (l : Launch) (Z : State) (a0 : Array Value) (hw : ∀ d ∈ tables_1, d.before a0 Z = true) {n0 : Nat} {h : Heap} {a ra ca ka la fa va : Nat} {tI : List Int32} {tD : List UInt64} (hTI : tI.length = 1020) (hTD : tD.length = 1020) {rs0 rs1 rs2 rs3 : Int32} {cs0 cs1 cs2 cs3 : Int32} {ks0 ks1 ks2 ks3 : UInt64} {ls0 ls1 ls2 ls3 : Int32} {fs0 fs1 fs2 fs3 : UInt64} {vs0 vs1 vs2 vs3 : UInt64} {i : Int32} {x : UInt64} (H : BS Z n0 h a ra ca ka la fa va (2 : Int32) (2 : Int32) (3 : Int32) (0 : Int32) ([rs0, rs1, rs2, rs3] ++ tI) ([cs0, cs1, cs2, cs3] ++ tI) ([ks0, ks1, ks2, ks3] ++ tD) ([ls0, ls1, ls2, ls3] ++ tI) ([fs0, fs1, fs2, fs3] ++ tD) ([vs0, vs1, vs2, vs3] ++ tD)) :
    Go l Z ({ frames := 1, cells := 0, slots := 0, locals := 20 } : Room) ((⟨"com/example/orbifold/orbifold/solvers/BellmanSystem", "addTerm", "(ID)V"⟩ : MethodName), prog_167_method_6_code, 4, none) n0 (fun v h' => v = none ∧ BS Z n0 h' a ra ca ka la fa va (2 : Int32) (2 : Int32) (4 : Int32) (0 : Int32) ([rs0, rs1, rs2, rs3] ++ tI) ([cs0, cs1, (4 : Int32), cs3] ++ tI) ([ks0, ks1, ks2, ks3] ++ tD) ([ls0, ls1, ls2, i] ++ tI) ([fs0, fs1, fs2, x] ++ tD) ([vs0, vs1, vs2, vs3] ++ tD)) h 0 0 0 #[.val (.ref a), .val (.int i), .val (.double x), .second] [] := by
  refine Go.aloadN 1 d9_0 rfl rfl rfl ?_
  refine Go.aloadN 2 d9_1 rfl rfl rfl ?_
  refine Go.getf 5 (hw _ (List.mem_of_getElem? (i := 18) rfl)) H.1.2.2.2.2.1 d9_2 rfl ?_
  refine Go.aloadN 6 d9_5 rfl rfl rfl ?_
  refine Go.getf 9 (hw _ (List.mem_of_getElem? (i := 44) rfl)) H.1.2.2.2.2.2.2.2.2.2.1 d9_6 rfl ?_
  refine Go.iconst 10 (1 : Int32) d9_9 rfl (by decide) ?_
  refine Go.iadd 11 (4 : Int32) d9_10 rfl (by decide) ?_
  refine Go.callS 14 [(.ref la), (.int (4 : Int32))] [(.ref a)] (hw _ (List.mem_of_getElem? (i := 31) rfl)) (hw _ (List.mem_of_getElem? (i := 32) rfl)) (hw _ (List.mem_of_getElem? (i := 33) rfl)) (hw _ (List.mem_of_getElem? (i := 3) rfl)) (by decide) pn_1 pd_2 rfl (ef_4_AI la (4 : Int32)) (ensureI_go l Z H.2.2.2.2.1 (len4 hTI) (by decide)) rfl rfl (by decide) (leB rfl) (by decide) (by decide) d9_11 rfl ?_
  rintro _ _ ⟨rfl, rfl⟩
  refine Go.putF 17 (hw _ (List.mem_of_getElem? (i := 18) rfl)) H.1.2.2.2.2.1 H.1.1 (Or.inl (hw _ (List.mem_of_getElem? (i := 19) rfl))) (hw _ (List.mem_of_getElem? (i := 2) rfl)) (ty := (.array .int)) (by decide) rfl rfl (by have := H.2.2.2.2.2.2.2; omega) d9_14 rfl ?_
  intro h43 W43
  have H43 : BS Z n0 h43 a ra ca ka la fa va (2 : Int32) (2 : Int32) (3 : Int32) (0 : Int32) ([rs0, rs1, rs2, rs3] ++ tI) ([cs0, cs1, cs2, cs3] ++ tI) ([ks0, ks1, ks2, ks3] ++ tD) ([ls0, ls1, ls2, ls3] ++ tI) ([fs0, fs1, fs2, fs3] ++ tD) ([vs0, vs1, vs2, vs3] ++ tD) := H.put_columns a0 hw W43
  refine Go.aloadN 18 d9_17 rfl rfl rfl ?_
  refine Go.aloadN 19 d9_18 rfl rfl rfl ?_
  refine Go.getf 22 (hw _ (List.mem_of_getElem? (i := 20) rfl)) H43.1.2.2.2.2.2.1 d9_19 rfl ?_
  refine Go.aloadN 23 d9_22 rfl rfl rfl ?_
  refine Go.getf 26 (hw _ (List.mem_of_getElem? (i := 44) rfl)) H43.1.2.2.2.2.2.2.2.2.2.1 d9_23 rfl ?_
  refine Go.iconst 27 (1 : Int32) d9_26 rfl (by decide) ?_
  refine Go.iadd 28 (4 : Int32) d9_27 rfl (by decide) ?_
  refine Go.callS 31 [(.ref fa), (.int (4 : Int32))] [(.ref a)] (hw _ (List.mem_of_getElem? (i := 41) rfl)) (hw _ (List.mem_of_getElem? (i := 42) rfl)) (hw _ (List.mem_of_getElem? (i := 43) rfl)) (hw _ (List.mem_of_getElem? (i := 3) rfl)) (by decide) pn_1 pd_4 rfl (ef_6_AI fa (4 : Int32)) (ensureD_go l Z H43.2.2.2.2.2.1 (len4 hTD) (by decide)) rfl rfl (by decide) (leB rfl) (by decide) (by decide) d9_28 rfl ?_
  rintro _ _ ⟨rfl, rfl⟩
  refine Go.putF 34 (hw _ (List.mem_of_getElem? (i := 20) rfl)) H43.1.2.2.2.2.2.1 H43.1.1 (Or.inl (hw _ (List.mem_of_getElem? (i := 21) rfl))) (hw _ (List.mem_of_getElem? (i := 2) rfl)) (ty := (.array .double)) (by decide) rfl rfl (by have := H43.2.2.2.2.2.2.2; omega) d9_31 rfl ?_
  intro h44 W44
  have H44 : BS Z n0 h44 a ra ca ka la fa va (2 : Int32) (2 : Int32) (3 : Int32) (0 : Int32) ([rs0, rs1, rs2, rs3] ++ tI) ([cs0, cs1, cs2, cs3] ++ tI) ([ks0, ks1, ks2, ks3] ++ tD) ([ls0, ls1, ls2, ls3] ++ tI) ([fs0, fs1, fs2, fs3] ++ tD) ([vs0, vs1, vs2, vs3] ++ tD) := H43.put_coefficients a0 hw W44
  refine Go.aloadN 35 d9_34 rfl rfl rfl ?_
  refine Go.getf 38 (hw _ (List.mem_of_getElem? (i := 18) rfl)) H44.1.2.2.2.2.1 d9_35 rfl ?_
  refine Go.aloadN 39 d9_38 rfl rfl rfl ?_
  refine Go.getf 42 (hw _ (List.mem_of_getElem? (i := 44) rfl)) H44.1.2.2.2.2.2.2.2.2.2.1 d9_39 rfl ?_
  refine Go.iloadN 43 d9_42 rfl rfl ?_
  refine Go.iastore 44 H44.2.2.2.2.1 (i := 3) (by decide) (in4 (by decide)) (by have := H44.2.2.2.2.2.2.2; omega) d9_43 rfl ?_
  intro h45 K45 A45
  have H45 : BS Z n0 h45 a ra ca ka la fa va (2 : Int32) (2 : Int32) (3 : Int32) (0 : Int32) ([rs0, rs1, rs2, rs3] ++ tI) ([cs0, cs1, cs2, cs3] ++ tI) ([ks0, ks1, ks2, ks3] ++ tD) ([ls0, ls1, ls2, i] ++ tI) ([fs0, fs1, fs2, fs3] ++ tD) ([vs0, vs1, vs2, vs3] ++ tD) := H44.set_columns K45 A45
  refine Go.aloadN 45 d9_44 rfl rfl rfl ?_
  refine Go.getf 48 (hw _ (List.mem_of_getElem? (i := 20) rfl)) H45.1.2.2.2.2.2.1 d9_45 rfl ?_
  refine Go.aloadN 49 d9_48 rfl rfl rfl ?_
  refine Go.getf 52 (hw _ (List.mem_of_getElem? (i := 44) rfl)) H45.1.2.2.2.2.2.2.2.2.2.1 d9_49 rfl ?_
  refine Go.dloadN 53 d9_52 rfl rfl ?_
  refine Go.dastore 54 H45.2.2.2.2.2.1 (i := 3) (by decide) (in4 (by decide)) (by have := H45.2.2.2.2.2.2.2; omega) d9_53 rfl ?_
  intro h46 K46 A46
  have H46 : BS Z n0 h46 a ra ca ka la fa va (2 : Int32) (2 : Int32) (3 : Int32) (0 : Int32) ([rs0, rs1, rs2, rs3] ++ tI) ([cs0, cs1, cs2, cs3] ++ tI) ([ks0, ks1, ks2, ks3] ++ tD) ([ls0, ls1, ls2, i] ++ tI) ([fs0, fs1, fs2, x] ++ tD) ([vs0, vs1, vs2, vs3] ++ tD) := H45.set_coefficients K46 A46
  refine Go.aloadN 55 d9_54 rfl rfl rfl ?_
  refine Go.dup 56 d9_55 rfl rfl ?_
  refine Go.getf 59 (hw _ (List.mem_of_getElem? (i := 44) rfl)) H46.1.2.2.2.2.2.2.2.2.2.1 d9_56 rfl ?_
  refine Go.iconst 60 (1 : Int32) d9_59 rfl (by decide) ?_
  refine Go.iadd 61 (4 : Int32) d9_60 rfl (by decide) ?_
  refine Go.putF 64 (hw _ (List.mem_of_getElem? (i := 44) rfl)) H46.1.2.2.2.2.2.2.2.2.2.1 H46.1.1 (Or.inl (hw _ (List.mem_of_getElem? (i := 45) rfl))) (hw _ (List.mem_of_getElem? (i := 2) rfl)) (ty := .int) (by decide) rfl rfl (by have := H46.2.2.2.2.2.2.2; omega) d9_61 rfl ?_
  intro h47 W47
  have H47 : BS Z n0 h47 a ra ca ka la fa va (2 : Int32) (2 : Int32) (4 : Int32) (0 : Int32) ([rs0, rs1, rs2, rs3] ++ tI) ([cs0, cs1, cs2, cs3] ++ tI) ([ks0, ks1, ks2, ks3] ++ tD) ([ls0, ls1, ls2, i] ++ tI) ([fs0, fs1, fs2, x] ++ tD) ([vs0, vs1, vs2, vs3] ++ tD) := H46.put_terms a0 hw W47
  refine Go.aloadN 65 d9_64 rfl rfl rfl ?_
  refine Go.getf 68 (hw _ (List.mem_of_getElem? (i := 13) rfl)) H47.1.2.2.1 d9_65 rfl ?_
  refine Go.aloadN 69 d9_68 rfl rfl rfl ?_
  refine Go.getf 72 (hw _ (List.mem_of_getElem? (i := 34) rfl)) H47.1.2.2.2.2.2.2.2.2.1 d9_69 rfl ?_
  refine Go.aloadN 73 d9_72 rfl rfl rfl ?_
  refine Go.getf 76 (hw _ (List.mem_of_getElem? (i := 44) rfl)) H47.1.2.2.2.2.2.2.2.2.2.1 d9_73 rfl ?_
  refine Go.iastore 77 H47.2.2.1 (i := 2) (by decide) (in4 (by decide)) (by have := H47.2.2.2.2.2.2.2; omega) d9_76 rfl ?_
  intro h48 K48 A48
  have H48 : BS Z n0 h48 a ra ca ka la fa va (2 : Int32) (2 : Int32) (4 : Int32) (0 : Int32) ([rs0, rs1, rs2, rs3] ++ tI) ([cs0, cs1, (4 : Int32), cs3] ++ tI) ([ks0, ks1, ks2, ks3] ++ tD) ([ls0, ls1, ls2, i] ++ tI) ([fs0, fs1, fs2, x] ++ tD) ([vs0, vs1, vs2, vs3] ++ tD) := H47.set_choiceStart K48 A48
  exact Go.ret d9_77 rfl (by decide) (by decide) ⟨rfl, H48⟩
set_option maxRecDepth 65536 in
set_option maxHeartbeats 40000000 in
theorem endTerm_go (l : Launch) (Z : State) (a0 : Array Value) (hw : ∀ d ∈ tables_1, d.before a0 Z = true) {n0 : Nat} {h : Heap} {a ra ca ka la fa va : Nat} {nr nc nt fo : Int32} {rs cs ls : List Int32} {ks fs vs : List UInt64} {i : Int32} {k : Nat} {x : Int32} (H : BS Z n0 h a ra ca ka la fa va nr nc nt fo rs cs ks ls fs vs) (hi : (i + 1).toInt = (k : Int)) (hx : cs[k]? = some x) :
    Go l Z ({ frames := 0, cells := 0, slots := 0, locals := 0 } : Room) ((⟨"com/example/orbifold/orbifold/solvers/BellmanSystem", "endTerm", "(I)I"⟩ : MethodName), prog_167_method_15_code, 2, some .int) n0 (fun v h' => v = some (.int x) ∧ h' = h) h 0 0 0 #[.val (.ref a), .val (.int i)] [] := by
  refine Go.aloadN 1 d11_0 rfl rfl rfl ?_
  refine Go.getf 4 (hw _ (List.mem_of_getElem? (i := 13) rfl)) H.1.2.2.1 d11_1 rfl ?_
  refine Go.iloadN 5 d11_4 rfl rfl ?_
  refine Go.iconst 6 (1 : Int32) d11_5 rfl (by decide) ?_
  refine Go.iadd 7 (i + (1 : Int32)) d11_6 rfl rfl ?_
  refine Go.iaload 8 H.2.2.1 hi hx d11_7 rfl ?_
  exact Go.iret d11_8 rfl (by decide) (by decide) ⟨rfl, rfl⟩
set_option maxRecDepth 65536 in
set_option maxHeartbeats 40000000 in
theorem constant_go (l : Launch) (Z : State) (a0 : Array Value) (hw : ∀ d ∈ tables_1, d.before a0 Z = true) {n0 : Nat} {h : Heap} {a ra ca ka la fa va : Nat} {nr nc nt fo : Int32} {rs cs ls : List Int32} {ks fs vs : List UInt64} {i : Int32} {k : Nat} {x : UInt64} (H : BS Z n0 h a ra ca ka la fa va nr nc nt fo rs cs ks ls fs vs) (hi : (i).toInt = (k : Int)) (hx : ks[k]? = some x) :
    Go l Z ({ frames := 0, cells := 0, slots := 0, locals := 0 } : Room) ((⟨"com/example/orbifold/orbifold/solvers/BellmanSystem", "constant", "(I)D"⟩ : MethodName), prog_167_method_16_code, 2, some .double) n0 (fun v h' => v = some (.double x) ∧ h' = h) h 0 0 0 #[.val (.ref a), .val (.int i)] [] := by
  refine Go.aloadN 1 d12_0 rfl rfl rfl ?_
  refine Go.getf 4 (hw _ (List.mem_of_getElem? (i := 16) rfl)) H.1.2.2.2.1 d12_1 rfl ?_
  refine Go.iloadN 5 d12_4 rfl rfl ?_
  refine Go.daload 6 H.2.2.2.1 hi hx d12_5 rfl ?_
  exact Go.dret d12_6 rfl (by decide) (by decide) ⟨rfl, rfl⟩
set_option maxRecDepth 65536 in
set_option maxHeartbeats 40000000 in
theorem leaving_go (l : Launch) (Z : State) (a0 : Array Value) (hw : ∀ d ∈ tables_1, d.before a0 Z = true) {n0 : Nat} {h : Heap} {a ra ca ka la fa va : Nat} {nr nc nt fo : Int32} {rs cs ls : List Int32} {ks fs vs : List UInt64} {i : Int32} {k : Nat} {x : UInt64} (H : BS Z n0 h a ra ca ka la fa va nr nc nt fo rs cs ks ls fs vs) (hi : (i).toInt = (k : Int)) (hx : vs[k]? = some x) :
    Go l Z ({ frames := 0, cells := 0, slots := 0, locals := 0 } : Room) ((⟨"com/example/orbifold/orbifold/solvers/BellmanSystem", "leaving", "(I)D"⟩ : MethodName), prog_167_method_17_code, 2, some .double) n0 (fun v h' => v = some (.double x) ∧ h' = h) h 0 0 0 #[.val (.ref a), .val (.int i)] [] := by
  refine Go.aloadN 1 d13_0 rfl rfl rfl ?_
  refine Go.getf 4 (hw _ (List.mem_of_getElem? (i := 22) rfl)) H.1.2.2.2.2.2.2.1 d13_1 rfl ?_
  refine Go.iloadN 5 d13_4 rfl rfl ?_
  refine Go.daload 6 H.2.2.2.2.2.2.1 hi hx d13_5 rfl ?_
  exact Go.dret d13_6 rfl (by decide) (by decide) ⟨rfl, rfl⟩
set_option maxRecDepth 65536 in
set_option maxHeartbeats 40000000 in
theorem column_go (l : Launch) (Z : State) (a0 : Array Value) (hw : ∀ d ∈ tables_1, d.before a0 Z = true) {n0 : Nat} {h : Heap} {a ra ca ka la fa va : Nat} {nr nc nt fo : Int32} {rs cs ls : List Int32} {ks fs vs : List UInt64} {i : Int32} {k : Nat} {x : Int32} (H : BS Z n0 h a ra ca ka la fa va nr nc nt fo rs cs ks ls fs vs) (hi : (i).toInt = (k : Int)) (hx : ls[k]? = some x) :
    Go l Z ({ frames := 0, cells := 0, slots := 0, locals := 0 } : Room) ((⟨"com/example/orbifold/orbifold/solvers/BellmanSystem", "column", "(I)I"⟩ : MethodName), prog_167_method_18_code, 2, some .int) n0 (fun v h' => v = some (.int x) ∧ h' = h) h 0 0 0 #[.val (.ref a), .val (.int i)] [] := by
  refine Go.aloadN 1 d15_0 rfl rfl rfl ?_
  refine Go.getf 4 (hw _ (List.mem_of_getElem? (i := 18) rfl)) H.1.2.2.2.2.1 d15_1 rfl ?_
  refine Go.iloadN 5 d15_4 rfl rfl ?_
  refine Go.iaload 6 H.2.2.2.2.1 hi hx d15_5 rfl ?_
  exact Go.iret d15_6 rfl (by decide) (by decide) ⟨rfl, rfl⟩
set_option maxRecDepth 65536 in
set_option maxHeartbeats 40000000 in
theorem coefficient_go (l : Launch) (Z : State) (a0 : Array Value) (hw : ∀ d ∈ tables_1, d.before a0 Z = true) {n0 : Nat} {h : Heap} {a ra ca ka la fa va : Nat} {nr nc nt fo : Int32} {rs cs ls : List Int32} {ks fs vs : List UInt64} {i : Int32} {k : Nat} {x : UInt64} (H : BS Z n0 h a ra ca ka la fa va nr nc nt fo rs cs ks ls fs vs) (hi : (i).toInt = (k : Int)) (hx : fs[k]? = some x) :
    Go l Z ({ frames := 0, cells := 0, slots := 0, locals := 0 } : Room) ((⟨"com/example/orbifold/orbifold/solvers/BellmanSystem", "coefficient", "(I)D"⟩ : MethodName), prog_167_method_19_code, 2, some .double) n0 (fun v h' => v = some (.double x) ∧ h' = h) h 0 0 0 #[.val (.ref a), .val (.int i)] [] := by
  refine Go.aloadN 1 d16_0 rfl rfl rfl ?_
  refine Go.getf 4 (hw _ (List.mem_of_getElem? (i := 20) rfl)) H.1.2.2.2.2.2.1 d16_1 rfl ?_
  refine Go.iloadN 5 d16_4 rfl rfl ?_
  refine Go.daload 6 H.2.2.2.2.2.1 hi hx d16_5 rfl ?_
  exact Go.dret d16_6 rfl (by decide) (by decide) ⟨rfl, rfl⟩
set_option maxRecDepth 65536 in
set_option maxHeartbeats 40000000 in
theorem term_go (l : Launch) (Z : State) (a0 : Array Value) (hw : ∀ d ∈ tables_1, d.before a0 Z = true) {n0 : Nat} {h : Heap} {a ra ca ka la fa va : Nat} {nr nc nt fo : Int32} {rs cs ls : List Int32} {ks fs vs : List UInt64} {i col : Int32} {k : Nat} {x y : UInt64} (H : BS Z n0 h a ra ca ka la fa va nr nc nt fo rs cs ks ls fs vs) (hi : i.toInt = (k : Int)) (hc : ls[k]? = some col) (hx : fs[k]? = some x) (he : cmpValue (FP.dcmp x y) .l = 0) :
    Go l Z ({ frames := 1, cells := 0, slots := 0, locals := 20 } : Room) ((⟨"com/example/orbifold/orbifold/solvers/BellmanSystemFoldReturnsPinLaw", "term", "(Lcom/example/orbifold/orbifold/solvers/BellmanSystem;IID)Z"⟩ : MethodName), method_3_code, 5, some .boolean) n0 (fun v h' => v = some (.int 1) ∧ h' = h) h 0 0 0 #[.val (.ref a), .val (.int i), .val (.int col), .val (.double y), .second] [] := by
  refine Go.aloadN 1 d14_0 rfl rfl rfl ?_
  refine Go.iloadN 2 d14_1 rfl rfl ?_
  refine Go.callV 5 [(.int i)] [] (hw _ (List.mem_of_getElem? (i := 87) rfl)) (hw _ (List.mem_of_getElem? (i := 88) rfl)) (hw _ (List.mem_of_getElem? (i := 90) rfl)) (hw _ (List.mem_of_getElem? (i := 89) rfl)) (hw _ (List.mem_of_getElem? (i := 91) rfl)) (hw _ (List.mem_of_getElem? (i := 3) rfl)) (by decide) pn_1 pd_6 rfl H.1.1 (ef_15_AI a i) (column_go l Z a0 hw H hi hc) rfl rfl (by decide) (leB rfl) (by decide) (by decide) d14_2 rfl ?_
  rintro _ _ ⟨rfl, rfl⟩
  refine Go.iloadN 6 d14_5 rfl rfl ?_
  refine Go.icmpF 9 d14_6 rfl (show (col).toInt = (col).toInt from by rfl) ?_
  refine Go.aloadN 10 d14_9 rfl rfl rfl ?_
  refine Go.iloadN 11 d14_10 rfl rfl ?_
  refine Go.callV 14 [(.int i)] [] (hw _ (List.mem_of_getElem? (i := 92) rfl)) (hw _ (List.mem_of_getElem? (i := 93) rfl)) (hw _ (List.mem_of_getElem? (i := 95) rfl)) (hw _ (List.mem_of_getElem? (i := 94) rfl)) (hw _ (List.mem_of_getElem? (i := 96) rfl)) (hw _ (List.mem_of_getElem? (i := 3) rfl)) (by decide) pn_1 pd_8 rfl H.1.1 (ef_16_AI a i) (coefficient_go l Z a0 hw H hi hx) rfl rfl (by decide) (leB rfl) (by decide) (by decide) d14_11 rfl ?_
  rintro _ _ ⟨rfl, rfl⟩
  refine Go.dloadN 15 d14_14 rfl rfl ?_
  refine Go.dcmp 16 (0 : Int32) d14_15 rfl he ?_
  refine Go.ifCF 19 d14_16 rfl (show (0 : Int) = 0 from by decide) ?_
  refine Go.iconst 20 (1 : Int32) d14_19 rfl (by decide) ?_
  refine Go.goto 24 d14_20 (by decide) (by decide) ?_
  exact Go.zret d14_24 rfl (Or.inr rfl) (by decide) (by decide) ⟨rfl, rfl⟩
set_option maxRecDepth 65536 in
set_option maxHeartbeats 40000000 in
theorem fold_00 (l : Launch) (Z : State) (a0 : Array Value) (hw : ∀ d ∈ tables_1, d.before a0 Z = true) {n0 : Nat} {h : Heap} {a ra ca ka la fa va : Nat} {tI : List Int32} {tD : List UInt64} (hTI : tI.length = 1020) (hTD : tD.length = 1020) {rs3 cs3 : Int32} {ks0 ks2 ks3 fs0 fs1 fs2 fs3 vs0 vs2 vs3 : UInt64} {K A0 B0 V0 B1 A1 : Int} (H : BS Z n0 h a ra ca ka la fa va (2 : Int32) (2 : Int32) (4 : Int32) (0 : Int32) ([(0 : Int32), (1 : Int32), (2 : Int32), rs3] ++ tI) ([(0 : Int32), (2 : Int32), (4 : Int32), cs3] ++ tI) ([ks0, (0 : UInt64), ks2, ks3] ++ tD) ([(0 : Int32), (1 : Int32), (0 : Int32), (1 : Int32)] ++ tI) ([fs0, fs1, fs2, fs3] ++ tD) ([vs0, (0 : UInt64), vs2, vs3] ++ tD))
    (dK : FP.Core.DInt K ks0) (bK : -2147483648 ≤ K ∧ K ≤ 2147483647) (dA0 : DQ 4 A0 fs0) (dB0 : DQ 4 B0 fs1) (dV0 : DQ 4 V0 vs0) (dB1 : DQ 4 B1 fs2) (dA1 : DQ 4 A1 fs3) (b1 : 0 ≤ A0 ∧ A0 ≤ 16) (b2 : 0 ≤ B0 ∧ B0 ≤ 16) (b3 : 0 ≤ V0 ∧ V0 ≤ 16) (b4 : 0 ≤ B1 ∧ B1 ≤ 16) (b5 : 0 ≤ A1 ∧ A1 ≤ 16) (h0 : ¬ (0 < A0 ∧ 0 < V0 + B0)) (h1 : ¬ (0 < A1 ∧ 0 < B1)) :
    Go l Z ({ frames := 0, cells := 0, slots := 0, locals := 0 } : Room) ((⟨"com/example/orbifold/orbifold/solvers/BellmanSystem", "foldReturns", "()V"⟩ : MethodName), prog_167_method_28_code, 13, none) n0 (fun r h' => r = none ∧ ∃ k v fa_ fb fb1 fa1 k1 v1, DQ 0 (K * 1) k ∧ DQ 4 (V0 * 1) v ∧ DQ 4 (A0 * 1) fa_ ∧ DQ 4 (B0 * 1) fb ∧ DQ 4 (B1 * 1) fb1 ∧ DQ 4 (A1 * 1) fa1 ∧ BS Z n0 h' a ra ca ka la fa va (2 : Int32) (2 : Int32) (4 : Int32) (1 : Int32) ([(0 : Int32), (1 : Int32), (2 : Int32), rs3] ++ tI) ([(0 : Int32), (2 : Int32), (4 : Int32), cs3] ++ tI) ([k, k1, ks2, ks3] ++ tD) ([(0 : Int32), (1 : Int32), (0 : Int32), (1 : Int32)] ++ tI) ([fa_, fb, fb1, fa1] ++ tD) ([v, v1, vs2, vs3] ++ tD)) h 0 0 0 #[.val (.ref a), .unset, .unset, .unset, .unset, .unset, .unset, .unset, .unset, .unset, .unset, .unset, .unset] [] := by
  obtain ⟨g0, qg0, dg0⟩ := addQ (dq_zero 4) dA0 (by omega) (by decide)
  obtain ⟨m0, qm0, dm0⟩ := addQ dV0 dB0 (by omega) (by decide)
  obtain ⟨m1, qm1, dm1⟩ := addQ (dq_zero 4) dB1 (by omega) (by decide)
  obtain ⟨g1, qg1, dg1⟩ := addQ (dq_zero 4) dA1 (by omega) (by decide)
  have dsc0 := dq_of_int FP.Core.dint_one
  have dsc1 := dq_of_int FP.Core.dint_one
  obtain ⟨ky0, qk0, dk0⟩ := mulQ (dq_of_int dK) dsc0 (by rw [Int.natAbs_mul]; exact Nat.lt_of_le_of_lt (Nat.mul_le_mul (show _ ≤ 2147483648 by omega) (show _ ≤ 16 by omega)) (by decide)) (by decide)
  obtain ⟨vy0, qv0, dv0⟩ := mulQ dV0 dsc0 (by rw [Int.natAbs_mul]; exact Nat.lt_of_le_of_lt (Nat.mul_le_mul (show _ ≤ 16 by omega) (show _ ≤ 16 by omega)) (by decide)) (by decide)
  obtain ⟨ky1, qk1, dk1⟩ := mulQ (dq_of_int dint_zero) dsc1 (by omega) (by decide)
  obtain ⟨vy1, qv1, dv1⟩ := mulQ (dq_of_int dint_zero) dsc1 (by omega) (by decide)
  obtain ⟨fy_a0, qf_a0, df_a0⟩ := mulQ dA0 dsc0 (by rw [Int.natAbs_mul]; exact Nat.lt_of_le_of_lt (Nat.mul_le_mul (show _ ≤ 16 by omega) (show _ ≤ 16 by omega)) (by decide)) (by decide)
  obtain ⟨fy_b0, qf_b0, df_b0⟩ := mulQ dB0 dsc0 (by rw [Int.natAbs_mul]; exact Nat.lt_of_le_of_lt (Nat.mul_le_mul (show _ ≤ 16 by omega) (show _ ≤ 16 by omega)) (by decide)) (by decide)
  obtain ⟨fy_b1, qf_b1, df_b1⟩ := mulQ dB1 dsc1 (by rw [Int.natAbs_mul]; exact Nat.lt_of_le_of_lt (Nat.mul_le_mul (show _ ≤ 16 by omega) (show _ ≤ 16 by omega)) (by decide)) (by decide)
  obtain ⟨fy_a1, qf_a1, df_a1⟩ := mulQ dA1 dsc1 (by rw [Int.natAbs_mul]; exact Nat.lt_of_le_of_lt (Nat.mul_le_mul (show _ ≤ 16 by omega) (show _ ≤ 16 by omega)) (by decide)) (by decide)
  refine Go.aloadN 1 d10_0 rfl rfl rfl ?_
  refine Go.getf 4 (hw _ (List.mem_of_getElem? (i := 66) rfl)) H.1.2.2.2.2.2.2.2.2.2.2 d10_1 rfl ?_
  refine Go.ifCT 8 d10_4 (by decide) (by decide) (show (0 : Int) = 0 from by decide) ?_
  refine Go.aloadN 9 d10_8 rfl rfl rfl ?_
  refine Go.iconst 10 (1 : Int32) d10_9 rfl (by decide) ?_
  refine Go.putF 13 (hw _ (List.mem_of_getElem? (i := 66) rfl)) H.1.2.2.2.2.2.2.2.2.2.2 H.1.1 (Or.inl (hw _ (List.mem_of_getElem? (i := 67) rfl))) (hw _ (List.mem_of_getElem? (i := 2) rfl)) (ty := .boolean) (by decide) rfl rfl (by have := H.2.2.2.2.2.2.2; omega) d10_10 rfl ?_
  intro h49 W49
  have H49 : BS Z n0 h49 a ra ca ka la fa va (2 : Int32) (2 : Int32) (4 : Int32) (1 : Int32) ([(0 : Int32), (1 : Int32), (2 : Int32), rs3] ++ tI) ([(0 : Int32), (2 : Int32), (4 : Int32), cs3] ++ tI) ([ks0, (0 : UInt64), ks2, ks3] ++ tD) ([(0 : Int32), (1 : Int32), (0 : Int32), (1 : Int32)] ++ tI) ([fs0, fs1, fs2, fs3] ++ tD) ([vs0, (0 : UInt64), vs2, vs3] ++ tD) := H.put_folded a0 hw W49
  refine Go.iconst 14 (0 : Int32) d10_13 rfl (by decide) ?_
  refine Go.istoreN 15 #[.val (.ref a), .val (.int (0 : Int32)), .unset, .unset, .unset, .unset, .unset, .unset, .unset, .unset, .unset, .unset, .unset] d10_14 rfl rfl ?_
  refine Go.iconst 16 (0 : Int32) d10_15 rfl (by decide) ?_
  refine Go.istoreN 17 #[.val (.ref a), .val (.int (0 : Int32)), .val (.int (0 : Int32)), .unset, .unset, .unset, .unset, .unset, .unset, .unset, .unset, .unset, .unset] d10_16 rfl rfl ?_
  refine Go.iloadN 18 d10_17 rfl rfl ?_
  refine Go.aloadN 19 d10_18 rfl rfl rfl ?_
  refine Go.getf 22 (hw _ (List.mem_of_getElem? (i := 29) rfl)) H49.1.2.2.2.2.2.2.2.1 d10_19 rfl ?_
  refine Go.icmpF 25 d10_22 rfl (show (0 : Int) < (2 : Int) from by decide) ?_
  refine Go.aloadN 26 d10_25 rfl rfl rfl ?_
  refine Go.getf 29 (hw _ (List.mem_of_getElem? (i := 11) rfl)) H49.1.2.1 d10_26 rfl ?_
  refine Go.iloadN 30 d10_29 rfl rfl ?_
  refine Go.iaload 31 H49.2.1 (i := 0) (by decide) rfl d10_30 rfl ?_
  refine Go.istoreN 32 #[.val (.ref a), .val (.int (0 : Int32)), .val (.int (0 : Int32)), .val (.int (0 : Int32)), .unset, .unset, .unset, .unset, .unset, .unset, .unset, .unset, .unset] d10_31 rfl rfl ?_
  refine Go.iloadN 33 d10_32 rfl rfl ?_
  refine Go.aloadN 34 d10_33 rfl rfl rfl ?_
  refine Go.getf 37 (hw _ (List.mem_of_getElem? (i := 11) rfl)) H49.1.2.1 d10_34 rfl ?_
  refine Go.iloadN 38 d10_37 rfl rfl ?_
  refine Go.iconst 39 (1 : Int32) d10_38 rfl (by decide) ?_
  refine Go.iadd 40 (1 : Int32) d10_39 rfl (by decide) ?_
  refine Go.iaload 41 H49.2.1 (i := 1) (by decide) rfl d10_40 rfl ?_
  refine Go.icmpF 44 d10_41 rfl (show (0 : Int) < (1 : Int) from by decide) ?_
  refine Go.dconst0 45 (0 : UInt64) d10_44 rfl rfl ?_
  refine Go.dstore 47 #[.val (.ref a), .val (.int (0 : Int32)), .val (.int (0 : Int32)), .val (.int (0 : Int32)), .val (.double (0 : UInt64)), .second, .unset, .unset, .unset, .unset, .unset, .unset, .unset] d10_45 rfl rfl ?_
  refine Go.aloadN 48 d10_47 rfl rfl rfl ?_
  refine Go.getf 51 (hw _ (List.mem_of_getElem? (i := 22) rfl)) H49.1.2.2.2.2.2.2.1 d10_48 rfl ?_
  refine Go.iloadN 52 d10_51 rfl rfl ?_
  refine Go.daload 53 H49.2.2.2.2.2.2.1 (i := 0) (by decide) rfl d10_52 rfl ?_
  refine Go.dstore 55 #[.val (.ref a), .val (.int (0 : Int32)), .val (.int (0 : Int32)), .val (.int (0 : Int32)), .val (.double (0 : UInt64)), .second, .val (.double vs0), .second, .unset, .unset, .unset, .unset, .unset] d10_53 rfl rfl ?_
  refine Go.aloadN 56 d10_55 rfl rfl rfl ?_
  refine Go.getf 59 (hw _ (List.mem_of_getElem? (i := 13) rfl)) H49.1.2.2.1 d10_56 rfl ?_
  refine Go.iloadN 60 d10_59 rfl rfl ?_
  refine Go.iaload 61 H49.2.2.1 (i := 0) (by decide) rfl d10_60 rfl ?_
  refine Go.istore 63 #[.val (.ref a), .val (.int (0 : Int32)), .val (.int (0 : Int32)), .val (.int (0 : Int32)), .val (.double (0 : UInt64)), .second, .val (.double vs0), .second, .val (.int (0 : Int32)), .unset, .unset, .unset, .unset] d10_61 rfl rfl ?_
  refine Go.iload 65 d10_63 rfl rfl ?_
  refine Go.aloadN 66 d10_65 rfl rfl rfl ?_
  refine Go.getf 69 (hw _ (List.mem_of_getElem? (i := 13) rfl)) H49.1.2.2.1 d10_66 rfl ?_
  refine Go.iloadN 70 d10_69 rfl rfl ?_
  refine Go.iconst 71 (1 : Int32) d10_70 rfl (by decide) ?_
  refine Go.iadd 72 (1 : Int32) d10_71 rfl (by decide) ?_
  refine Go.iaload 73 H49.2.2.1 (i := 1) (by decide) rfl d10_72 rfl ?_
  refine Go.icmpF 76 d10_73 rfl (show (0 : Int) < (2 : Int) from by decide) ?_
  refine Go.aloadN 77 d10_76 rfl rfl rfl ?_
  refine Go.getf 80 (hw _ (List.mem_of_getElem? (i := 18) rfl)) H49.1.2.2.2.2.1 d10_77 rfl ?_
  refine Go.iload 82 d10_80 rfl rfl ?_
  refine Go.iaload 83 H49.2.2.2.2.1 (i := 0) (by decide) rfl d10_82 rfl ?_
  refine Go.iloadN 84 d10_83 rfl rfl ?_
  refine Go.icmpF 87 d10_84 rfl (show (0 : Int) = (0 : Int) from by decide) ?_
  refine Go.dload 89 d10_87 rfl rfl ?_
  refine Go.aloadN 90 d10_89 rfl rfl rfl ?_
  refine Go.getf 93 (hw _ (List.mem_of_getElem? (i := 20) rfl)) H49.1.2.2.2.2.2.1 d10_90 rfl ?_
  refine Go.iload 95 d10_93 rfl rfl ?_
  refine Go.daload 96 H49.2.2.2.2.2.1 (i := 0) (by decide) rfl d10_95 rfl ?_
  refine Go.dadd 97 g0 d10_96 rfl qg0.1 qg0.2 ?_
  refine Go.dstore 99 #[.val (.ref a), .val (.int (0 : Int32)), .val (.int (0 : Int32)), .val (.int (0 : Int32)), .val (.double g0), .second, .val (.double vs0), .second, .val (.int (0 : Int32)), .unset, .unset, .unset, .unset] d10_97 rfl rfl ?_
  refine Go.goto 114 d10_99 (by decide) (by decide) ?_
  refine Go.iinc 117 #[.val (.ref a), .val (.int (0 : Int32)), .val (.int (0 : Int32)), .val (.int (0 : Int32)), .val (.double g0), .second, .val (.double vs0), .second, .val (.int (1 : Int32)), .unset, .unset, .unset, .unset] (1 : Int32) d10_114 rfl rfl (by decide) rfl ?_
  refine Go.goto 63 d10_117 (by decide) (by decide) ?_
  refine Go.iload 65 d10_63 rfl rfl ?_
  refine Go.aloadN 66 d10_65 rfl rfl rfl ?_
  refine Go.getf 69 (hw _ (List.mem_of_getElem? (i := 13) rfl)) H49.1.2.2.1 d10_66 rfl ?_
  refine Go.iloadN 70 d10_69 rfl rfl ?_
  refine Go.iconst 71 (1 : Int32) d10_70 rfl (by decide) ?_
  refine Go.iadd 72 (1 : Int32) d10_71 rfl (by decide) ?_
  refine Go.iaload 73 H49.2.2.1 (i := 1) (by decide) rfl d10_72 rfl ?_
  refine Go.icmpF 76 d10_73 rfl (show (1 : Int) < (2 : Int) from by decide) ?_
  refine Go.aloadN 77 d10_76 rfl rfl rfl ?_
  refine Go.getf 80 (hw _ (List.mem_of_getElem? (i := 18) rfl)) H49.1.2.2.2.2.1 d10_77 rfl ?_
  refine Go.iload 82 d10_80 rfl rfl ?_
  refine Go.iaload 83 H49.2.2.2.2.1 (i := 1) (by decide) rfl d10_82 rfl ?_
  refine Go.iloadN 84 d10_83 rfl rfl ?_
  refine Go.icmpT 102 d10_84 (by decide) (by decide) (show (1 : Int) ≠ (0 : Int) from by decide) ?_
  refine Go.dload 104 d10_102 rfl rfl ?_
  refine Go.aloadN 105 d10_104 rfl rfl rfl ?_
  refine Go.getf 108 (hw _ (List.mem_of_getElem? (i := 20) rfl)) H49.1.2.2.2.2.2.1 d10_105 rfl ?_
  refine Go.iload 110 d10_108 rfl rfl ?_
  refine Go.daload 111 H49.2.2.2.2.2.1 (i := 1) (by decide) rfl d10_110 rfl ?_
  refine Go.dadd 112 m0 d10_111 rfl qm0.1 qm0.2 ?_
  refine Go.dstore 114 #[.val (.ref a), .val (.int (0 : Int32)), .val (.int (0 : Int32)), .val (.int (0 : Int32)), .val (.double g0), .second, .val (.double m0), .second, .val (.int (1 : Int32)), .unset, .unset, .unset, .unset] d10_112 rfl rfl ?_
  refine Go.iinc 117 #[.val (.ref a), .val (.int (0 : Int32)), .val (.int (0 : Int32)), .val (.int (0 : Int32)), .val (.double g0), .second, .val (.double m0), .second, .val (.int (2 : Int32)), .unset, .unset, .unset, .unset] (2 : Int32) d10_114 rfl rfl (by decide) rfl ?_
  refine Go.goto 63 d10_117 (by decide) (by decide) ?_
  refine Go.iload 65 d10_63 rfl rfl ?_
  refine Go.aloadN 66 d10_65 rfl rfl rfl ?_
  refine Go.getf 69 (hw _ (List.mem_of_getElem? (i := 13) rfl)) H49.1.2.2.1 d10_66 rfl ?_
  refine Go.iloadN 70 d10_69 rfl rfl ?_
  refine Go.iconst 71 (1 : Int32) d10_70 rfl (by decide) ?_
  refine Go.iadd 72 (1 : Int32) d10_71 rfl (by decide) ?_
  refine Go.iaload 73 H49.2.2.1 (i := 1) (by decide) rfl d10_72 rfl ?_
  refine Go.icmpT 120 d10_73 (by decide) (by decide) (show (2 : Int) ≤ (2 : Int) from by decide) ?_
  refine Go.dload 122 d10_120 rfl rfl ?_
  refine Go.dconst0 123 (0 : UInt64) d10_122 rfl rfl ?_
  refine Go.dcmp 124 (sg (0 + A0) 0) d10_123 rfl (cmpQ dg0 (dq_zero 4) _) ?_
  have g139_0 : Go l Z ({ frames := 0, cells := 0, slots := 0, locals := 0 } : Room) ((⟨"com/example/orbifold/orbifold/solvers/BellmanSystem", "foldReturns", "()V"⟩ : MethodName), prog_167_method_28_code, 13, none) n0 (fun r h' => r = none ∧ ∃ k v fa_ fb fb1 fa1 k1 v1, DQ 0 (K * 1) k ∧ DQ 4 (V0 * 1) v ∧ DQ 4 (A0 * 1) fa_ ∧ DQ 4 (B0 * 1) fb ∧ DQ 4 (B1 * 1) fb1 ∧ DQ 4 (A1 * 1) fa1 ∧ BS Z n0 h' a ra ca ka la fa va (2 : Int32) (2 : Int32) (4 : Int32) (1 : Int32) ([(0 : Int32), (1 : Int32), (2 : Int32), rs3] ++ tI) ([(0 : Int32), (2 : Int32), (4 : Int32), cs3] ++ tI) ([k, k1, ks2, ks3] ++ tD) ([(0 : Int32), (1 : Int32), (0 : Int32), (1 : Int32)] ++ tI) ([fa_, fb, fb1, fa1] ++ tD) ([v, v1, vs2, vs3] ++ tD)) h49 0 0 139 #[.val (.ref a), .val (.int (0 : Int32)), .val (.int (0 : Int32)), .val (.int (0 : Int32)), .val (.double g0), .second, .val (.double m0), .second, .val (.int (2 : Int32)), .unset, .unset, .unset, .unset] [.int 0] := by
    refine Go.istore 141 #[.val (.ref a), .val (.int (0 : Int32)), .val (.int (0 : Int32)), .val (.int (0 : Int32)), .val (.double g0), .second, .val (.double m0), .second, .val (.int (0 : Int32)), .unset, .unset, .unset, .unset] d10_139 rfl rfl ?_
    refine Go.iload 143 d10_141 rfl rfl ?_
    refine Go.ifCT 153 d10_143 (by decide) (by decide) (show (0 : Int) = 0 from by decide) ?_
    refine Go.dconst1 154 (4607182418800017408 : UInt64) d10_153 rfl rfl ?_
    refine Go.dstore 156 #[.val (.ref a), .val (.int (0 : Int32)), .val (.int (0 : Int32)), .val (.int (0 : Int32)), .val (.double g0), .second, .val (.double m0), .second, .val (.int (0 : Int32)), .val (.double (4607182418800017408 : UInt64)), .second, .unset, .unset] d10_154 rfl rfl ?_
    refine Go.aloadN 157 d10_156 rfl rfl rfl ?_
    refine Go.getf 160 (hw _ (List.mem_of_getElem? (i := 16) rfl)) H49.1.2.2.2.1 d10_157 rfl ?_
    refine Go.iloadN 161 d10_160 rfl rfl ?_
    refine Go.dup2 162 d10_161 rfl rfl rfl ?_
    refine Go.daload 163 H49.2.2.2.1 (i := 0) (by decide) rfl d10_162 rfl ?_
    refine Go.dload 165 d10_163 rfl rfl ?_
    refine Go.dmul 166 ky0 d10_165 rfl qk0.1 qk0.2 ?_
    refine Go.dastore 167 H49.2.2.2.1 (i := 0) (by decide) (in4 (by decide)) (by have := H49.2.2.2.2.2.2.2; omega) d10_166 rfl ?_
    intro h50 K50 A50
    have H50 : BS Z n0 h50 a ra ca ka la fa va (2 : Int32) (2 : Int32) (4 : Int32) (1 : Int32) ([(0 : Int32), (1 : Int32), (2 : Int32), rs3] ++ tI) ([(0 : Int32), (2 : Int32), (4 : Int32), cs3] ++ tI) ([ky0, (0 : UInt64), ks2, ks3] ++ tD) ([(0 : Int32), (1 : Int32), (0 : Int32), (1 : Int32)] ++ tI) ([fs0, fs1, fs2, fs3] ++ tD) ([vs0, (0 : UInt64), vs2, vs3] ++ tD) := H49.set_constants K50 A50
    refine Go.aloadN 168 d10_167 rfl rfl rfl ?_
    refine Go.getf 171 (hw _ (List.mem_of_getElem? (i := 22) rfl)) H50.1.2.2.2.2.2.2.1 d10_168 rfl ?_
    refine Go.iloadN 172 d10_171 rfl rfl ?_
    refine Go.dup2 173 d10_172 rfl rfl rfl ?_
    refine Go.daload 174 H50.2.2.2.2.2.2.1 (i := 0) (by decide) rfl d10_173 rfl ?_
    refine Go.dload 176 d10_174 rfl rfl ?_
    refine Go.dmul 177 vy0 d10_176 rfl qv0.1 qv0.2 ?_
    refine Go.dastore 178 H50.2.2.2.2.2.2.1 (i := 0) (by decide) (in4 (by decide)) (by have := H50.2.2.2.2.2.2.2; omega) d10_177 rfl ?_
    intro h51 K51 A51
    have H51 : BS Z n0 h51 a ra ca ka la fa va (2 : Int32) (2 : Int32) (4 : Int32) (1 : Int32) ([(0 : Int32), (1 : Int32), (2 : Int32), rs3] ++ tI) ([(0 : Int32), (2 : Int32), (4 : Int32), cs3] ++ tI) ([ky0, (0 : UInt64), ks2, ks3] ++ tD) ([(0 : Int32), (1 : Int32), (0 : Int32), (1 : Int32)] ++ tI) ([fs0, fs1, fs2, fs3] ++ tD) ([vy0, (0 : UInt64), vs2, vs3] ++ tD) := H50.set_leaving K51 A51
    refine Go.iloadN 179 d10_178 rfl rfl ?_
    refine Go.istore 181 #[.val (.ref a), .val (.int (0 : Int32)), .val (.int (0 : Int32)), .val (.int (0 : Int32)), .val (.double g0), .second, .val (.double m0), .second, .val (.int (0 : Int32)), .val (.double (4607182418800017408 : UInt64)), .second, .val (.int (0 : Int32)), .unset] d10_179 rfl rfl ?_
    refine Go.aloadN 182 d10_181 rfl rfl rfl ?_
    refine Go.getf 185 (hw _ (List.mem_of_getElem? (i := 13) rfl)) H51.1.2.2.1 d10_182 rfl ?_
    refine Go.iloadN 186 d10_185 rfl rfl ?_
    refine Go.iaload 187 H51.2.2.1 (i := 0) (by decide) rfl d10_186 rfl ?_
    refine Go.istore 189 #[.val (.ref a), .val (.int (0 : Int32)), .val (.int (0 : Int32)), .val (.int (0 : Int32)), .val (.double g0), .second, .val (.double m0), .second, .val (.int (0 : Int32)), .val (.double (4607182418800017408 : UInt64)), .second, .val (.int (0 : Int32)), .val (.int (0 : Int32))] d10_187 rfl rfl ?_
    refine Go.iload 191 d10_189 rfl rfl ?_
    refine Go.aloadN 192 d10_191 rfl rfl rfl ?_
    refine Go.getf 195 (hw _ (List.mem_of_getElem? (i := 13) rfl)) H51.1.2.2.1 d10_192 rfl ?_
    refine Go.iloadN 196 d10_195 rfl rfl ?_
    refine Go.iconst 197 (1 : Int32) d10_196 rfl (by decide) ?_
    refine Go.iadd 198 (1 : Int32) d10_197 rfl (by decide) ?_
    refine Go.iaload 199 H51.2.2.1 (i := 1) (by decide) rfl d10_198 rfl ?_
    refine Go.icmpF 202 d10_199 rfl (show (0 : Int) < (2 : Int) from by decide) ?_
    refine Go.iload 204 d10_202 rfl rfl ?_
    refine Go.ifCT 218 d10_204 (by decide) (by decide) (show (0 : Int) = 0 from by decide) ?_
    refine Go.aloadN 219 d10_218 rfl rfl rfl ?_
    refine Go.getf 222 (hw _ (List.mem_of_getElem? (i := 18) rfl)) H51.1.2.2.2.2.1 d10_219 rfl ?_
    refine Go.iloadN 223 d10_222 rfl rfl ?_
    refine Go.aloadN 224 d10_223 rfl rfl rfl ?_
    refine Go.getf 227 (hw _ (List.mem_of_getElem? (i := 18) rfl)) H51.1.2.2.2.2.1 d10_224 rfl ?_
    refine Go.iload 229 d10_227 rfl rfl ?_
    refine Go.iaload 230 H51.2.2.2.2.1 (i := 0) (by decide) rfl d10_229 rfl ?_
    refine Go.iastore 231 H51.2.2.2.2.1 (i := 0) (by decide) (in4 (by decide)) (by have := H51.2.2.2.2.2.2.2; omega) d10_230 rfl ?_
    intro h52 K52 A52
    have H52 : BS Z n0 h52 a ra ca ka la fa va (2 : Int32) (2 : Int32) (4 : Int32) (1 : Int32) ([(0 : Int32), (1 : Int32), (2 : Int32), rs3] ++ tI) ([(0 : Int32), (2 : Int32), (4 : Int32), cs3] ++ tI) ([ky0, (0 : UInt64), ks2, ks3] ++ tD) ([(0 : Int32), (1 : Int32), (0 : Int32), (1 : Int32)] ++ tI) ([fs0, fs1, fs2, fs3] ++ tD) ([vy0, (0 : UInt64), vs2, vs3] ++ tD) := H51.set_columns K52 A52
    refine Go.aloadN 232 d10_231 rfl rfl rfl ?_
    refine Go.getf 235 (hw _ (List.mem_of_getElem? (i := 20) rfl)) H52.1.2.2.2.2.2.1 d10_232 rfl ?_
    refine Go.iloadN 236 d10_235 rfl rfl ?_
    refine Go.aloadN 237 d10_236 rfl rfl rfl ?_
    refine Go.getf 240 (hw _ (List.mem_of_getElem? (i := 20) rfl)) H52.1.2.2.2.2.2.1 d10_237 rfl ?_
    refine Go.iload 242 d10_240 rfl rfl ?_
    refine Go.daload 243 H52.2.2.2.2.2.1 (i := 0) (by decide) rfl d10_242 rfl ?_
    refine Go.dload 245 d10_243 rfl rfl ?_
    refine Go.dmul 246 fy_a0 d10_245 rfl qf_a0.1 qf_a0.2 ?_
    refine Go.dastore 247 H52.2.2.2.2.2.1 (i := 0) (by decide) (in4 (by decide)) (by have := H52.2.2.2.2.2.2.2; omega) d10_246 rfl ?_
    intro h53 K53 A53
    have H53 : BS Z n0 h53 a ra ca ka la fa va (2 : Int32) (2 : Int32) (4 : Int32) (1 : Int32) ([(0 : Int32), (1 : Int32), (2 : Int32), rs3] ++ tI) ([(0 : Int32), (2 : Int32), (4 : Int32), cs3] ++ tI) ([ky0, (0 : UInt64), ks2, ks3] ++ tD) ([(0 : Int32), (1 : Int32), (0 : Int32), (1 : Int32)] ++ tI) ([fy_a0, fs1, fs2, fs3] ++ tD) ([vy0, (0 : UInt64), vs2, vs3] ++ tD) := H52.set_coefficients K53 A53
    refine Go.iinc 250 #[.val (.ref a), .val (.int (1 : Int32)), .val (.int (0 : Int32)), .val (.int (0 : Int32)), .val (.double g0), .second, .val (.double m0), .second, .val (.int (0 : Int32)), .val (.double (4607182418800017408 : UInt64)), .second, .val (.int (0 : Int32)), .val (.int (0 : Int32))] (1 : Int32) d10_247 rfl rfl (by decide) rfl ?_
    refine Go.iinc 253 #[.val (.ref a), .val (.int (1 : Int32)), .val (.int (0 : Int32)), .val (.int (0 : Int32)), .val (.double g0), .second, .val (.double m0), .second, .val (.int (0 : Int32)), .val (.double (4607182418800017408 : UInt64)), .second, .val (.int (0 : Int32)), .val (.int (1 : Int32))] (1 : Int32) d10_250 rfl rfl (by decide) rfl ?_
    refine Go.goto 189 d10_253 (by decide) (by decide) ?_
    refine Go.iload 191 d10_189 rfl rfl ?_
    refine Go.aloadN 192 d10_191 rfl rfl rfl ?_
    refine Go.getf 195 (hw _ (List.mem_of_getElem? (i := 13) rfl)) H53.1.2.2.1 d10_192 rfl ?_
    refine Go.iloadN 196 d10_195 rfl rfl ?_
    refine Go.iconst 197 (1 : Int32) d10_196 rfl (by decide) ?_
    refine Go.iadd 198 (1 : Int32) d10_197 rfl (by decide) ?_
    refine Go.iaload 199 H53.2.2.1 (i := 1) (by decide) rfl d10_198 rfl ?_
    refine Go.icmpF 202 d10_199 rfl (show (1 : Int) < (2 : Int) from by decide) ?_
    refine Go.iload 204 d10_202 rfl rfl ?_
    refine Go.ifCT 218 d10_204 (by decide) (by decide) (show (0 : Int) = 0 from by decide) ?_
    refine Go.aloadN 219 d10_218 rfl rfl rfl ?_
    refine Go.getf 222 (hw _ (List.mem_of_getElem? (i := 18) rfl)) H53.1.2.2.2.2.1 d10_219 rfl ?_
    refine Go.iloadN 223 d10_222 rfl rfl ?_
    refine Go.aloadN 224 d10_223 rfl rfl rfl ?_
    refine Go.getf 227 (hw _ (List.mem_of_getElem? (i := 18) rfl)) H53.1.2.2.2.2.1 d10_224 rfl ?_
    refine Go.iload 229 d10_227 rfl rfl ?_
    refine Go.iaload 230 H53.2.2.2.2.1 (i := 1) (by decide) rfl d10_229 rfl ?_
    refine Go.iastore 231 H53.2.2.2.2.1 (i := 1) (by decide) (in4 (by decide)) (by have := H53.2.2.2.2.2.2.2; omega) d10_230 rfl ?_
    intro h54 K54 A54
    have H54 : BS Z n0 h54 a ra ca ka la fa va (2 : Int32) (2 : Int32) (4 : Int32) (1 : Int32) ([(0 : Int32), (1 : Int32), (2 : Int32), rs3] ++ tI) ([(0 : Int32), (2 : Int32), (4 : Int32), cs3] ++ tI) ([ky0, (0 : UInt64), ks2, ks3] ++ tD) ([(0 : Int32), (1 : Int32), (0 : Int32), (1 : Int32)] ++ tI) ([fy_a0, fs1, fs2, fs3] ++ tD) ([vy0, (0 : UInt64), vs2, vs3] ++ tD) := H53.set_columns K54 A54
    refine Go.aloadN 232 d10_231 rfl rfl rfl ?_
    refine Go.getf 235 (hw _ (List.mem_of_getElem? (i := 20) rfl)) H54.1.2.2.2.2.2.1 d10_232 rfl ?_
    refine Go.iloadN 236 d10_235 rfl rfl ?_
    refine Go.aloadN 237 d10_236 rfl rfl rfl ?_
    refine Go.getf 240 (hw _ (List.mem_of_getElem? (i := 20) rfl)) H54.1.2.2.2.2.2.1 d10_237 rfl ?_
    refine Go.iload 242 d10_240 rfl rfl ?_
    refine Go.daload 243 H54.2.2.2.2.2.1 (i := 1) (by decide) rfl d10_242 rfl ?_
    refine Go.dload 245 d10_243 rfl rfl ?_
    refine Go.dmul 246 fy_b0 d10_245 rfl qf_b0.1 qf_b0.2 ?_
    refine Go.dastore 247 H54.2.2.2.2.2.1 (i := 1) (by decide) (in4 (by decide)) (by have := H54.2.2.2.2.2.2.2; omega) d10_246 rfl ?_
    intro h55 K55 A55
    have H55 : BS Z n0 h55 a ra ca ka la fa va (2 : Int32) (2 : Int32) (4 : Int32) (1 : Int32) ([(0 : Int32), (1 : Int32), (2 : Int32), rs3] ++ tI) ([(0 : Int32), (2 : Int32), (4 : Int32), cs3] ++ tI) ([ky0, (0 : UInt64), ks2, ks3] ++ tD) ([(0 : Int32), (1 : Int32), (0 : Int32), (1 : Int32)] ++ tI) ([fy_a0, fy_b0, fs2, fs3] ++ tD) ([vy0, (0 : UInt64), vs2, vs3] ++ tD) := H54.set_coefficients K55 A55
    refine Go.iinc 250 #[.val (.ref a), .val (.int (2 : Int32)), .val (.int (0 : Int32)), .val (.int (0 : Int32)), .val (.double g0), .second, .val (.double m0), .second, .val (.int (0 : Int32)), .val (.double (4607182418800017408 : UInt64)), .second, .val (.int (0 : Int32)), .val (.int (1 : Int32))] (2 : Int32) d10_247 rfl rfl (by decide) rfl ?_
    refine Go.iinc 253 #[.val (.ref a), .val (.int (2 : Int32)), .val (.int (0 : Int32)), .val (.int (0 : Int32)), .val (.double g0), .second, .val (.double m0), .second, .val (.int (0 : Int32)), .val (.double (4607182418800017408 : UInt64)), .second, .val (.int (0 : Int32)), .val (.int (2 : Int32))] (2 : Int32) d10_250 rfl rfl (by decide) rfl ?_
    refine Go.goto 189 d10_253 (by decide) (by decide) ?_
    refine Go.iload 191 d10_189 rfl rfl ?_
    refine Go.aloadN 192 d10_191 rfl rfl rfl ?_
    refine Go.getf 195 (hw _ (List.mem_of_getElem? (i := 13) rfl)) H55.1.2.2.1 d10_192 rfl ?_
    refine Go.iloadN 196 d10_195 rfl rfl ?_
    refine Go.iconst 197 (1 : Int32) d10_196 rfl (by decide) ?_
    refine Go.iadd 198 (1 : Int32) d10_197 rfl (by decide) ?_
    refine Go.iaload 199 H55.2.2.1 (i := 1) (by decide) rfl d10_198 rfl ?_
    refine Go.icmpT 256 d10_199 (by decide) (by decide) (show (2 : Int) ≤ (2 : Int) from by decide) ?_
    refine Go.aloadN 257 d10_256 rfl rfl rfl ?_
    refine Go.getf 260 (hw _ (List.mem_of_getElem? (i := 13) rfl)) H55.1.2.2.1 d10_257 rfl ?_
    refine Go.iloadN 261 d10_260 rfl rfl ?_
    refine Go.iload 263 d10_261 rfl rfl ?_
    refine Go.iastore 264 H55.2.2.1 (i := 0) (by decide) (in4 (by decide)) (by have := H55.2.2.2.2.2.2.2; omega) d10_263 rfl ?_
    intro h56 K56 A56
    have H56 : BS Z n0 h56 a ra ca ka la fa va (2 : Int32) (2 : Int32) (4 : Int32) (1 : Int32) ([(0 : Int32), (1 : Int32), (2 : Int32), rs3] ++ tI) ([(0 : Int32), (2 : Int32), (4 : Int32), cs3] ++ tI) ([ky0, (0 : UInt64), ks2, ks3] ++ tD) ([(0 : Int32), (1 : Int32), (0 : Int32), (1 : Int32)] ++ tI) ([fy_a0, fy_b0, fs2, fs3] ++ tD) ([vy0, (0 : UInt64), vs2, vs3] ++ tD) := H55.set_choiceStart K56 A56
    refine Go.iinc 267 #[.val (.ref a), .val (.int (2 : Int32)), .val (.int (0 : Int32)), .val (.int (1 : Int32)), .val (.double g0), .second, .val (.double m0), .second, .val (.int (0 : Int32)), .val (.double (4607182418800017408 : UInt64)), .second, .val (.int (0 : Int32)), .val (.int (2 : Int32))] (1 : Int32) d10_264 rfl rfl (by decide) rfl ?_
    refine Go.goto 32 d10_267 (by decide) (by decide) ?_
    refine Go.iloadN 33 d10_32 rfl rfl ?_
    refine Go.aloadN 34 d10_33 rfl rfl rfl ?_
    refine Go.getf 37 (hw _ (List.mem_of_getElem? (i := 11) rfl)) H56.1.2.1 d10_34 rfl ?_
    refine Go.iloadN 38 d10_37 rfl rfl ?_
    refine Go.iconst 39 (1 : Int32) d10_38 rfl (by decide) ?_
    refine Go.iadd 40 (1 : Int32) d10_39 rfl (by decide) ?_
    refine Go.iaload 41 H56.2.1 (i := 1) (by decide) rfl d10_40 rfl ?_
    refine Go.icmpT 270 d10_41 (by decide) (by decide) (show (1 : Int) ≤ (1 : Int) from by decide) ?_
    refine Go.iinc 273 #[.val (.ref a), .val (.int (2 : Int32)), .val (.int (1 : Int32)), .val (.int (1 : Int32)), .val (.double g0), .second, .val (.double m0), .second, .val (.int (0 : Int32)), .val (.double (4607182418800017408 : UInt64)), .second, .val (.int (0 : Int32)), .val (.int (2 : Int32))] (1 : Int32) d10_270 rfl rfl (by decide) rfl ?_
    refine Go.goto 17 d10_273 (by decide) (by decide) ?_
    refine Go.iloadN 18 d10_17 rfl rfl ?_
    refine Go.aloadN 19 d10_18 rfl rfl rfl ?_
    refine Go.getf 22 (hw _ (List.mem_of_getElem? (i := 29) rfl)) H56.1.2.2.2.2.2.2.2.1 d10_19 rfl ?_
    refine Go.icmpF 25 d10_22 rfl (show (1 : Int) < (2 : Int) from by decide) ?_
    refine Go.aloadN 26 d10_25 rfl rfl rfl ?_
    refine Go.getf 29 (hw _ (List.mem_of_getElem? (i := 11) rfl)) H56.1.2.1 d10_26 rfl ?_
    refine Go.iloadN 30 d10_29 rfl rfl ?_
    refine Go.iaload 31 H56.2.1 (i := 1) (by decide) rfl d10_30 rfl ?_
    refine Go.istoreN 32 #[.val (.ref a), .val (.int (2 : Int32)), .val (.int (1 : Int32)), .val (.int (1 : Int32)), .val (.double g0), .second, .val (.double m0), .second, .val (.int (0 : Int32)), .val (.double (4607182418800017408 : UInt64)), .second, .val (.int (0 : Int32)), .val (.int (2 : Int32))] d10_31 rfl rfl ?_
    refine Go.iloadN 33 d10_32 rfl rfl ?_
    refine Go.aloadN 34 d10_33 rfl rfl rfl ?_
    refine Go.getf 37 (hw _ (List.mem_of_getElem? (i := 11) rfl)) H56.1.2.1 d10_34 rfl ?_
    refine Go.iloadN 38 d10_37 rfl rfl ?_
    refine Go.iconst 39 (1 : Int32) d10_38 rfl (by decide) ?_
    refine Go.iadd 40 (2 : Int32) d10_39 rfl (by decide) ?_
    refine Go.iaload 41 H56.2.1 (i := 2) (by decide) rfl d10_40 rfl ?_
    refine Go.icmpF 44 d10_41 rfl (show (1 : Int) < (2 : Int) from by decide) ?_
    refine Go.dconst0 45 (0 : UInt64) d10_44 rfl rfl ?_
    refine Go.dstore 47 #[.val (.ref a), .val (.int (2 : Int32)), .val (.int (1 : Int32)), .val (.int (1 : Int32)), .val (.double (0 : UInt64)), .second, .val (.double m0), .second, .val (.int (0 : Int32)), .val (.double (4607182418800017408 : UInt64)), .second, .val (.int (0 : Int32)), .val (.int (2 : Int32))] d10_45 rfl rfl ?_
    refine Go.aloadN 48 d10_47 rfl rfl rfl ?_
    refine Go.getf 51 (hw _ (List.mem_of_getElem? (i := 22) rfl)) H56.1.2.2.2.2.2.2.1 d10_48 rfl ?_
    refine Go.iloadN 52 d10_51 rfl rfl ?_
    refine Go.daload 53 H56.2.2.2.2.2.2.1 (i := 1) (by decide) rfl d10_52 rfl ?_
    refine Go.dstore 55 #[.val (.ref a), .val (.int (2 : Int32)), .val (.int (1 : Int32)), .val (.int (1 : Int32)), .val (.double (0 : UInt64)), .second, .val (.double (0 : UInt64)), .second, .val (.int (0 : Int32)), .val (.double (4607182418800017408 : UInt64)), .second, .val (.int (0 : Int32)), .val (.int (2 : Int32))] d10_53 rfl rfl ?_
    refine Go.aloadN 56 d10_55 rfl rfl rfl ?_
    refine Go.getf 59 (hw _ (List.mem_of_getElem? (i := 13) rfl)) H56.1.2.2.1 d10_56 rfl ?_
    refine Go.iloadN 60 d10_59 rfl rfl ?_
    refine Go.iaload 61 H56.2.2.1 (i := 1) (by decide) rfl d10_60 rfl ?_
    refine Go.istore 63 #[.val (.ref a), .val (.int (2 : Int32)), .val (.int (1 : Int32)), .val (.int (1 : Int32)), .val (.double (0 : UInt64)), .second, .val (.double (0 : UInt64)), .second, .val (.int (2 : Int32)), .val (.double (4607182418800017408 : UInt64)), .second, .val (.int (0 : Int32)), .val (.int (2 : Int32))] d10_61 rfl rfl ?_
    refine Go.iload 65 d10_63 rfl rfl ?_
    refine Go.aloadN 66 d10_65 rfl rfl rfl ?_
    refine Go.getf 69 (hw _ (List.mem_of_getElem? (i := 13) rfl)) H56.1.2.2.1 d10_66 rfl ?_
    refine Go.iloadN 70 d10_69 rfl rfl ?_
    refine Go.iconst 71 (1 : Int32) d10_70 rfl (by decide) ?_
    refine Go.iadd 72 (2 : Int32) d10_71 rfl (by decide) ?_
    refine Go.iaload 73 H56.2.2.1 (i := 2) (by decide) rfl d10_72 rfl ?_
    refine Go.icmpF 76 d10_73 rfl (show (2 : Int) < (4 : Int) from by decide) ?_
    refine Go.aloadN 77 d10_76 rfl rfl rfl ?_
    refine Go.getf 80 (hw _ (List.mem_of_getElem? (i := 18) rfl)) H56.1.2.2.2.2.1 d10_77 rfl ?_
    refine Go.iload 82 d10_80 rfl rfl ?_
    refine Go.iaload 83 H56.2.2.2.2.1 (i := 2) (by decide) rfl d10_82 rfl ?_
    refine Go.iloadN 84 d10_83 rfl rfl ?_
    refine Go.icmpT 102 d10_84 (by decide) (by decide) (show (0 : Int) ≠ (1 : Int) from by decide) ?_
    refine Go.dload 104 d10_102 rfl rfl ?_
    refine Go.aloadN 105 d10_104 rfl rfl rfl ?_
    refine Go.getf 108 (hw _ (List.mem_of_getElem? (i := 20) rfl)) H56.1.2.2.2.2.2.1 d10_105 rfl ?_
    refine Go.iload 110 d10_108 rfl rfl ?_
    refine Go.daload 111 H56.2.2.2.2.2.1 (i := 2) (by decide) rfl d10_110 rfl ?_
    refine Go.dadd 112 m1 d10_111 rfl qm1.1 qm1.2 ?_
    refine Go.dstore 114 #[.val (.ref a), .val (.int (2 : Int32)), .val (.int (1 : Int32)), .val (.int (1 : Int32)), .val (.double (0 : UInt64)), .second, .val (.double m1), .second, .val (.int (2 : Int32)), .val (.double (4607182418800017408 : UInt64)), .second, .val (.int (0 : Int32)), .val (.int (2 : Int32))] d10_112 rfl rfl ?_
    refine Go.iinc 117 #[.val (.ref a), .val (.int (2 : Int32)), .val (.int (1 : Int32)), .val (.int (1 : Int32)), .val (.double (0 : UInt64)), .second, .val (.double m1), .second, .val (.int (3 : Int32)), .val (.double (4607182418800017408 : UInt64)), .second, .val (.int (0 : Int32)), .val (.int (2 : Int32))] (3 : Int32) d10_114 rfl rfl (by decide) rfl ?_
    refine Go.goto 63 d10_117 (by decide) (by decide) ?_
    refine Go.iload 65 d10_63 rfl rfl ?_
    refine Go.aloadN 66 d10_65 rfl rfl rfl ?_
    refine Go.getf 69 (hw _ (List.mem_of_getElem? (i := 13) rfl)) H56.1.2.2.1 d10_66 rfl ?_
    refine Go.iloadN 70 d10_69 rfl rfl ?_
    refine Go.iconst 71 (1 : Int32) d10_70 rfl (by decide) ?_
    refine Go.iadd 72 (2 : Int32) d10_71 rfl (by decide) ?_
    refine Go.iaload 73 H56.2.2.1 (i := 2) (by decide) rfl d10_72 rfl ?_
    refine Go.icmpF 76 d10_73 rfl (show (3 : Int) < (4 : Int) from by decide) ?_
    refine Go.aloadN 77 d10_76 rfl rfl rfl ?_
    refine Go.getf 80 (hw _ (List.mem_of_getElem? (i := 18) rfl)) H56.1.2.2.2.2.1 d10_77 rfl ?_
    refine Go.iload 82 d10_80 rfl rfl ?_
    refine Go.iaload 83 H56.2.2.2.2.1 (i := 3) (by decide) rfl d10_82 rfl ?_
    refine Go.iloadN 84 d10_83 rfl rfl ?_
    refine Go.icmpF 87 d10_84 rfl (show (1 : Int) = (1 : Int) from by decide) ?_
    refine Go.dload 89 d10_87 rfl rfl ?_
    refine Go.aloadN 90 d10_89 rfl rfl rfl ?_
    refine Go.getf 93 (hw _ (List.mem_of_getElem? (i := 20) rfl)) H56.1.2.2.2.2.2.1 d10_90 rfl ?_
    refine Go.iload 95 d10_93 rfl rfl ?_
    refine Go.daload 96 H56.2.2.2.2.2.1 (i := 3) (by decide) rfl d10_95 rfl ?_
    refine Go.dadd 97 g1 d10_96 rfl qg1.1 qg1.2 ?_
    refine Go.dstore 99 #[.val (.ref a), .val (.int (2 : Int32)), .val (.int (1 : Int32)), .val (.int (1 : Int32)), .val (.double g1), .second, .val (.double m1), .second, .val (.int (3 : Int32)), .val (.double (4607182418800017408 : UInt64)), .second, .val (.int (0 : Int32)), .val (.int (2 : Int32))] d10_97 rfl rfl ?_
    refine Go.goto 114 d10_99 (by decide) (by decide) ?_
    refine Go.iinc 117 #[.val (.ref a), .val (.int (2 : Int32)), .val (.int (1 : Int32)), .val (.int (1 : Int32)), .val (.double g1), .second, .val (.double m1), .second, .val (.int (4 : Int32)), .val (.double (4607182418800017408 : UInt64)), .second, .val (.int (0 : Int32)), .val (.int (2 : Int32))] (4 : Int32) d10_114 rfl rfl (by decide) rfl ?_
    refine Go.goto 63 d10_117 (by decide) (by decide) ?_
    refine Go.iload 65 d10_63 rfl rfl ?_
    refine Go.aloadN 66 d10_65 rfl rfl rfl ?_
    refine Go.getf 69 (hw _ (List.mem_of_getElem? (i := 13) rfl)) H56.1.2.2.1 d10_66 rfl ?_
    refine Go.iloadN 70 d10_69 rfl rfl ?_
    refine Go.iconst 71 (1 : Int32) d10_70 rfl (by decide) ?_
    refine Go.iadd 72 (2 : Int32) d10_71 rfl (by decide) ?_
    refine Go.iaload 73 H56.2.2.1 (i := 2) (by decide) rfl d10_72 rfl ?_
    refine Go.icmpT 120 d10_73 (by decide) (by decide) (show (4 : Int) ≤ (4 : Int) from by decide) ?_
    refine Go.dload 122 d10_120 rfl rfl ?_
    refine Go.dconst0 123 (0 : UInt64) d10_122 rfl rfl ?_
    refine Go.dcmp 124 (sg (0 + A1) 0) d10_123 rfl (cmpQ dg1 (dq_zero 4) _) ?_
    have g139_1 : Go l Z ({ frames := 0, cells := 0, slots := 0, locals := 0 } : Room) ((⟨"com/example/orbifold/orbifold/solvers/BellmanSystem", "foldReturns", "()V"⟩ : MethodName), prog_167_method_28_code, 13, none) n0 (fun r h' => r = none ∧ ∃ k v fa_ fb fb1 fa1 k1 v1, DQ 0 (K * 1) k ∧ DQ 4 (V0 * 1) v ∧ DQ 4 (A0 * 1) fa_ ∧ DQ 4 (B0 * 1) fb ∧ DQ 4 (B1 * 1) fb1 ∧ DQ 4 (A1 * 1) fa1 ∧ BS Z n0 h' a ra ca ka la fa va (2 : Int32) (2 : Int32) (4 : Int32) (1 : Int32) ([(0 : Int32), (1 : Int32), (2 : Int32), rs3] ++ tI) ([(0 : Int32), (2 : Int32), (4 : Int32), cs3] ++ tI) ([k, k1, ks2, ks3] ++ tD) ([(0 : Int32), (1 : Int32), (0 : Int32), (1 : Int32)] ++ tI) ([fa_, fb, fb1, fa1] ++ tD) ([v, v1, vs2, vs3] ++ tD)) h56 0 0 139 #[.val (.ref a), .val (.int (2 : Int32)), .val (.int (1 : Int32)), .val (.int (1 : Int32)), .val (.double g1), .second, .val (.double m1), .second, .val (.int (4 : Int32)), .val (.double (4607182418800017408 : UInt64)), .second, .val (.int (0 : Int32)), .val (.int (2 : Int32))] [.int 0] := by
      refine Go.istore 141 #[.val (.ref a), .val (.int (2 : Int32)), .val (.int (1 : Int32)), .val (.int (1 : Int32)), .val (.double g1), .second, .val (.double m1), .second, .val (.int (0 : Int32)), .val (.double (4607182418800017408 : UInt64)), .second, .val (.int (0 : Int32)), .val (.int (2 : Int32))] d10_139 rfl rfl ?_
      refine Go.iload 143 d10_141 rfl rfl ?_
      refine Go.ifCT 153 d10_143 (by decide) (by decide) (show (0 : Int) = 0 from by decide) ?_
      refine Go.dconst1 154 (4607182418800017408 : UInt64) d10_153 rfl rfl ?_
      refine Go.dstore 156 #[.val (.ref a), .val (.int (2 : Int32)), .val (.int (1 : Int32)), .val (.int (1 : Int32)), .val (.double g1), .second, .val (.double m1), .second, .val (.int (0 : Int32)), .val (.double (4607182418800017408 : UInt64)), .second, .val (.int (0 : Int32)), .val (.int (2 : Int32))] d10_154 rfl rfl ?_
      refine Go.aloadN 157 d10_156 rfl rfl rfl ?_
      refine Go.getf 160 (hw _ (List.mem_of_getElem? (i := 16) rfl)) H56.1.2.2.2.1 d10_157 rfl ?_
      refine Go.iloadN 161 d10_160 rfl rfl ?_
      refine Go.dup2 162 d10_161 rfl rfl rfl ?_
      refine Go.daload 163 H56.2.2.2.1 (i := 1) (by decide) rfl d10_162 rfl ?_
      refine Go.dload 165 d10_163 rfl rfl ?_
      refine Go.dmul 166 ky1 d10_165 rfl qk1.1 qk1.2 ?_
      refine Go.dastore 167 H56.2.2.2.1 (i := 1) (by decide) (in4 (by decide)) (by have := H56.2.2.2.2.2.2.2; omega) d10_166 rfl ?_
      intro h57 K57 A57
      have H57 : BS Z n0 h57 a ra ca ka la fa va (2 : Int32) (2 : Int32) (4 : Int32) (1 : Int32) ([(0 : Int32), (1 : Int32), (2 : Int32), rs3] ++ tI) ([(0 : Int32), (2 : Int32), (4 : Int32), cs3] ++ tI) ([ky0, ky1, ks2, ks3] ++ tD) ([(0 : Int32), (1 : Int32), (0 : Int32), (1 : Int32)] ++ tI) ([fy_a0, fy_b0, fs2, fs3] ++ tD) ([vy0, (0 : UInt64), vs2, vs3] ++ tD) := H56.set_constants K57 A57
      refine Go.aloadN 168 d10_167 rfl rfl rfl ?_
      refine Go.getf 171 (hw _ (List.mem_of_getElem? (i := 22) rfl)) H57.1.2.2.2.2.2.2.1 d10_168 rfl ?_
      refine Go.iloadN 172 d10_171 rfl rfl ?_
      refine Go.dup2 173 d10_172 rfl rfl rfl ?_
      refine Go.daload 174 H57.2.2.2.2.2.2.1 (i := 1) (by decide) rfl d10_173 rfl ?_
      refine Go.dload 176 d10_174 rfl rfl ?_
      refine Go.dmul 177 vy1 d10_176 rfl qv1.1 qv1.2 ?_
      refine Go.dastore 178 H57.2.2.2.2.2.2.1 (i := 1) (by decide) (in4 (by decide)) (by have := H57.2.2.2.2.2.2.2; omega) d10_177 rfl ?_
      intro h58 K58 A58
      have H58 : BS Z n0 h58 a ra ca ka la fa va (2 : Int32) (2 : Int32) (4 : Int32) (1 : Int32) ([(0 : Int32), (1 : Int32), (2 : Int32), rs3] ++ tI) ([(0 : Int32), (2 : Int32), (4 : Int32), cs3] ++ tI) ([ky0, ky1, ks2, ks3] ++ tD) ([(0 : Int32), (1 : Int32), (0 : Int32), (1 : Int32)] ++ tI) ([fy_a0, fy_b0, fs2, fs3] ++ tD) ([vy0, vy1, vs2, vs3] ++ tD) := H57.set_leaving K58 A58
      refine Go.iloadN 179 d10_178 rfl rfl ?_
      refine Go.istore 181 #[.val (.ref a), .val (.int (2 : Int32)), .val (.int (1 : Int32)), .val (.int (1 : Int32)), .val (.double g1), .second, .val (.double m1), .second, .val (.int (0 : Int32)), .val (.double (4607182418800017408 : UInt64)), .second, .val (.int (2 : Int32)), .val (.int (2 : Int32))] d10_179 rfl rfl ?_
      refine Go.aloadN 182 d10_181 rfl rfl rfl ?_
      refine Go.getf 185 (hw _ (List.mem_of_getElem? (i := 13) rfl)) H58.1.2.2.1 d10_182 rfl ?_
      refine Go.iloadN 186 d10_185 rfl rfl ?_
      refine Go.iaload 187 H58.2.2.1 (i := 1) (by decide) rfl d10_186 rfl ?_
      refine Go.istore 189 #[.val (.ref a), .val (.int (2 : Int32)), .val (.int (1 : Int32)), .val (.int (1 : Int32)), .val (.double g1), .second, .val (.double m1), .second, .val (.int (0 : Int32)), .val (.double (4607182418800017408 : UInt64)), .second, .val (.int (2 : Int32)), .val (.int (2 : Int32))] d10_187 rfl rfl ?_
      refine Go.iload 191 d10_189 rfl rfl ?_
      refine Go.aloadN 192 d10_191 rfl rfl rfl ?_
      refine Go.getf 195 (hw _ (List.mem_of_getElem? (i := 13) rfl)) H58.1.2.2.1 d10_192 rfl ?_
      refine Go.iloadN 196 d10_195 rfl rfl ?_
      refine Go.iconst 197 (1 : Int32) d10_196 rfl (by decide) ?_
      refine Go.iadd 198 (2 : Int32) d10_197 rfl (by decide) ?_
      refine Go.iaload 199 H58.2.2.1 (i := 2) (by decide) rfl d10_198 rfl ?_
      refine Go.icmpF 202 d10_199 rfl (show (2 : Int) < (4 : Int) from by decide) ?_
      refine Go.iload 204 d10_202 rfl rfl ?_
      refine Go.ifCT 218 d10_204 (by decide) (by decide) (show (0 : Int) = 0 from by decide) ?_
      refine Go.aloadN 219 d10_218 rfl rfl rfl ?_
      refine Go.getf 222 (hw _ (List.mem_of_getElem? (i := 18) rfl)) H58.1.2.2.2.2.1 d10_219 rfl ?_
      refine Go.iloadN 223 d10_222 rfl rfl ?_
      refine Go.aloadN 224 d10_223 rfl rfl rfl ?_
      refine Go.getf 227 (hw _ (List.mem_of_getElem? (i := 18) rfl)) H58.1.2.2.2.2.1 d10_224 rfl ?_
      refine Go.iload 229 d10_227 rfl rfl ?_
      refine Go.iaload 230 H58.2.2.2.2.1 (i := 2) (by decide) rfl d10_229 rfl ?_
      refine Go.iastore 231 H58.2.2.2.2.1 (i := 2) (by decide) (in4 (by decide)) (by have := H58.2.2.2.2.2.2.2; omega) d10_230 rfl ?_
      intro h59 K59 A59
      have H59 : BS Z n0 h59 a ra ca ka la fa va (2 : Int32) (2 : Int32) (4 : Int32) (1 : Int32) ([(0 : Int32), (1 : Int32), (2 : Int32), rs3] ++ tI) ([(0 : Int32), (2 : Int32), (4 : Int32), cs3] ++ tI) ([ky0, ky1, ks2, ks3] ++ tD) ([(0 : Int32), (1 : Int32), (0 : Int32), (1 : Int32)] ++ tI) ([fy_a0, fy_b0, fs2, fs3] ++ tD) ([vy0, vy1, vs2, vs3] ++ tD) := H58.set_columns K59 A59
      refine Go.aloadN 232 d10_231 rfl rfl rfl ?_
      refine Go.getf 235 (hw _ (List.mem_of_getElem? (i := 20) rfl)) H59.1.2.2.2.2.2.1 d10_232 rfl ?_
      refine Go.iloadN 236 d10_235 rfl rfl ?_
      refine Go.aloadN 237 d10_236 rfl rfl rfl ?_
      refine Go.getf 240 (hw _ (List.mem_of_getElem? (i := 20) rfl)) H59.1.2.2.2.2.2.1 d10_237 rfl ?_
      refine Go.iload 242 d10_240 rfl rfl ?_
      refine Go.daload 243 H59.2.2.2.2.2.1 (i := 2) (by decide) rfl d10_242 rfl ?_
      refine Go.dload 245 d10_243 rfl rfl ?_
      refine Go.dmul 246 fy_b1 d10_245 rfl qf_b1.1 qf_b1.2 ?_
      refine Go.dastore 247 H59.2.2.2.2.2.1 (i := 2) (by decide) (in4 (by decide)) (by have := H59.2.2.2.2.2.2.2; omega) d10_246 rfl ?_
      intro h60 K60 A60
      have H60 : BS Z n0 h60 a ra ca ka la fa va (2 : Int32) (2 : Int32) (4 : Int32) (1 : Int32) ([(0 : Int32), (1 : Int32), (2 : Int32), rs3] ++ tI) ([(0 : Int32), (2 : Int32), (4 : Int32), cs3] ++ tI) ([ky0, ky1, ks2, ks3] ++ tD) ([(0 : Int32), (1 : Int32), (0 : Int32), (1 : Int32)] ++ tI) ([fy_a0, fy_b0, fy_b1, fs3] ++ tD) ([vy0, vy1, vs2, vs3] ++ tD) := H59.set_coefficients K60 A60
      refine Go.iinc 250 #[.val (.ref a), .val (.int (3 : Int32)), .val (.int (1 : Int32)), .val (.int (1 : Int32)), .val (.double g1), .second, .val (.double m1), .second, .val (.int (0 : Int32)), .val (.double (4607182418800017408 : UInt64)), .second, .val (.int (2 : Int32)), .val (.int (2 : Int32))] (3 : Int32) d10_247 rfl rfl (by decide) rfl ?_
      refine Go.iinc 253 #[.val (.ref a), .val (.int (3 : Int32)), .val (.int (1 : Int32)), .val (.int (1 : Int32)), .val (.double g1), .second, .val (.double m1), .second, .val (.int (0 : Int32)), .val (.double (4607182418800017408 : UInt64)), .second, .val (.int (2 : Int32)), .val (.int (3 : Int32))] (3 : Int32) d10_250 rfl rfl (by decide) rfl ?_
      refine Go.goto 189 d10_253 (by decide) (by decide) ?_
      refine Go.iload 191 d10_189 rfl rfl ?_
      refine Go.aloadN 192 d10_191 rfl rfl rfl ?_
      refine Go.getf 195 (hw _ (List.mem_of_getElem? (i := 13) rfl)) H60.1.2.2.1 d10_192 rfl ?_
      refine Go.iloadN 196 d10_195 rfl rfl ?_
      refine Go.iconst 197 (1 : Int32) d10_196 rfl (by decide) ?_
      refine Go.iadd 198 (2 : Int32) d10_197 rfl (by decide) ?_
      refine Go.iaload 199 H60.2.2.1 (i := 2) (by decide) rfl d10_198 rfl ?_
      refine Go.icmpF 202 d10_199 rfl (show (3 : Int) < (4 : Int) from by decide) ?_
      refine Go.iload 204 d10_202 rfl rfl ?_
      refine Go.ifCT 218 d10_204 (by decide) (by decide) (show (0 : Int) = 0 from by decide) ?_
      refine Go.aloadN 219 d10_218 rfl rfl rfl ?_
      refine Go.getf 222 (hw _ (List.mem_of_getElem? (i := 18) rfl)) H60.1.2.2.2.2.1 d10_219 rfl ?_
      refine Go.iloadN 223 d10_222 rfl rfl ?_
      refine Go.aloadN 224 d10_223 rfl rfl rfl ?_
      refine Go.getf 227 (hw _ (List.mem_of_getElem? (i := 18) rfl)) H60.1.2.2.2.2.1 d10_224 rfl ?_
      refine Go.iload 229 d10_227 rfl rfl ?_
      refine Go.iaload 230 H60.2.2.2.2.1 (i := 3) (by decide) rfl d10_229 rfl ?_
      refine Go.iastore 231 H60.2.2.2.2.1 (i := 3) (by decide) (in4 (by decide)) (by have := H60.2.2.2.2.2.2.2; omega) d10_230 rfl ?_
      intro h61 K61 A61
      have H61 : BS Z n0 h61 a ra ca ka la fa va (2 : Int32) (2 : Int32) (4 : Int32) (1 : Int32) ([(0 : Int32), (1 : Int32), (2 : Int32), rs3] ++ tI) ([(0 : Int32), (2 : Int32), (4 : Int32), cs3] ++ tI) ([ky0, ky1, ks2, ks3] ++ tD) ([(0 : Int32), (1 : Int32), (0 : Int32), (1 : Int32)] ++ tI) ([fy_a0, fy_b0, fy_b1, fs3] ++ tD) ([vy0, vy1, vs2, vs3] ++ tD) := H60.set_columns K61 A61
      refine Go.aloadN 232 d10_231 rfl rfl rfl ?_
      refine Go.getf 235 (hw _ (List.mem_of_getElem? (i := 20) rfl)) H61.1.2.2.2.2.2.1 d10_232 rfl ?_
      refine Go.iloadN 236 d10_235 rfl rfl ?_
      refine Go.aloadN 237 d10_236 rfl rfl rfl ?_
      refine Go.getf 240 (hw _ (List.mem_of_getElem? (i := 20) rfl)) H61.1.2.2.2.2.2.1 d10_237 rfl ?_
      refine Go.iload 242 d10_240 rfl rfl ?_
      refine Go.daload 243 H61.2.2.2.2.2.1 (i := 3) (by decide) rfl d10_242 rfl ?_
      refine Go.dload 245 d10_243 rfl rfl ?_
      refine Go.dmul 246 fy_a1 d10_245 rfl qf_a1.1 qf_a1.2 ?_
      refine Go.dastore 247 H61.2.2.2.2.2.1 (i := 3) (by decide) (in4 (by decide)) (by have := H61.2.2.2.2.2.2.2; omega) d10_246 rfl ?_
      intro h62 K62 A62
      have H62 : BS Z n0 h62 a ra ca ka la fa va (2 : Int32) (2 : Int32) (4 : Int32) (1 : Int32) ([(0 : Int32), (1 : Int32), (2 : Int32), rs3] ++ tI) ([(0 : Int32), (2 : Int32), (4 : Int32), cs3] ++ tI) ([ky0, ky1, ks2, ks3] ++ tD) ([(0 : Int32), (1 : Int32), (0 : Int32), (1 : Int32)] ++ tI) ([fy_a0, fy_b0, fy_b1, fy_a1] ++ tD) ([vy0, vy1, vs2, vs3] ++ tD) := H61.set_coefficients K62 A62
      refine Go.iinc 250 #[.val (.ref a), .val (.int (4 : Int32)), .val (.int (1 : Int32)), .val (.int (1 : Int32)), .val (.double g1), .second, .val (.double m1), .second, .val (.int (0 : Int32)), .val (.double (4607182418800017408 : UInt64)), .second, .val (.int (2 : Int32)), .val (.int (3 : Int32))] (4 : Int32) d10_247 rfl rfl (by decide) rfl ?_
      refine Go.iinc 253 #[.val (.ref a), .val (.int (4 : Int32)), .val (.int (1 : Int32)), .val (.int (1 : Int32)), .val (.double g1), .second, .val (.double m1), .second, .val (.int (0 : Int32)), .val (.double (4607182418800017408 : UInt64)), .second, .val (.int (2 : Int32)), .val (.int (4 : Int32))] (4 : Int32) d10_250 rfl rfl (by decide) rfl ?_
      refine Go.goto 189 d10_253 (by decide) (by decide) ?_
      refine Go.iload 191 d10_189 rfl rfl ?_
      refine Go.aloadN 192 d10_191 rfl rfl rfl ?_
      refine Go.getf 195 (hw _ (List.mem_of_getElem? (i := 13) rfl)) H62.1.2.2.1 d10_192 rfl ?_
      refine Go.iloadN 196 d10_195 rfl rfl ?_
      refine Go.iconst 197 (1 : Int32) d10_196 rfl (by decide) ?_
      refine Go.iadd 198 (2 : Int32) d10_197 rfl (by decide) ?_
      refine Go.iaload 199 H62.2.2.1 (i := 2) (by decide) rfl d10_198 rfl ?_
      refine Go.icmpT 256 d10_199 (by decide) (by decide) (show (4 : Int) ≤ (4 : Int) from by decide) ?_
      refine Go.aloadN 257 d10_256 rfl rfl rfl ?_
      refine Go.getf 260 (hw _ (List.mem_of_getElem? (i := 13) rfl)) H62.1.2.2.1 d10_257 rfl ?_
      refine Go.iloadN 261 d10_260 rfl rfl ?_
      refine Go.iload 263 d10_261 rfl rfl ?_
      refine Go.iastore 264 H62.2.2.1 (i := 1) (by decide) (in4 (by decide)) (by have := H62.2.2.2.2.2.2.2; omega) d10_263 rfl ?_
      intro h63 K63 A63
      have H63 : BS Z n0 h63 a ra ca ka la fa va (2 : Int32) (2 : Int32) (4 : Int32) (1 : Int32) ([(0 : Int32), (1 : Int32), (2 : Int32), rs3] ++ tI) ([(0 : Int32), (2 : Int32), (4 : Int32), cs3] ++ tI) ([ky0, ky1, ks2, ks3] ++ tD) ([(0 : Int32), (1 : Int32), (0 : Int32), (1 : Int32)] ++ tI) ([fy_a0, fy_b0, fy_b1, fy_a1] ++ tD) ([vy0, vy1, vs2, vs3] ++ tD) := H62.set_choiceStart K63 A63
      refine Go.iinc 267 #[.val (.ref a), .val (.int (4 : Int32)), .val (.int (1 : Int32)), .val (.int (2 : Int32)), .val (.double g1), .second, .val (.double m1), .second, .val (.int (0 : Int32)), .val (.double (4607182418800017408 : UInt64)), .second, .val (.int (2 : Int32)), .val (.int (4 : Int32))] (2 : Int32) d10_264 rfl rfl (by decide) rfl ?_
      refine Go.goto 32 d10_267 (by decide) (by decide) ?_
      refine Go.iloadN 33 d10_32 rfl rfl ?_
      refine Go.aloadN 34 d10_33 rfl rfl rfl ?_
      refine Go.getf 37 (hw _ (List.mem_of_getElem? (i := 11) rfl)) H63.1.2.1 d10_34 rfl ?_
      refine Go.iloadN 38 d10_37 rfl rfl ?_
      refine Go.iconst 39 (1 : Int32) d10_38 rfl (by decide) ?_
      refine Go.iadd 40 (2 : Int32) d10_39 rfl (by decide) ?_
      refine Go.iaload 41 H63.2.1 (i := 2) (by decide) rfl d10_40 rfl ?_
      refine Go.icmpT 270 d10_41 (by decide) (by decide) (show (2 : Int) ≤ (2 : Int) from by decide) ?_
      refine Go.iinc 273 #[.val (.ref a), .val (.int (4 : Int32)), .val (.int (2 : Int32)), .val (.int (2 : Int32)), .val (.double g1), .second, .val (.double m1), .second, .val (.int (0 : Int32)), .val (.double (4607182418800017408 : UInt64)), .second, .val (.int (2 : Int32)), .val (.int (4 : Int32))] (2 : Int32) d10_270 rfl rfl (by decide) rfl ?_
      refine Go.goto 17 d10_273 (by decide) (by decide) ?_
      refine Go.iloadN 18 d10_17 rfl rfl ?_
      refine Go.aloadN 19 d10_18 rfl rfl rfl ?_
      refine Go.getf 22 (hw _ (List.mem_of_getElem? (i := 29) rfl)) H63.1.2.2.2.2.2.2.2.1 d10_19 rfl ?_
      refine Go.icmpT 276 d10_22 (by decide) (by decide) (show (2 : Int) ≤ (2 : Int) from by decide) ?_
      refine Go.aloadN 277 d10_276 rfl rfl rfl ?_
      refine Go.getf 280 (hw _ (List.mem_of_getElem? (i := 13) rfl)) H63.1.2.2.1 d10_277 rfl ?_
      refine Go.aloadN 281 d10_280 rfl rfl rfl ?_
      refine Go.getf 284 (hw _ (List.mem_of_getElem? (i := 34) rfl)) H63.1.2.2.2.2.2.2.2.2.1 d10_281 rfl ?_
      refine Go.iloadN 285 d10_284 rfl rfl ?_
      refine Go.iastore 286 H63.2.2.1 (i := 2) (by decide) (in4 (by decide)) (by have := H63.2.2.2.2.2.2.2; omega) d10_285 rfl ?_
      intro h64 K64 A64
      have H64 : BS Z n0 h64 a ra ca ka la fa va (2 : Int32) (2 : Int32) (4 : Int32) (1 : Int32) ([(0 : Int32), (1 : Int32), (2 : Int32), rs3] ++ tI) ([(0 : Int32), (2 : Int32), (4 : Int32), cs3] ++ tI) ([ky0, ky1, ks2, ks3] ++ tD) ([(0 : Int32), (1 : Int32), (0 : Int32), (1 : Int32)] ++ tI) ([fy_a0, fy_b0, fy_b1, fy_a1] ++ tD) ([vy0, vy1, vs2, vs3] ++ tD) := H63.set_choiceStart K64 A64
      refine Go.aloadN 287 d10_286 rfl rfl rfl ?_
      refine Go.iloadN 288 d10_287 rfl rfl ?_
      refine Go.putF 291 (hw _ (List.mem_of_getElem? (i := 44) rfl)) H64.1.2.2.2.2.2.2.2.2.2.1 H64.1.1 (Or.inl (hw _ (List.mem_of_getElem? (i := 45) rfl))) (hw _ (List.mem_of_getElem? (i := 2) rfl)) (ty := .int) (by decide) rfl rfl (by have := H64.2.2.2.2.2.2.2; omega) d10_288 rfl ?_
      intro h65 W65
      have H65 : BS Z n0 h65 a ra ca ka la fa va (2 : Int32) (2 : Int32) (4 : Int32) (1 : Int32) ([(0 : Int32), (1 : Int32), (2 : Int32), rs3] ++ tI) ([(0 : Int32), (2 : Int32), (4 : Int32), cs3] ++ tI) ([ky0, ky1, ks2, ks3] ++ tD) ([(0 : Int32), (1 : Int32), (0 : Int32), (1 : Int32)] ++ tI) ([fy_a0, fy_b0, fy_b1, fy_a1] ++ tD) ([vy0, vy1, vs2, vs3] ++ tD) := H64.put_terms a0 hw W65
      exact Go.ret d10_291 rfl (by decide) (by decide) ⟨rfl, ky0, vy0, fy_a0, fy_b0, fy_b1, fy_a1, ky1, vy1, dk0, dv0, df_a0, df_b0, df_b1, df_a1, H65⟩
    refine Go.ifCB 138 127 d10_124 (by decide) (by decide) rfl (fun (hc : ((sg (0 + A1) 0)).toInt ≤ 0) => ?_) (fun (hc : 0 < ((sg (0 + A1) 0)).toInt) => ?_)
    · have := sg_cases (0 + A1) 0
      refine Go.iconst 139 (0 : Int32) d10_138 rfl (by decide) ?_
      exact g139_1
    · have := sg_cases (0 + A1) 0
      refine Go.dload 129 d10_127 rfl rfl ?_
      refine Go.dconst0 130 (0 : UInt64) d10_129 rfl rfl ?_
      refine Go.dcmp 131 (sg (0 + B1) 0) d10_130 rfl (cmpQ dm1 (dq_zero 4) _) ?_
      refine Go.ifCT 138 d10_131 (by decide) (by decide) (show ((sg (0 + B1) 0)).toInt ≤ 0 from by have := sg_cases (0 + B1) 0; omega) ?_
      refine Go.iconst 139 (0 : Int32) d10_138 rfl (by decide) ?_
      exact g139_1
  refine Go.ifCB 138 127 d10_124 (by decide) (by decide) rfl (fun (hc : ((sg (0 + A0) 0)).toInt ≤ 0) => ?_) (fun (hc : 0 < ((sg (0 + A0) 0)).toInt) => ?_)
  · have := sg_cases (0 + A0) 0
    refine Go.iconst 139 (0 : Int32) d10_138 rfl (by decide) ?_
    exact g139_0
  · have := sg_cases (0 + A0) 0
    refine Go.dload 129 d10_127 rfl rfl ?_
    refine Go.dconst0 130 (0 : UInt64) d10_129 rfl rfl ?_
    refine Go.dcmp 131 (sg (V0 + B0) 0) d10_130 rfl (cmpQ dm0 (dq_zero 4) _) ?_
    refine Go.ifCT 138 d10_131 (by decide) (by decide) (show ((sg (V0 + B0) 0)).toInt ≤ 0 from by have := sg_cases (V0 + B0) 0; omega) ?_
    refine Go.iconst 139 (0 : Int32) d10_138 rfl (by decide) ?_
    exact g139_0
set_option maxRecDepth 65536 in
set_option maxHeartbeats 40000000 in
theorem fold_01 (l : Launch) (Z : State) (a0 : Array Value) (hw : ∀ d ∈ tables_1, d.before a0 Z = true) {n0 : Nat} {h : Heap} {a ra ca ka la fa va : Nat} {tI : List Int32} {tD : List UInt64} (hTI : tI.length = 1020) (hTD : tD.length = 1020) {rs3 cs3 : Int32} {ks0 ks2 ks3 fs0 fs1 fs2 fs3 vs0 vs2 vs3 : UInt64} {K A0 B0 V0 B1 A1 : Int} (H : BS Z n0 h a ra ca ka la fa va (2 : Int32) (2 : Int32) (4 : Int32) (0 : Int32) ([(0 : Int32), (1 : Int32), (2 : Int32), rs3] ++ tI) ([(0 : Int32), (2 : Int32), (4 : Int32), cs3] ++ tI) ([ks0, (0 : UInt64), ks2, ks3] ++ tD) ([(0 : Int32), (1 : Int32), (0 : Int32), (1 : Int32)] ++ tI) ([fs0, fs1, fs2, fs3] ++ tD) ([vs0, (0 : UInt64), vs2, vs3] ++ tD))
    (dK : FP.Core.DInt K ks0) (bK : -2147483648 ≤ K ∧ K ≤ 2147483647) (dA0 : DQ 4 A0 fs0) (dB0 : DQ 4 B0 fs1) (dV0 : DQ 4 V0 vs0) (dB1 : DQ 4 B1 fs2) (dA1 : DQ 4 A1 fs3) (b1 : 0 ≤ A0 ∧ A0 ≤ 16) (b2 : 0 ≤ B0 ∧ B0 ≤ 16) (b3 : 0 ≤ V0 ∧ V0 ≤ 16) (b4 : 0 ≤ B1 ∧ B1 ≤ 16) (b5 : 0 ≤ A1 ∧ A1 ≤ 16) (h0 : ¬ (0 < A0 ∧ 0 < V0 + B0)) (h1 : 0 < A1 ∧ 0 < B1) {S1 : Int} (hS1 : 16 = S1 * (0 + B1)) (bS1 : 0 ≤ S1 ∧ S1 ≤ 16) :
    Go l Z ({ frames := 0, cells := 0, slots := 0, locals := 0 } : Room) ((⟨"com/example/orbifold/orbifold/solvers/BellmanSystem", "foldReturns", "()V"⟩ : MethodName), prog_167_method_28_code, 13, none) n0 (fun r h' => r = none ∧ ∃ k v fa_ fb fb1 fa1 k1 v1, DQ 0 (K * 1) k ∧ DQ 4 (V0 * 1) v ∧ DQ 4 (A0 * 1) fa_ ∧ DQ 4 (B0 * 1) fb ∧ DQ 4 (B1 * S1) fb1 ∧ DQ 4 (A1 * S1) fa1 ∧ BS Z n0 h' a ra ca ka la fa va (2 : Int32) (2 : Int32) (3 : Int32) (1 : Int32) ([(0 : Int32), (1 : Int32), (2 : Int32), rs3] ++ tI) ([(0 : Int32), (2 : Int32), (3 : Int32), cs3] ++ tI) ([k, k1, ks2, ks3] ++ tD) ([(0 : Int32), (1 : Int32), (0 : Int32), (1 : Int32)] ++ tI) ([fa_, fb, fb1, fs3] ++ tD) ([v, v1, vs2, vs3] ++ tD)) h 0 0 0 #[.val (.ref a), .unset, .unset, .unset, .unset, .unset, .unset, .unset, .unset, .unset, .unset, .unset, .unset] [] := by
  obtain ⟨g0, qg0, dg0⟩ := addQ (dq_zero 4) dA0 (by omega) (by decide)
  obtain ⟨m0, qm0, dm0⟩ := addQ dV0 dB0 (by omega) (by decide)
  obtain ⟨m1, qm1, dm1⟩ := addQ (dq_zero 4) dB1 (by omega) (by decide)
  obtain ⟨g1, qg1, dg1⟩ := addQ (dq_zero 4) dA1 (by omega) (by decide)
  have dsc0 := dq_of_int FP.Core.dint_one
  obtain ⟨sc1, qs1, dsc1⟩ := divQ (n := 0) (t := S1) (dq_of_int FP.Core.dint_one) dm1 (by omega) (by simpa using hS1) (by omega) (by decide)
  obtain ⟨ky0, qk0, dk0⟩ := mulQ (dq_of_int dK) dsc0 (by rw [Int.natAbs_mul]; exact Nat.lt_of_le_of_lt (Nat.mul_le_mul (show _ ≤ 2147483648 by omega) (show _ ≤ 16 by omega)) (by decide)) (by decide)
  obtain ⟨vy0, qv0, dv0⟩ := mulQ dV0 dsc0 (by rw [Int.natAbs_mul]; exact Nat.lt_of_le_of_lt (Nat.mul_le_mul (show _ ≤ 16 by omega) (show _ ≤ 16 by omega)) (by decide)) (by decide)
  obtain ⟨ky1, qk1, dk1⟩ := mulQ (dq_of_int dint_zero) dsc1 (by omega) (by decide)
  obtain ⟨vy1, qv1, dv1⟩ := mulQ (dq_of_int dint_zero) dsc1 (by omega) (by decide)
  obtain ⟨fy_a0, qf_a0, df_a0⟩ := mulQ dA0 dsc0 (by rw [Int.natAbs_mul]; exact Nat.lt_of_le_of_lt (Nat.mul_le_mul (show _ ≤ 16 by omega) (show _ ≤ 16 by omega)) (by decide)) (by decide)
  obtain ⟨fy_b0, qf_b0, df_b0⟩ := mulQ dB0 dsc0 (by rw [Int.natAbs_mul]; exact Nat.lt_of_le_of_lt (Nat.mul_le_mul (show _ ≤ 16 by omega) (show _ ≤ 16 by omega)) (by decide)) (by decide)
  obtain ⟨fy_b1, qf_b1, df_b1⟩ := mulQ dB1 dsc1 (by rw [Int.natAbs_mul]; exact Nat.lt_of_le_of_lt (Nat.mul_le_mul (show _ ≤ 16 by omega) (show _ ≤ 16 by omega)) (by decide)) (by decide)
  obtain ⟨fy_a1, qf_a1, df_a1⟩ := mulQ dA1 dsc1 (by rw [Int.natAbs_mul]; exact Nat.lt_of_le_of_lt (Nat.mul_le_mul (show _ ≤ 16 by omega) (show _ ≤ 16 by omega)) (by decide)) (by decide)
  refine Go.aloadN 1 d10_0 rfl rfl rfl ?_
  refine Go.getf 4 (hw _ (List.mem_of_getElem? (i := 66) rfl)) H.1.2.2.2.2.2.2.2.2.2.2 d10_1 rfl ?_
  refine Go.ifCT 8 d10_4 (by decide) (by decide) (show (0 : Int) = 0 from by decide) ?_
  refine Go.aloadN 9 d10_8 rfl rfl rfl ?_
  refine Go.iconst 10 (1 : Int32) d10_9 rfl (by decide) ?_
  refine Go.putF 13 (hw _ (List.mem_of_getElem? (i := 66) rfl)) H.1.2.2.2.2.2.2.2.2.2.2 H.1.1 (Or.inl (hw _ (List.mem_of_getElem? (i := 67) rfl))) (hw _ (List.mem_of_getElem? (i := 2) rfl)) (ty := .boolean) (by decide) rfl rfl (by have := H.2.2.2.2.2.2.2; omega) d10_10 rfl ?_
  intro h66 W66
  have H66 : BS Z n0 h66 a ra ca ka la fa va (2 : Int32) (2 : Int32) (4 : Int32) (1 : Int32) ([(0 : Int32), (1 : Int32), (2 : Int32), rs3] ++ tI) ([(0 : Int32), (2 : Int32), (4 : Int32), cs3] ++ tI) ([ks0, (0 : UInt64), ks2, ks3] ++ tD) ([(0 : Int32), (1 : Int32), (0 : Int32), (1 : Int32)] ++ tI) ([fs0, fs1, fs2, fs3] ++ tD) ([vs0, (0 : UInt64), vs2, vs3] ++ tD) := H.put_folded a0 hw W66
  refine Go.iconst 14 (0 : Int32) d10_13 rfl (by decide) ?_
  refine Go.istoreN 15 #[.val (.ref a), .val (.int (0 : Int32)), .unset, .unset, .unset, .unset, .unset, .unset, .unset, .unset, .unset, .unset, .unset] d10_14 rfl rfl ?_
  refine Go.iconst 16 (0 : Int32) d10_15 rfl (by decide) ?_
  refine Go.istoreN 17 #[.val (.ref a), .val (.int (0 : Int32)), .val (.int (0 : Int32)), .unset, .unset, .unset, .unset, .unset, .unset, .unset, .unset, .unset, .unset] d10_16 rfl rfl ?_
  refine Go.iloadN 18 d10_17 rfl rfl ?_
  refine Go.aloadN 19 d10_18 rfl rfl rfl ?_
  refine Go.getf 22 (hw _ (List.mem_of_getElem? (i := 29) rfl)) H66.1.2.2.2.2.2.2.2.1 d10_19 rfl ?_
  refine Go.icmpF 25 d10_22 rfl (show (0 : Int) < (2 : Int) from by decide) ?_
  refine Go.aloadN 26 d10_25 rfl rfl rfl ?_
  refine Go.getf 29 (hw _ (List.mem_of_getElem? (i := 11) rfl)) H66.1.2.1 d10_26 rfl ?_
  refine Go.iloadN 30 d10_29 rfl rfl ?_
  refine Go.iaload 31 H66.2.1 (i := 0) (by decide) rfl d10_30 rfl ?_
  refine Go.istoreN 32 #[.val (.ref a), .val (.int (0 : Int32)), .val (.int (0 : Int32)), .val (.int (0 : Int32)), .unset, .unset, .unset, .unset, .unset, .unset, .unset, .unset, .unset] d10_31 rfl rfl ?_
  refine Go.iloadN 33 d10_32 rfl rfl ?_
  refine Go.aloadN 34 d10_33 rfl rfl rfl ?_
  refine Go.getf 37 (hw _ (List.mem_of_getElem? (i := 11) rfl)) H66.1.2.1 d10_34 rfl ?_
  refine Go.iloadN 38 d10_37 rfl rfl ?_
  refine Go.iconst 39 (1 : Int32) d10_38 rfl (by decide) ?_
  refine Go.iadd 40 (1 : Int32) d10_39 rfl (by decide) ?_
  refine Go.iaload 41 H66.2.1 (i := 1) (by decide) rfl d10_40 rfl ?_
  refine Go.icmpF 44 d10_41 rfl (show (0 : Int) < (1 : Int) from by decide) ?_
  refine Go.dconst0 45 (0 : UInt64) d10_44 rfl rfl ?_
  refine Go.dstore 47 #[.val (.ref a), .val (.int (0 : Int32)), .val (.int (0 : Int32)), .val (.int (0 : Int32)), .val (.double (0 : UInt64)), .second, .unset, .unset, .unset, .unset, .unset, .unset, .unset] d10_45 rfl rfl ?_
  refine Go.aloadN 48 d10_47 rfl rfl rfl ?_
  refine Go.getf 51 (hw _ (List.mem_of_getElem? (i := 22) rfl)) H66.1.2.2.2.2.2.2.1 d10_48 rfl ?_
  refine Go.iloadN 52 d10_51 rfl rfl ?_
  refine Go.daload 53 H66.2.2.2.2.2.2.1 (i := 0) (by decide) rfl d10_52 rfl ?_
  refine Go.dstore 55 #[.val (.ref a), .val (.int (0 : Int32)), .val (.int (0 : Int32)), .val (.int (0 : Int32)), .val (.double (0 : UInt64)), .second, .val (.double vs0), .second, .unset, .unset, .unset, .unset, .unset] d10_53 rfl rfl ?_
  refine Go.aloadN 56 d10_55 rfl rfl rfl ?_
  refine Go.getf 59 (hw _ (List.mem_of_getElem? (i := 13) rfl)) H66.1.2.2.1 d10_56 rfl ?_
  refine Go.iloadN 60 d10_59 rfl rfl ?_
  refine Go.iaload 61 H66.2.2.1 (i := 0) (by decide) rfl d10_60 rfl ?_
  refine Go.istore 63 #[.val (.ref a), .val (.int (0 : Int32)), .val (.int (0 : Int32)), .val (.int (0 : Int32)), .val (.double (0 : UInt64)), .second, .val (.double vs0), .second, .val (.int (0 : Int32)), .unset, .unset, .unset, .unset] d10_61 rfl rfl ?_
  refine Go.iload 65 d10_63 rfl rfl ?_
  refine Go.aloadN 66 d10_65 rfl rfl rfl ?_
  refine Go.getf 69 (hw _ (List.mem_of_getElem? (i := 13) rfl)) H66.1.2.2.1 d10_66 rfl ?_
  refine Go.iloadN 70 d10_69 rfl rfl ?_
  refine Go.iconst 71 (1 : Int32) d10_70 rfl (by decide) ?_
  refine Go.iadd 72 (1 : Int32) d10_71 rfl (by decide) ?_
  refine Go.iaload 73 H66.2.2.1 (i := 1) (by decide) rfl d10_72 rfl ?_
  refine Go.icmpF 76 d10_73 rfl (show (0 : Int) < (2 : Int) from by decide) ?_
  refine Go.aloadN 77 d10_76 rfl rfl rfl ?_
  refine Go.getf 80 (hw _ (List.mem_of_getElem? (i := 18) rfl)) H66.1.2.2.2.2.1 d10_77 rfl ?_
  refine Go.iload 82 d10_80 rfl rfl ?_
  refine Go.iaload 83 H66.2.2.2.2.1 (i := 0) (by decide) rfl d10_82 rfl ?_
  refine Go.iloadN 84 d10_83 rfl rfl ?_
  refine Go.icmpF 87 d10_84 rfl (show (0 : Int) = (0 : Int) from by decide) ?_
  refine Go.dload 89 d10_87 rfl rfl ?_
  refine Go.aloadN 90 d10_89 rfl rfl rfl ?_
  refine Go.getf 93 (hw _ (List.mem_of_getElem? (i := 20) rfl)) H66.1.2.2.2.2.2.1 d10_90 rfl ?_
  refine Go.iload 95 d10_93 rfl rfl ?_
  refine Go.daload 96 H66.2.2.2.2.2.1 (i := 0) (by decide) rfl d10_95 rfl ?_
  refine Go.dadd 97 g0 d10_96 rfl qg0.1 qg0.2 ?_
  refine Go.dstore 99 #[.val (.ref a), .val (.int (0 : Int32)), .val (.int (0 : Int32)), .val (.int (0 : Int32)), .val (.double g0), .second, .val (.double vs0), .second, .val (.int (0 : Int32)), .unset, .unset, .unset, .unset] d10_97 rfl rfl ?_
  refine Go.goto 114 d10_99 (by decide) (by decide) ?_
  refine Go.iinc 117 #[.val (.ref a), .val (.int (0 : Int32)), .val (.int (0 : Int32)), .val (.int (0 : Int32)), .val (.double g0), .second, .val (.double vs0), .second, .val (.int (1 : Int32)), .unset, .unset, .unset, .unset] (1 : Int32) d10_114 rfl rfl (by decide) rfl ?_
  refine Go.goto 63 d10_117 (by decide) (by decide) ?_
  refine Go.iload 65 d10_63 rfl rfl ?_
  refine Go.aloadN 66 d10_65 rfl rfl rfl ?_
  refine Go.getf 69 (hw _ (List.mem_of_getElem? (i := 13) rfl)) H66.1.2.2.1 d10_66 rfl ?_
  refine Go.iloadN 70 d10_69 rfl rfl ?_
  refine Go.iconst 71 (1 : Int32) d10_70 rfl (by decide) ?_
  refine Go.iadd 72 (1 : Int32) d10_71 rfl (by decide) ?_
  refine Go.iaload 73 H66.2.2.1 (i := 1) (by decide) rfl d10_72 rfl ?_
  refine Go.icmpF 76 d10_73 rfl (show (1 : Int) < (2 : Int) from by decide) ?_
  refine Go.aloadN 77 d10_76 rfl rfl rfl ?_
  refine Go.getf 80 (hw _ (List.mem_of_getElem? (i := 18) rfl)) H66.1.2.2.2.2.1 d10_77 rfl ?_
  refine Go.iload 82 d10_80 rfl rfl ?_
  refine Go.iaload 83 H66.2.2.2.2.1 (i := 1) (by decide) rfl d10_82 rfl ?_
  refine Go.iloadN 84 d10_83 rfl rfl ?_
  refine Go.icmpT 102 d10_84 (by decide) (by decide) (show (1 : Int) ≠ (0 : Int) from by decide) ?_
  refine Go.dload 104 d10_102 rfl rfl ?_
  refine Go.aloadN 105 d10_104 rfl rfl rfl ?_
  refine Go.getf 108 (hw _ (List.mem_of_getElem? (i := 20) rfl)) H66.1.2.2.2.2.2.1 d10_105 rfl ?_
  refine Go.iload 110 d10_108 rfl rfl ?_
  refine Go.daload 111 H66.2.2.2.2.2.1 (i := 1) (by decide) rfl d10_110 rfl ?_
  refine Go.dadd 112 m0 d10_111 rfl qm0.1 qm0.2 ?_
  refine Go.dstore 114 #[.val (.ref a), .val (.int (0 : Int32)), .val (.int (0 : Int32)), .val (.int (0 : Int32)), .val (.double g0), .second, .val (.double m0), .second, .val (.int (1 : Int32)), .unset, .unset, .unset, .unset] d10_112 rfl rfl ?_
  refine Go.iinc 117 #[.val (.ref a), .val (.int (0 : Int32)), .val (.int (0 : Int32)), .val (.int (0 : Int32)), .val (.double g0), .second, .val (.double m0), .second, .val (.int (2 : Int32)), .unset, .unset, .unset, .unset] (2 : Int32) d10_114 rfl rfl (by decide) rfl ?_
  refine Go.goto 63 d10_117 (by decide) (by decide) ?_
  refine Go.iload 65 d10_63 rfl rfl ?_
  refine Go.aloadN 66 d10_65 rfl rfl rfl ?_
  refine Go.getf 69 (hw _ (List.mem_of_getElem? (i := 13) rfl)) H66.1.2.2.1 d10_66 rfl ?_
  refine Go.iloadN 70 d10_69 rfl rfl ?_
  refine Go.iconst 71 (1 : Int32) d10_70 rfl (by decide) ?_
  refine Go.iadd 72 (1 : Int32) d10_71 rfl (by decide) ?_
  refine Go.iaload 73 H66.2.2.1 (i := 1) (by decide) rfl d10_72 rfl ?_
  refine Go.icmpT 120 d10_73 (by decide) (by decide) (show (2 : Int) ≤ (2 : Int) from by decide) ?_
  refine Go.dload 122 d10_120 rfl rfl ?_
  refine Go.dconst0 123 (0 : UInt64) d10_122 rfl rfl ?_
  refine Go.dcmp 124 (sg (0 + A0) 0) d10_123 rfl (cmpQ dg0 (dq_zero 4) _) ?_
  have g139_0 : Go l Z ({ frames := 0, cells := 0, slots := 0, locals := 0 } : Room) ((⟨"com/example/orbifold/orbifold/solvers/BellmanSystem", "foldReturns", "()V"⟩ : MethodName), prog_167_method_28_code, 13, none) n0 (fun r h' => r = none ∧ ∃ k v fa_ fb fb1 fa1 k1 v1, DQ 0 (K * 1) k ∧ DQ 4 (V0 * 1) v ∧ DQ 4 (A0 * 1) fa_ ∧ DQ 4 (B0 * 1) fb ∧ DQ 4 (B1 * S1) fb1 ∧ DQ 4 (A1 * S1) fa1 ∧ BS Z n0 h' a ra ca ka la fa va (2 : Int32) (2 : Int32) (3 : Int32) (1 : Int32) ([(0 : Int32), (1 : Int32), (2 : Int32), rs3] ++ tI) ([(0 : Int32), (2 : Int32), (3 : Int32), cs3] ++ tI) ([k, k1, ks2, ks3] ++ tD) ([(0 : Int32), (1 : Int32), (0 : Int32), (1 : Int32)] ++ tI) ([fa_, fb, fb1, fs3] ++ tD) ([v, v1, vs2, vs3] ++ tD)) h66 0 0 139 #[.val (.ref a), .val (.int (0 : Int32)), .val (.int (0 : Int32)), .val (.int (0 : Int32)), .val (.double g0), .second, .val (.double m0), .second, .val (.int (2 : Int32)), .unset, .unset, .unset, .unset] [.int 0] := by
    refine Go.istore 141 #[.val (.ref a), .val (.int (0 : Int32)), .val (.int (0 : Int32)), .val (.int (0 : Int32)), .val (.double g0), .second, .val (.double m0), .second, .val (.int (0 : Int32)), .unset, .unset, .unset, .unset] d10_139 rfl rfl ?_
    refine Go.iload 143 d10_141 rfl rfl ?_
    refine Go.ifCT 153 d10_143 (by decide) (by decide) (show (0 : Int) = 0 from by decide) ?_
    refine Go.dconst1 154 (4607182418800017408 : UInt64) d10_153 rfl rfl ?_
    refine Go.dstore 156 #[.val (.ref a), .val (.int (0 : Int32)), .val (.int (0 : Int32)), .val (.int (0 : Int32)), .val (.double g0), .second, .val (.double m0), .second, .val (.int (0 : Int32)), .val (.double (4607182418800017408 : UInt64)), .second, .unset, .unset] d10_154 rfl rfl ?_
    refine Go.aloadN 157 d10_156 rfl rfl rfl ?_
    refine Go.getf 160 (hw _ (List.mem_of_getElem? (i := 16) rfl)) H66.1.2.2.2.1 d10_157 rfl ?_
    refine Go.iloadN 161 d10_160 rfl rfl ?_
    refine Go.dup2 162 d10_161 rfl rfl rfl ?_
    refine Go.daload 163 H66.2.2.2.1 (i := 0) (by decide) rfl d10_162 rfl ?_
    refine Go.dload 165 d10_163 rfl rfl ?_
    refine Go.dmul 166 ky0 d10_165 rfl qk0.1 qk0.2 ?_
    refine Go.dastore 167 H66.2.2.2.1 (i := 0) (by decide) (in4 (by decide)) (by have := H66.2.2.2.2.2.2.2; omega) d10_166 rfl ?_
    intro h67 K67 A67
    have H67 : BS Z n0 h67 a ra ca ka la fa va (2 : Int32) (2 : Int32) (4 : Int32) (1 : Int32) ([(0 : Int32), (1 : Int32), (2 : Int32), rs3] ++ tI) ([(0 : Int32), (2 : Int32), (4 : Int32), cs3] ++ tI) ([ky0, (0 : UInt64), ks2, ks3] ++ tD) ([(0 : Int32), (1 : Int32), (0 : Int32), (1 : Int32)] ++ tI) ([fs0, fs1, fs2, fs3] ++ tD) ([vs0, (0 : UInt64), vs2, vs3] ++ tD) := H66.set_constants K67 A67
    refine Go.aloadN 168 d10_167 rfl rfl rfl ?_
    refine Go.getf 171 (hw _ (List.mem_of_getElem? (i := 22) rfl)) H67.1.2.2.2.2.2.2.1 d10_168 rfl ?_
    refine Go.iloadN 172 d10_171 rfl rfl ?_
    refine Go.dup2 173 d10_172 rfl rfl rfl ?_
    refine Go.daload 174 H67.2.2.2.2.2.2.1 (i := 0) (by decide) rfl d10_173 rfl ?_
    refine Go.dload 176 d10_174 rfl rfl ?_
    refine Go.dmul 177 vy0 d10_176 rfl qv0.1 qv0.2 ?_
    refine Go.dastore 178 H67.2.2.2.2.2.2.1 (i := 0) (by decide) (in4 (by decide)) (by have := H67.2.2.2.2.2.2.2; omega) d10_177 rfl ?_
    intro h68 K68 A68
    have H68 : BS Z n0 h68 a ra ca ka la fa va (2 : Int32) (2 : Int32) (4 : Int32) (1 : Int32) ([(0 : Int32), (1 : Int32), (2 : Int32), rs3] ++ tI) ([(0 : Int32), (2 : Int32), (4 : Int32), cs3] ++ tI) ([ky0, (0 : UInt64), ks2, ks3] ++ tD) ([(0 : Int32), (1 : Int32), (0 : Int32), (1 : Int32)] ++ tI) ([fs0, fs1, fs2, fs3] ++ tD) ([vy0, (0 : UInt64), vs2, vs3] ++ tD) := H67.set_leaving K68 A68
    refine Go.iloadN 179 d10_178 rfl rfl ?_
    refine Go.istore 181 #[.val (.ref a), .val (.int (0 : Int32)), .val (.int (0 : Int32)), .val (.int (0 : Int32)), .val (.double g0), .second, .val (.double m0), .second, .val (.int (0 : Int32)), .val (.double (4607182418800017408 : UInt64)), .second, .val (.int (0 : Int32)), .unset] d10_179 rfl rfl ?_
    refine Go.aloadN 182 d10_181 rfl rfl rfl ?_
    refine Go.getf 185 (hw _ (List.mem_of_getElem? (i := 13) rfl)) H68.1.2.2.1 d10_182 rfl ?_
    refine Go.iloadN 186 d10_185 rfl rfl ?_
    refine Go.iaload 187 H68.2.2.1 (i := 0) (by decide) rfl d10_186 rfl ?_
    refine Go.istore 189 #[.val (.ref a), .val (.int (0 : Int32)), .val (.int (0 : Int32)), .val (.int (0 : Int32)), .val (.double g0), .second, .val (.double m0), .second, .val (.int (0 : Int32)), .val (.double (4607182418800017408 : UInt64)), .second, .val (.int (0 : Int32)), .val (.int (0 : Int32))] d10_187 rfl rfl ?_
    refine Go.iload 191 d10_189 rfl rfl ?_
    refine Go.aloadN 192 d10_191 rfl rfl rfl ?_
    refine Go.getf 195 (hw _ (List.mem_of_getElem? (i := 13) rfl)) H68.1.2.2.1 d10_192 rfl ?_
    refine Go.iloadN 196 d10_195 rfl rfl ?_
    refine Go.iconst 197 (1 : Int32) d10_196 rfl (by decide) ?_
    refine Go.iadd 198 (1 : Int32) d10_197 rfl (by decide) ?_
    refine Go.iaload 199 H68.2.2.1 (i := 1) (by decide) rfl d10_198 rfl ?_
    refine Go.icmpF 202 d10_199 rfl (show (0 : Int) < (2 : Int) from by decide) ?_
    refine Go.iload 204 d10_202 rfl rfl ?_
    refine Go.ifCT 218 d10_204 (by decide) (by decide) (show (0 : Int) = 0 from by decide) ?_
    refine Go.aloadN 219 d10_218 rfl rfl rfl ?_
    refine Go.getf 222 (hw _ (List.mem_of_getElem? (i := 18) rfl)) H68.1.2.2.2.2.1 d10_219 rfl ?_
    refine Go.iloadN 223 d10_222 rfl rfl ?_
    refine Go.aloadN 224 d10_223 rfl rfl rfl ?_
    refine Go.getf 227 (hw _ (List.mem_of_getElem? (i := 18) rfl)) H68.1.2.2.2.2.1 d10_224 rfl ?_
    refine Go.iload 229 d10_227 rfl rfl ?_
    refine Go.iaload 230 H68.2.2.2.2.1 (i := 0) (by decide) rfl d10_229 rfl ?_
    refine Go.iastore 231 H68.2.2.2.2.1 (i := 0) (by decide) (in4 (by decide)) (by have := H68.2.2.2.2.2.2.2; omega) d10_230 rfl ?_
    intro h69 K69 A69
    have H69 : BS Z n0 h69 a ra ca ka la fa va (2 : Int32) (2 : Int32) (4 : Int32) (1 : Int32) ([(0 : Int32), (1 : Int32), (2 : Int32), rs3] ++ tI) ([(0 : Int32), (2 : Int32), (4 : Int32), cs3] ++ tI) ([ky0, (0 : UInt64), ks2, ks3] ++ tD) ([(0 : Int32), (1 : Int32), (0 : Int32), (1 : Int32)] ++ tI) ([fs0, fs1, fs2, fs3] ++ tD) ([vy0, (0 : UInt64), vs2, vs3] ++ tD) := H68.set_columns K69 A69
    refine Go.aloadN 232 d10_231 rfl rfl rfl ?_
    refine Go.getf 235 (hw _ (List.mem_of_getElem? (i := 20) rfl)) H69.1.2.2.2.2.2.1 d10_232 rfl ?_
    refine Go.iloadN 236 d10_235 rfl rfl ?_
    refine Go.aloadN 237 d10_236 rfl rfl rfl ?_
    refine Go.getf 240 (hw _ (List.mem_of_getElem? (i := 20) rfl)) H69.1.2.2.2.2.2.1 d10_237 rfl ?_
    refine Go.iload 242 d10_240 rfl rfl ?_
    refine Go.daload 243 H69.2.2.2.2.2.1 (i := 0) (by decide) rfl d10_242 rfl ?_
    refine Go.dload 245 d10_243 rfl rfl ?_
    refine Go.dmul 246 fy_a0 d10_245 rfl qf_a0.1 qf_a0.2 ?_
    refine Go.dastore 247 H69.2.2.2.2.2.1 (i := 0) (by decide) (in4 (by decide)) (by have := H69.2.2.2.2.2.2.2; omega) d10_246 rfl ?_
    intro h70 K70 A70
    have H70 : BS Z n0 h70 a ra ca ka la fa va (2 : Int32) (2 : Int32) (4 : Int32) (1 : Int32) ([(0 : Int32), (1 : Int32), (2 : Int32), rs3] ++ tI) ([(0 : Int32), (2 : Int32), (4 : Int32), cs3] ++ tI) ([ky0, (0 : UInt64), ks2, ks3] ++ tD) ([(0 : Int32), (1 : Int32), (0 : Int32), (1 : Int32)] ++ tI) ([fy_a0, fs1, fs2, fs3] ++ tD) ([vy0, (0 : UInt64), vs2, vs3] ++ tD) := H69.set_coefficients K70 A70
    refine Go.iinc 250 #[.val (.ref a), .val (.int (1 : Int32)), .val (.int (0 : Int32)), .val (.int (0 : Int32)), .val (.double g0), .second, .val (.double m0), .second, .val (.int (0 : Int32)), .val (.double (4607182418800017408 : UInt64)), .second, .val (.int (0 : Int32)), .val (.int (0 : Int32))] (1 : Int32) d10_247 rfl rfl (by decide) rfl ?_
    refine Go.iinc 253 #[.val (.ref a), .val (.int (1 : Int32)), .val (.int (0 : Int32)), .val (.int (0 : Int32)), .val (.double g0), .second, .val (.double m0), .second, .val (.int (0 : Int32)), .val (.double (4607182418800017408 : UInt64)), .second, .val (.int (0 : Int32)), .val (.int (1 : Int32))] (1 : Int32) d10_250 rfl rfl (by decide) rfl ?_
    refine Go.goto 189 d10_253 (by decide) (by decide) ?_
    refine Go.iload 191 d10_189 rfl rfl ?_
    refine Go.aloadN 192 d10_191 rfl rfl rfl ?_
    refine Go.getf 195 (hw _ (List.mem_of_getElem? (i := 13) rfl)) H70.1.2.2.1 d10_192 rfl ?_
    refine Go.iloadN 196 d10_195 rfl rfl ?_
    refine Go.iconst 197 (1 : Int32) d10_196 rfl (by decide) ?_
    refine Go.iadd 198 (1 : Int32) d10_197 rfl (by decide) ?_
    refine Go.iaload 199 H70.2.2.1 (i := 1) (by decide) rfl d10_198 rfl ?_
    refine Go.icmpF 202 d10_199 rfl (show (1 : Int) < (2 : Int) from by decide) ?_
    refine Go.iload 204 d10_202 rfl rfl ?_
    refine Go.ifCT 218 d10_204 (by decide) (by decide) (show (0 : Int) = 0 from by decide) ?_
    refine Go.aloadN 219 d10_218 rfl rfl rfl ?_
    refine Go.getf 222 (hw _ (List.mem_of_getElem? (i := 18) rfl)) H70.1.2.2.2.2.1 d10_219 rfl ?_
    refine Go.iloadN 223 d10_222 rfl rfl ?_
    refine Go.aloadN 224 d10_223 rfl rfl rfl ?_
    refine Go.getf 227 (hw _ (List.mem_of_getElem? (i := 18) rfl)) H70.1.2.2.2.2.1 d10_224 rfl ?_
    refine Go.iload 229 d10_227 rfl rfl ?_
    refine Go.iaload 230 H70.2.2.2.2.1 (i := 1) (by decide) rfl d10_229 rfl ?_
    refine Go.iastore 231 H70.2.2.2.2.1 (i := 1) (by decide) (in4 (by decide)) (by have := H70.2.2.2.2.2.2.2; omega) d10_230 rfl ?_
    intro h71 K71 A71
    have H71 : BS Z n0 h71 a ra ca ka la fa va (2 : Int32) (2 : Int32) (4 : Int32) (1 : Int32) ([(0 : Int32), (1 : Int32), (2 : Int32), rs3] ++ tI) ([(0 : Int32), (2 : Int32), (4 : Int32), cs3] ++ tI) ([ky0, (0 : UInt64), ks2, ks3] ++ tD) ([(0 : Int32), (1 : Int32), (0 : Int32), (1 : Int32)] ++ tI) ([fy_a0, fs1, fs2, fs3] ++ tD) ([vy0, (0 : UInt64), vs2, vs3] ++ tD) := H70.set_columns K71 A71
    refine Go.aloadN 232 d10_231 rfl rfl rfl ?_
    refine Go.getf 235 (hw _ (List.mem_of_getElem? (i := 20) rfl)) H71.1.2.2.2.2.2.1 d10_232 rfl ?_
    refine Go.iloadN 236 d10_235 rfl rfl ?_
    refine Go.aloadN 237 d10_236 rfl rfl rfl ?_
    refine Go.getf 240 (hw _ (List.mem_of_getElem? (i := 20) rfl)) H71.1.2.2.2.2.2.1 d10_237 rfl ?_
    refine Go.iload 242 d10_240 rfl rfl ?_
    refine Go.daload 243 H71.2.2.2.2.2.1 (i := 1) (by decide) rfl d10_242 rfl ?_
    refine Go.dload 245 d10_243 rfl rfl ?_
    refine Go.dmul 246 fy_b0 d10_245 rfl qf_b0.1 qf_b0.2 ?_
    refine Go.dastore 247 H71.2.2.2.2.2.1 (i := 1) (by decide) (in4 (by decide)) (by have := H71.2.2.2.2.2.2.2; omega) d10_246 rfl ?_
    intro h72 K72 A72
    have H72 : BS Z n0 h72 a ra ca ka la fa va (2 : Int32) (2 : Int32) (4 : Int32) (1 : Int32) ([(0 : Int32), (1 : Int32), (2 : Int32), rs3] ++ tI) ([(0 : Int32), (2 : Int32), (4 : Int32), cs3] ++ tI) ([ky0, (0 : UInt64), ks2, ks3] ++ tD) ([(0 : Int32), (1 : Int32), (0 : Int32), (1 : Int32)] ++ tI) ([fy_a0, fy_b0, fs2, fs3] ++ tD) ([vy0, (0 : UInt64), vs2, vs3] ++ tD) := H71.set_coefficients K72 A72
    refine Go.iinc 250 #[.val (.ref a), .val (.int (2 : Int32)), .val (.int (0 : Int32)), .val (.int (0 : Int32)), .val (.double g0), .second, .val (.double m0), .second, .val (.int (0 : Int32)), .val (.double (4607182418800017408 : UInt64)), .second, .val (.int (0 : Int32)), .val (.int (1 : Int32))] (2 : Int32) d10_247 rfl rfl (by decide) rfl ?_
    refine Go.iinc 253 #[.val (.ref a), .val (.int (2 : Int32)), .val (.int (0 : Int32)), .val (.int (0 : Int32)), .val (.double g0), .second, .val (.double m0), .second, .val (.int (0 : Int32)), .val (.double (4607182418800017408 : UInt64)), .second, .val (.int (0 : Int32)), .val (.int (2 : Int32))] (2 : Int32) d10_250 rfl rfl (by decide) rfl ?_
    refine Go.goto 189 d10_253 (by decide) (by decide) ?_
    refine Go.iload 191 d10_189 rfl rfl ?_
    refine Go.aloadN 192 d10_191 rfl rfl rfl ?_
    refine Go.getf 195 (hw _ (List.mem_of_getElem? (i := 13) rfl)) H72.1.2.2.1 d10_192 rfl ?_
    refine Go.iloadN 196 d10_195 rfl rfl ?_
    refine Go.iconst 197 (1 : Int32) d10_196 rfl (by decide) ?_
    refine Go.iadd 198 (1 : Int32) d10_197 rfl (by decide) ?_
    refine Go.iaload 199 H72.2.2.1 (i := 1) (by decide) rfl d10_198 rfl ?_
    refine Go.icmpT 256 d10_199 (by decide) (by decide) (show (2 : Int) ≤ (2 : Int) from by decide) ?_
    refine Go.aloadN 257 d10_256 rfl rfl rfl ?_
    refine Go.getf 260 (hw _ (List.mem_of_getElem? (i := 13) rfl)) H72.1.2.2.1 d10_257 rfl ?_
    refine Go.iloadN 261 d10_260 rfl rfl ?_
    refine Go.iload 263 d10_261 rfl rfl ?_
    refine Go.iastore 264 H72.2.2.1 (i := 0) (by decide) (in4 (by decide)) (by have := H72.2.2.2.2.2.2.2; omega) d10_263 rfl ?_
    intro h73 K73 A73
    have H73 : BS Z n0 h73 a ra ca ka la fa va (2 : Int32) (2 : Int32) (4 : Int32) (1 : Int32) ([(0 : Int32), (1 : Int32), (2 : Int32), rs3] ++ tI) ([(0 : Int32), (2 : Int32), (4 : Int32), cs3] ++ tI) ([ky0, (0 : UInt64), ks2, ks3] ++ tD) ([(0 : Int32), (1 : Int32), (0 : Int32), (1 : Int32)] ++ tI) ([fy_a0, fy_b0, fs2, fs3] ++ tD) ([vy0, (0 : UInt64), vs2, vs3] ++ tD) := H72.set_choiceStart K73 A73
    refine Go.iinc 267 #[.val (.ref a), .val (.int (2 : Int32)), .val (.int (0 : Int32)), .val (.int (1 : Int32)), .val (.double g0), .second, .val (.double m0), .second, .val (.int (0 : Int32)), .val (.double (4607182418800017408 : UInt64)), .second, .val (.int (0 : Int32)), .val (.int (2 : Int32))] (1 : Int32) d10_264 rfl rfl (by decide) rfl ?_
    refine Go.goto 32 d10_267 (by decide) (by decide) ?_
    refine Go.iloadN 33 d10_32 rfl rfl ?_
    refine Go.aloadN 34 d10_33 rfl rfl rfl ?_
    refine Go.getf 37 (hw _ (List.mem_of_getElem? (i := 11) rfl)) H73.1.2.1 d10_34 rfl ?_
    refine Go.iloadN 38 d10_37 rfl rfl ?_
    refine Go.iconst 39 (1 : Int32) d10_38 rfl (by decide) ?_
    refine Go.iadd 40 (1 : Int32) d10_39 rfl (by decide) ?_
    refine Go.iaload 41 H73.2.1 (i := 1) (by decide) rfl d10_40 rfl ?_
    refine Go.icmpT 270 d10_41 (by decide) (by decide) (show (1 : Int) ≤ (1 : Int) from by decide) ?_
    refine Go.iinc 273 #[.val (.ref a), .val (.int (2 : Int32)), .val (.int (1 : Int32)), .val (.int (1 : Int32)), .val (.double g0), .second, .val (.double m0), .second, .val (.int (0 : Int32)), .val (.double (4607182418800017408 : UInt64)), .second, .val (.int (0 : Int32)), .val (.int (2 : Int32))] (1 : Int32) d10_270 rfl rfl (by decide) rfl ?_
    refine Go.goto 17 d10_273 (by decide) (by decide) ?_
    refine Go.iloadN 18 d10_17 rfl rfl ?_
    refine Go.aloadN 19 d10_18 rfl rfl rfl ?_
    refine Go.getf 22 (hw _ (List.mem_of_getElem? (i := 29) rfl)) H73.1.2.2.2.2.2.2.2.1 d10_19 rfl ?_
    refine Go.icmpF 25 d10_22 rfl (show (1 : Int) < (2 : Int) from by decide) ?_
    refine Go.aloadN 26 d10_25 rfl rfl rfl ?_
    refine Go.getf 29 (hw _ (List.mem_of_getElem? (i := 11) rfl)) H73.1.2.1 d10_26 rfl ?_
    refine Go.iloadN 30 d10_29 rfl rfl ?_
    refine Go.iaload 31 H73.2.1 (i := 1) (by decide) rfl d10_30 rfl ?_
    refine Go.istoreN 32 #[.val (.ref a), .val (.int (2 : Int32)), .val (.int (1 : Int32)), .val (.int (1 : Int32)), .val (.double g0), .second, .val (.double m0), .second, .val (.int (0 : Int32)), .val (.double (4607182418800017408 : UInt64)), .second, .val (.int (0 : Int32)), .val (.int (2 : Int32))] d10_31 rfl rfl ?_
    refine Go.iloadN 33 d10_32 rfl rfl ?_
    refine Go.aloadN 34 d10_33 rfl rfl rfl ?_
    refine Go.getf 37 (hw _ (List.mem_of_getElem? (i := 11) rfl)) H73.1.2.1 d10_34 rfl ?_
    refine Go.iloadN 38 d10_37 rfl rfl ?_
    refine Go.iconst 39 (1 : Int32) d10_38 rfl (by decide) ?_
    refine Go.iadd 40 (2 : Int32) d10_39 rfl (by decide) ?_
    refine Go.iaload 41 H73.2.1 (i := 2) (by decide) rfl d10_40 rfl ?_
    refine Go.icmpF 44 d10_41 rfl (show (1 : Int) < (2 : Int) from by decide) ?_
    refine Go.dconst0 45 (0 : UInt64) d10_44 rfl rfl ?_
    refine Go.dstore 47 #[.val (.ref a), .val (.int (2 : Int32)), .val (.int (1 : Int32)), .val (.int (1 : Int32)), .val (.double (0 : UInt64)), .second, .val (.double m0), .second, .val (.int (0 : Int32)), .val (.double (4607182418800017408 : UInt64)), .second, .val (.int (0 : Int32)), .val (.int (2 : Int32))] d10_45 rfl rfl ?_
    refine Go.aloadN 48 d10_47 rfl rfl rfl ?_
    refine Go.getf 51 (hw _ (List.mem_of_getElem? (i := 22) rfl)) H73.1.2.2.2.2.2.2.1 d10_48 rfl ?_
    refine Go.iloadN 52 d10_51 rfl rfl ?_
    refine Go.daload 53 H73.2.2.2.2.2.2.1 (i := 1) (by decide) rfl d10_52 rfl ?_
    refine Go.dstore 55 #[.val (.ref a), .val (.int (2 : Int32)), .val (.int (1 : Int32)), .val (.int (1 : Int32)), .val (.double (0 : UInt64)), .second, .val (.double (0 : UInt64)), .second, .val (.int (0 : Int32)), .val (.double (4607182418800017408 : UInt64)), .second, .val (.int (0 : Int32)), .val (.int (2 : Int32))] d10_53 rfl rfl ?_
    refine Go.aloadN 56 d10_55 rfl rfl rfl ?_
    refine Go.getf 59 (hw _ (List.mem_of_getElem? (i := 13) rfl)) H73.1.2.2.1 d10_56 rfl ?_
    refine Go.iloadN 60 d10_59 rfl rfl ?_
    refine Go.iaload 61 H73.2.2.1 (i := 1) (by decide) rfl d10_60 rfl ?_
    refine Go.istore 63 #[.val (.ref a), .val (.int (2 : Int32)), .val (.int (1 : Int32)), .val (.int (1 : Int32)), .val (.double (0 : UInt64)), .second, .val (.double (0 : UInt64)), .second, .val (.int (2 : Int32)), .val (.double (4607182418800017408 : UInt64)), .second, .val (.int (0 : Int32)), .val (.int (2 : Int32))] d10_61 rfl rfl ?_
    refine Go.iload 65 d10_63 rfl rfl ?_
    refine Go.aloadN 66 d10_65 rfl rfl rfl ?_
    refine Go.getf 69 (hw _ (List.mem_of_getElem? (i := 13) rfl)) H73.1.2.2.1 d10_66 rfl ?_
    refine Go.iloadN 70 d10_69 rfl rfl ?_
    refine Go.iconst 71 (1 : Int32) d10_70 rfl (by decide) ?_
    refine Go.iadd 72 (2 : Int32) d10_71 rfl (by decide) ?_
    refine Go.iaload 73 H73.2.2.1 (i := 2) (by decide) rfl d10_72 rfl ?_
    refine Go.icmpF 76 d10_73 rfl (show (2 : Int) < (4 : Int) from by decide) ?_
    refine Go.aloadN 77 d10_76 rfl rfl rfl ?_
    refine Go.getf 80 (hw _ (List.mem_of_getElem? (i := 18) rfl)) H73.1.2.2.2.2.1 d10_77 rfl ?_
    refine Go.iload 82 d10_80 rfl rfl ?_
    refine Go.iaload 83 H73.2.2.2.2.1 (i := 2) (by decide) rfl d10_82 rfl ?_
    refine Go.iloadN 84 d10_83 rfl rfl ?_
    refine Go.icmpT 102 d10_84 (by decide) (by decide) (show (0 : Int) ≠ (1 : Int) from by decide) ?_
    refine Go.dload 104 d10_102 rfl rfl ?_
    refine Go.aloadN 105 d10_104 rfl rfl rfl ?_
    refine Go.getf 108 (hw _ (List.mem_of_getElem? (i := 20) rfl)) H73.1.2.2.2.2.2.1 d10_105 rfl ?_
    refine Go.iload 110 d10_108 rfl rfl ?_
    refine Go.daload 111 H73.2.2.2.2.2.1 (i := 2) (by decide) rfl d10_110 rfl ?_
    refine Go.dadd 112 m1 d10_111 rfl qm1.1 qm1.2 ?_
    refine Go.dstore 114 #[.val (.ref a), .val (.int (2 : Int32)), .val (.int (1 : Int32)), .val (.int (1 : Int32)), .val (.double (0 : UInt64)), .second, .val (.double m1), .second, .val (.int (2 : Int32)), .val (.double (4607182418800017408 : UInt64)), .second, .val (.int (0 : Int32)), .val (.int (2 : Int32))] d10_112 rfl rfl ?_
    refine Go.iinc 117 #[.val (.ref a), .val (.int (2 : Int32)), .val (.int (1 : Int32)), .val (.int (1 : Int32)), .val (.double (0 : UInt64)), .second, .val (.double m1), .second, .val (.int (3 : Int32)), .val (.double (4607182418800017408 : UInt64)), .second, .val (.int (0 : Int32)), .val (.int (2 : Int32))] (3 : Int32) d10_114 rfl rfl (by decide) rfl ?_
    refine Go.goto 63 d10_117 (by decide) (by decide) ?_
    refine Go.iload 65 d10_63 rfl rfl ?_
    refine Go.aloadN 66 d10_65 rfl rfl rfl ?_
    refine Go.getf 69 (hw _ (List.mem_of_getElem? (i := 13) rfl)) H73.1.2.2.1 d10_66 rfl ?_
    refine Go.iloadN 70 d10_69 rfl rfl ?_
    refine Go.iconst 71 (1 : Int32) d10_70 rfl (by decide) ?_
    refine Go.iadd 72 (2 : Int32) d10_71 rfl (by decide) ?_
    refine Go.iaload 73 H73.2.2.1 (i := 2) (by decide) rfl d10_72 rfl ?_
    refine Go.icmpF 76 d10_73 rfl (show (3 : Int) < (4 : Int) from by decide) ?_
    refine Go.aloadN 77 d10_76 rfl rfl rfl ?_
    refine Go.getf 80 (hw _ (List.mem_of_getElem? (i := 18) rfl)) H73.1.2.2.2.2.1 d10_77 rfl ?_
    refine Go.iload 82 d10_80 rfl rfl ?_
    refine Go.iaload 83 H73.2.2.2.2.1 (i := 3) (by decide) rfl d10_82 rfl ?_
    refine Go.iloadN 84 d10_83 rfl rfl ?_
    refine Go.icmpF 87 d10_84 rfl (show (1 : Int) = (1 : Int) from by decide) ?_
    refine Go.dload 89 d10_87 rfl rfl ?_
    refine Go.aloadN 90 d10_89 rfl rfl rfl ?_
    refine Go.getf 93 (hw _ (List.mem_of_getElem? (i := 20) rfl)) H73.1.2.2.2.2.2.1 d10_90 rfl ?_
    refine Go.iload 95 d10_93 rfl rfl ?_
    refine Go.daload 96 H73.2.2.2.2.2.1 (i := 3) (by decide) rfl d10_95 rfl ?_
    refine Go.dadd 97 g1 d10_96 rfl qg1.1 qg1.2 ?_
    refine Go.dstore 99 #[.val (.ref a), .val (.int (2 : Int32)), .val (.int (1 : Int32)), .val (.int (1 : Int32)), .val (.double g1), .second, .val (.double m1), .second, .val (.int (3 : Int32)), .val (.double (4607182418800017408 : UInt64)), .second, .val (.int (0 : Int32)), .val (.int (2 : Int32))] d10_97 rfl rfl ?_
    refine Go.goto 114 d10_99 (by decide) (by decide) ?_
    refine Go.iinc 117 #[.val (.ref a), .val (.int (2 : Int32)), .val (.int (1 : Int32)), .val (.int (1 : Int32)), .val (.double g1), .second, .val (.double m1), .second, .val (.int (4 : Int32)), .val (.double (4607182418800017408 : UInt64)), .second, .val (.int (0 : Int32)), .val (.int (2 : Int32))] (4 : Int32) d10_114 rfl rfl (by decide) rfl ?_
    refine Go.goto 63 d10_117 (by decide) (by decide) ?_
    refine Go.iload 65 d10_63 rfl rfl ?_
    refine Go.aloadN 66 d10_65 rfl rfl rfl ?_
    refine Go.getf 69 (hw _ (List.mem_of_getElem? (i := 13) rfl)) H73.1.2.2.1 d10_66 rfl ?_
    refine Go.iloadN 70 d10_69 rfl rfl ?_
    refine Go.iconst 71 (1 : Int32) d10_70 rfl (by decide) ?_
    refine Go.iadd 72 (2 : Int32) d10_71 rfl (by decide) ?_
    refine Go.iaload 73 H73.2.2.1 (i := 2) (by decide) rfl d10_72 rfl ?_
    refine Go.icmpT 120 d10_73 (by decide) (by decide) (show (4 : Int) ≤ (4 : Int) from by decide) ?_
    refine Go.dload 122 d10_120 rfl rfl ?_
    refine Go.dconst0 123 (0 : UInt64) d10_122 rfl rfl ?_
    refine Go.dcmp 124 (sg (0 + A1) 0) d10_123 rfl (cmpQ dg1 (dq_zero 4) _) ?_
    refine Go.ifCF 127 d10_124 rfl (show 0 < ((sg (0 + A1) 0)).toInt from by have := sg_cases (0 + A1) 0; omega) ?_
    refine Go.dload 129 d10_127 rfl rfl ?_
    refine Go.dconst0 130 (0 : UInt64) d10_129 rfl rfl ?_
    refine Go.dcmp 131 (sg (0 + B1) 0) d10_130 rfl (cmpQ dm1 (dq_zero 4) _) ?_
    refine Go.ifCF 134 d10_131 rfl (show 0 < ((sg (0 + B1) 0)).toInt from by have := sg_cases (0 + B1) 0; omega) ?_
    refine Go.iconst 135 (1 : Int32) d10_134 rfl (by decide) ?_
    refine Go.goto 139 d10_135 (by decide) (by decide) ?_
    refine Go.istore 141 #[.val (.ref a), .val (.int (2 : Int32)), .val (.int (1 : Int32)), .val (.int (1 : Int32)), .val (.double g1), .second, .val (.double m1), .second, .val (.int (1 : Int32)), .val (.double (4607182418800017408 : UInt64)), .second, .val (.int (0 : Int32)), .val (.int (2 : Int32))] d10_139 rfl rfl ?_
    refine Go.iload 143 d10_141 rfl rfl ?_
    refine Go.ifCF 146 d10_143 rfl (show (1 : Int) ≠ 0 from by decide) ?_
    refine Go.dconst1 147 (4607182418800017408 : UInt64) d10_146 rfl rfl ?_
    refine Go.dload 149 d10_147 rfl rfl ?_
    refine Go.ddiv 150 sc1 d10_149 rfl qs1.1 qs1.2 ?_
    refine Go.goto 154 d10_150 (by decide) (by decide) ?_
    refine Go.dstore 156 #[.val (.ref a), .val (.int (2 : Int32)), .val (.int (1 : Int32)), .val (.int (1 : Int32)), .val (.double g1), .second, .val (.double m1), .second, .val (.int (1 : Int32)), .val (.double sc1), .second, .val (.int (0 : Int32)), .val (.int (2 : Int32))] d10_154 rfl rfl ?_
    refine Go.aloadN 157 d10_156 rfl rfl rfl ?_
    refine Go.getf 160 (hw _ (List.mem_of_getElem? (i := 16) rfl)) H73.1.2.2.2.1 d10_157 rfl ?_
    refine Go.iloadN 161 d10_160 rfl rfl ?_
    refine Go.dup2 162 d10_161 rfl rfl rfl ?_
    refine Go.daload 163 H73.2.2.2.1 (i := 1) (by decide) rfl d10_162 rfl ?_
    refine Go.dload 165 d10_163 rfl rfl ?_
    refine Go.dmul 166 ky1 d10_165 rfl qk1.1 qk1.2 ?_
    refine Go.dastore 167 H73.2.2.2.1 (i := 1) (by decide) (in4 (by decide)) (by have := H73.2.2.2.2.2.2.2; omega) d10_166 rfl ?_
    intro h74 K74 A74
    have H74 : BS Z n0 h74 a ra ca ka la fa va (2 : Int32) (2 : Int32) (4 : Int32) (1 : Int32) ([(0 : Int32), (1 : Int32), (2 : Int32), rs3] ++ tI) ([(0 : Int32), (2 : Int32), (4 : Int32), cs3] ++ tI) ([ky0, ky1, ks2, ks3] ++ tD) ([(0 : Int32), (1 : Int32), (0 : Int32), (1 : Int32)] ++ tI) ([fy_a0, fy_b0, fs2, fs3] ++ tD) ([vy0, (0 : UInt64), vs2, vs3] ++ tD) := H73.set_constants K74 A74
    refine Go.aloadN 168 d10_167 rfl rfl rfl ?_
    refine Go.getf 171 (hw _ (List.mem_of_getElem? (i := 22) rfl)) H74.1.2.2.2.2.2.2.1 d10_168 rfl ?_
    refine Go.iloadN 172 d10_171 rfl rfl ?_
    refine Go.dup2 173 d10_172 rfl rfl rfl ?_
    refine Go.daload 174 H74.2.2.2.2.2.2.1 (i := 1) (by decide) rfl d10_173 rfl ?_
    refine Go.dload 176 d10_174 rfl rfl ?_
    refine Go.dmul 177 vy1 d10_176 rfl qv1.1 qv1.2 ?_
    refine Go.dastore 178 H74.2.2.2.2.2.2.1 (i := 1) (by decide) (in4 (by decide)) (by have := H74.2.2.2.2.2.2.2; omega) d10_177 rfl ?_
    intro h75 K75 A75
    have H75 : BS Z n0 h75 a ra ca ka la fa va (2 : Int32) (2 : Int32) (4 : Int32) (1 : Int32) ([(0 : Int32), (1 : Int32), (2 : Int32), rs3] ++ tI) ([(0 : Int32), (2 : Int32), (4 : Int32), cs3] ++ tI) ([ky0, ky1, ks2, ks3] ++ tD) ([(0 : Int32), (1 : Int32), (0 : Int32), (1 : Int32)] ++ tI) ([fy_a0, fy_b0, fs2, fs3] ++ tD) ([vy0, vy1, vs2, vs3] ++ tD) := H74.set_leaving K75 A75
    refine Go.iloadN 179 d10_178 rfl rfl ?_
    refine Go.istore 181 #[.val (.ref a), .val (.int (2 : Int32)), .val (.int (1 : Int32)), .val (.int (1 : Int32)), .val (.double g1), .second, .val (.double m1), .second, .val (.int (1 : Int32)), .val (.double sc1), .second, .val (.int (2 : Int32)), .val (.int (2 : Int32))] d10_179 rfl rfl ?_
    refine Go.aloadN 182 d10_181 rfl rfl rfl ?_
    refine Go.getf 185 (hw _ (List.mem_of_getElem? (i := 13) rfl)) H75.1.2.2.1 d10_182 rfl ?_
    refine Go.iloadN 186 d10_185 rfl rfl ?_
    refine Go.iaload 187 H75.2.2.1 (i := 1) (by decide) rfl d10_186 rfl ?_
    refine Go.istore 189 #[.val (.ref a), .val (.int (2 : Int32)), .val (.int (1 : Int32)), .val (.int (1 : Int32)), .val (.double g1), .second, .val (.double m1), .second, .val (.int (1 : Int32)), .val (.double sc1), .second, .val (.int (2 : Int32)), .val (.int (2 : Int32))] d10_187 rfl rfl ?_
    refine Go.iload 191 d10_189 rfl rfl ?_
    refine Go.aloadN 192 d10_191 rfl rfl rfl ?_
    refine Go.getf 195 (hw _ (List.mem_of_getElem? (i := 13) rfl)) H75.1.2.2.1 d10_192 rfl ?_
    refine Go.iloadN 196 d10_195 rfl rfl ?_
    refine Go.iconst 197 (1 : Int32) d10_196 rfl (by decide) ?_
    refine Go.iadd 198 (2 : Int32) d10_197 rfl (by decide) ?_
    refine Go.iaload 199 H75.2.2.1 (i := 2) (by decide) rfl d10_198 rfl ?_
    refine Go.icmpF 202 d10_199 rfl (show (2 : Int) < (4 : Int) from by decide) ?_
    refine Go.iload 204 d10_202 rfl rfl ?_
    refine Go.ifCF 207 d10_204 rfl (show (1 : Int) ≠ 0 from by decide) ?_
    refine Go.aloadN 208 d10_207 rfl rfl rfl ?_
    refine Go.getf 211 (hw _ (List.mem_of_getElem? (i := 18) rfl)) H75.1.2.2.2.2.1 d10_208 rfl ?_
    refine Go.iload 213 d10_211 rfl rfl ?_
    refine Go.iaload 214 H75.2.2.2.2.1 (i := 2) (by decide) rfl d10_213 rfl ?_
    refine Go.iloadN 215 d10_214 rfl rfl ?_
    refine Go.icmpF 218 d10_215 rfl (show (0 : Int) ≠ (1 : Int) from by decide) ?_
    refine Go.aloadN 219 d10_218 rfl rfl rfl ?_
    refine Go.getf 222 (hw _ (List.mem_of_getElem? (i := 18) rfl)) H75.1.2.2.2.2.1 d10_219 rfl ?_
    refine Go.iloadN 223 d10_222 rfl rfl ?_
    refine Go.aloadN 224 d10_223 rfl rfl rfl ?_
    refine Go.getf 227 (hw _ (List.mem_of_getElem? (i := 18) rfl)) H75.1.2.2.2.2.1 d10_224 rfl ?_
    refine Go.iload 229 d10_227 rfl rfl ?_
    refine Go.iaload 230 H75.2.2.2.2.1 (i := 2) (by decide) rfl d10_229 rfl ?_
    refine Go.iastore 231 H75.2.2.2.2.1 (i := 2) (by decide) (in4 (by decide)) (by have := H75.2.2.2.2.2.2.2; omega) d10_230 rfl ?_
    intro h76 K76 A76
    have H76 : BS Z n0 h76 a ra ca ka la fa va (2 : Int32) (2 : Int32) (4 : Int32) (1 : Int32) ([(0 : Int32), (1 : Int32), (2 : Int32), rs3] ++ tI) ([(0 : Int32), (2 : Int32), (4 : Int32), cs3] ++ tI) ([ky0, ky1, ks2, ks3] ++ tD) ([(0 : Int32), (1 : Int32), (0 : Int32), (1 : Int32)] ++ tI) ([fy_a0, fy_b0, fs2, fs3] ++ tD) ([vy0, vy1, vs2, vs3] ++ tD) := H75.set_columns K76 A76
    refine Go.aloadN 232 d10_231 rfl rfl rfl ?_
    refine Go.getf 235 (hw _ (List.mem_of_getElem? (i := 20) rfl)) H76.1.2.2.2.2.2.1 d10_232 rfl ?_
    refine Go.iloadN 236 d10_235 rfl rfl ?_
    refine Go.aloadN 237 d10_236 rfl rfl rfl ?_
    refine Go.getf 240 (hw _ (List.mem_of_getElem? (i := 20) rfl)) H76.1.2.2.2.2.2.1 d10_237 rfl ?_
    refine Go.iload 242 d10_240 rfl rfl ?_
    refine Go.daload 243 H76.2.2.2.2.2.1 (i := 2) (by decide) rfl d10_242 rfl ?_
    refine Go.dload 245 d10_243 rfl rfl ?_
    refine Go.dmul 246 fy_b1 d10_245 rfl qf_b1.1 qf_b1.2 ?_
    refine Go.dastore 247 H76.2.2.2.2.2.1 (i := 2) (by decide) (in4 (by decide)) (by have := H76.2.2.2.2.2.2.2; omega) d10_246 rfl ?_
    intro h77 K77 A77
    have H77 : BS Z n0 h77 a ra ca ka la fa va (2 : Int32) (2 : Int32) (4 : Int32) (1 : Int32) ([(0 : Int32), (1 : Int32), (2 : Int32), rs3] ++ tI) ([(0 : Int32), (2 : Int32), (4 : Int32), cs3] ++ tI) ([ky0, ky1, ks2, ks3] ++ tD) ([(0 : Int32), (1 : Int32), (0 : Int32), (1 : Int32)] ++ tI) ([fy_a0, fy_b0, fy_b1, fs3] ++ tD) ([vy0, vy1, vs2, vs3] ++ tD) := H76.set_coefficients K77 A77
    refine Go.iinc 250 #[.val (.ref a), .val (.int (3 : Int32)), .val (.int (1 : Int32)), .val (.int (1 : Int32)), .val (.double g1), .second, .val (.double m1), .second, .val (.int (1 : Int32)), .val (.double sc1), .second, .val (.int (2 : Int32)), .val (.int (2 : Int32))] (3 : Int32) d10_247 rfl rfl (by decide) rfl ?_
    refine Go.iinc 253 #[.val (.ref a), .val (.int (3 : Int32)), .val (.int (1 : Int32)), .val (.int (1 : Int32)), .val (.double g1), .second, .val (.double m1), .second, .val (.int (1 : Int32)), .val (.double sc1), .second, .val (.int (2 : Int32)), .val (.int (3 : Int32))] (3 : Int32) d10_250 rfl rfl (by decide) rfl ?_
    refine Go.goto 189 d10_253 (by decide) (by decide) ?_
    refine Go.iload 191 d10_189 rfl rfl ?_
    refine Go.aloadN 192 d10_191 rfl rfl rfl ?_
    refine Go.getf 195 (hw _ (List.mem_of_getElem? (i := 13) rfl)) H77.1.2.2.1 d10_192 rfl ?_
    refine Go.iloadN 196 d10_195 rfl rfl ?_
    refine Go.iconst 197 (1 : Int32) d10_196 rfl (by decide) ?_
    refine Go.iadd 198 (2 : Int32) d10_197 rfl (by decide) ?_
    refine Go.iaload 199 H77.2.2.1 (i := 2) (by decide) rfl d10_198 rfl ?_
    refine Go.icmpF 202 d10_199 rfl (show (3 : Int) < (4 : Int) from by decide) ?_
    refine Go.iload 204 d10_202 rfl rfl ?_
    refine Go.ifCF 207 d10_204 rfl (show (1 : Int) ≠ 0 from by decide) ?_
    refine Go.aloadN 208 d10_207 rfl rfl rfl ?_
    refine Go.getf 211 (hw _ (List.mem_of_getElem? (i := 18) rfl)) H77.1.2.2.2.2.1 d10_208 rfl ?_
    refine Go.iload 213 d10_211 rfl rfl ?_
    refine Go.iaload 214 H77.2.2.2.2.1 (i := 3) (by decide) rfl d10_213 rfl ?_
    refine Go.iloadN 215 d10_214 rfl rfl ?_
    refine Go.icmpT 250 d10_215 (by decide) (by decide) (show (1 : Int) = (1 : Int) from by decide) ?_
    refine Go.iinc 253 #[.val (.ref a), .val (.int (3 : Int32)), .val (.int (1 : Int32)), .val (.int (1 : Int32)), .val (.double g1), .second, .val (.double m1), .second, .val (.int (1 : Int32)), .val (.double sc1), .second, .val (.int (2 : Int32)), .val (.int (4 : Int32))] (4 : Int32) d10_250 rfl rfl (by decide) rfl ?_
    refine Go.goto 189 d10_253 (by decide) (by decide) ?_
    refine Go.iload 191 d10_189 rfl rfl ?_
    refine Go.aloadN 192 d10_191 rfl rfl rfl ?_
    refine Go.getf 195 (hw _ (List.mem_of_getElem? (i := 13) rfl)) H77.1.2.2.1 d10_192 rfl ?_
    refine Go.iloadN 196 d10_195 rfl rfl ?_
    refine Go.iconst 197 (1 : Int32) d10_196 rfl (by decide) ?_
    refine Go.iadd 198 (2 : Int32) d10_197 rfl (by decide) ?_
    refine Go.iaload 199 H77.2.2.1 (i := 2) (by decide) rfl d10_198 rfl ?_
    refine Go.icmpT 256 d10_199 (by decide) (by decide) (show (4 : Int) ≤ (4 : Int) from by decide) ?_
    refine Go.aloadN 257 d10_256 rfl rfl rfl ?_
    refine Go.getf 260 (hw _ (List.mem_of_getElem? (i := 13) rfl)) H77.1.2.2.1 d10_257 rfl ?_
    refine Go.iloadN 261 d10_260 rfl rfl ?_
    refine Go.iload 263 d10_261 rfl rfl ?_
    refine Go.iastore 264 H77.2.2.1 (i := 1) (by decide) (in4 (by decide)) (by have := H77.2.2.2.2.2.2.2; omega) d10_263 rfl ?_
    intro h78 K78 A78
    have H78 : BS Z n0 h78 a ra ca ka la fa va (2 : Int32) (2 : Int32) (4 : Int32) (1 : Int32) ([(0 : Int32), (1 : Int32), (2 : Int32), rs3] ++ tI) ([(0 : Int32), (2 : Int32), (4 : Int32), cs3] ++ tI) ([ky0, ky1, ks2, ks3] ++ tD) ([(0 : Int32), (1 : Int32), (0 : Int32), (1 : Int32)] ++ tI) ([fy_a0, fy_b0, fy_b1, fs3] ++ tD) ([vy0, vy1, vs2, vs3] ++ tD) := H77.set_choiceStart K78 A78
    refine Go.iinc 267 #[.val (.ref a), .val (.int (3 : Int32)), .val (.int (1 : Int32)), .val (.int (2 : Int32)), .val (.double g1), .second, .val (.double m1), .second, .val (.int (1 : Int32)), .val (.double sc1), .second, .val (.int (2 : Int32)), .val (.int (4 : Int32))] (2 : Int32) d10_264 rfl rfl (by decide) rfl ?_
    refine Go.goto 32 d10_267 (by decide) (by decide) ?_
    refine Go.iloadN 33 d10_32 rfl rfl ?_
    refine Go.aloadN 34 d10_33 rfl rfl rfl ?_
    refine Go.getf 37 (hw _ (List.mem_of_getElem? (i := 11) rfl)) H78.1.2.1 d10_34 rfl ?_
    refine Go.iloadN 38 d10_37 rfl rfl ?_
    refine Go.iconst 39 (1 : Int32) d10_38 rfl (by decide) ?_
    refine Go.iadd 40 (2 : Int32) d10_39 rfl (by decide) ?_
    refine Go.iaload 41 H78.2.1 (i := 2) (by decide) rfl d10_40 rfl ?_
    refine Go.icmpT 270 d10_41 (by decide) (by decide) (show (2 : Int) ≤ (2 : Int) from by decide) ?_
    refine Go.iinc 273 #[.val (.ref a), .val (.int (3 : Int32)), .val (.int (2 : Int32)), .val (.int (2 : Int32)), .val (.double g1), .second, .val (.double m1), .second, .val (.int (1 : Int32)), .val (.double sc1), .second, .val (.int (2 : Int32)), .val (.int (4 : Int32))] (2 : Int32) d10_270 rfl rfl (by decide) rfl ?_
    refine Go.goto 17 d10_273 (by decide) (by decide) ?_
    refine Go.iloadN 18 d10_17 rfl rfl ?_
    refine Go.aloadN 19 d10_18 rfl rfl rfl ?_
    refine Go.getf 22 (hw _ (List.mem_of_getElem? (i := 29) rfl)) H78.1.2.2.2.2.2.2.2.1 d10_19 rfl ?_
    refine Go.icmpT 276 d10_22 (by decide) (by decide) (show (2 : Int) ≤ (2 : Int) from by decide) ?_
    refine Go.aloadN 277 d10_276 rfl rfl rfl ?_
    refine Go.getf 280 (hw _ (List.mem_of_getElem? (i := 13) rfl)) H78.1.2.2.1 d10_277 rfl ?_
    refine Go.aloadN 281 d10_280 rfl rfl rfl ?_
    refine Go.getf 284 (hw _ (List.mem_of_getElem? (i := 34) rfl)) H78.1.2.2.2.2.2.2.2.2.1 d10_281 rfl ?_
    refine Go.iloadN 285 d10_284 rfl rfl ?_
    refine Go.iastore 286 H78.2.2.1 (i := 2) (by decide) (in4 (by decide)) (by have := H78.2.2.2.2.2.2.2; omega) d10_285 rfl ?_
    intro h79 K79 A79
    have H79 : BS Z n0 h79 a ra ca ka la fa va (2 : Int32) (2 : Int32) (4 : Int32) (1 : Int32) ([(0 : Int32), (1 : Int32), (2 : Int32), rs3] ++ tI) ([(0 : Int32), (2 : Int32), (3 : Int32), cs3] ++ tI) ([ky0, ky1, ks2, ks3] ++ tD) ([(0 : Int32), (1 : Int32), (0 : Int32), (1 : Int32)] ++ tI) ([fy_a0, fy_b0, fy_b1, fs3] ++ tD) ([vy0, vy1, vs2, vs3] ++ tD) := H78.set_choiceStart K79 A79
    refine Go.aloadN 287 d10_286 rfl rfl rfl ?_
    refine Go.iloadN 288 d10_287 rfl rfl ?_
    refine Go.putF 291 (hw _ (List.mem_of_getElem? (i := 44) rfl)) H79.1.2.2.2.2.2.2.2.2.2.1 H79.1.1 (Or.inl (hw _ (List.mem_of_getElem? (i := 45) rfl))) (hw _ (List.mem_of_getElem? (i := 2) rfl)) (ty := .int) (by decide) rfl rfl (by have := H79.2.2.2.2.2.2.2; omega) d10_288 rfl ?_
    intro h80 W80
    have H80 : BS Z n0 h80 a ra ca ka la fa va (2 : Int32) (2 : Int32) (3 : Int32) (1 : Int32) ([(0 : Int32), (1 : Int32), (2 : Int32), rs3] ++ tI) ([(0 : Int32), (2 : Int32), (3 : Int32), cs3] ++ tI) ([ky0, ky1, ks2, ks3] ++ tD) ([(0 : Int32), (1 : Int32), (0 : Int32), (1 : Int32)] ++ tI) ([fy_a0, fy_b0, fy_b1, fs3] ++ tD) ([vy0, vy1, vs2, vs3] ++ tD) := H79.put_terms a0 hw W80
    exact Go.ret d10_291 rfl (by decide) (by decide) ⟨rfl, ky0, vy0, fy_a0, fy_b0, fy_b1, fy_a1, ky1, vy1, dk0, dv0, df_a0, df_b0, df_b1, df_a1, H80⟩
  refine Go.ifCB 138 127 d10_124 (by decide) (by decide) rfl (fun (hc : ((sg (0 + A0) 0)).toInt ≤ 0) => ?_) (fun (hc : 0 < ((sg (0 + A0) 0)).toInt) => ?_)
  · have := sg_cases (0 + A0) 0
    refine Go.iconst 139 (0 : Int32) d10_138 rfl (by decide) ?_
    exact g139_0
  · have := sg_cases (0 + A0) 0
    refine Go.dload 129 d10_127 rfl rfl ?_
    refine Go.dconst0 130 (0 : UInt64) d10_129 rfl rfl ?_
    refine Go.dcmp 131 (sg (V0 + B0) 0) d10_130 rfl (cmpQ dm0 (dq_zero 4) _) ?_
    refine Go.ifCT 138 d10_131 (by decide) (by decide) (show ((sg (V0 + B0) 0)).toInt ≤ 0 from by have := sg_cases (V0 + B0) 0; omega) ?_
    refine Go.iconst 139 (0 : Int32) d10_138 rfl (by decide) ?_
    exact g139_0
set_option maxRecDepth 65536 in
set_option maxHeartbeats 40000000 in
theorem fold_10 (l : Launch) (Z : State) (a0 : Array Value) (hw : ∀ d ∈ tables_1, d.before a0 Z = true) {n0 : Nat} {h : Heap} {a ra ca ka la fa va : Nat} {tI : List Int32} {tD : List UInt64} (hTI : tI.length = 1020) (hTD : tD.length = 1020) {rs3 cs3 : Int32} {ks0 ks2 ks3 fs0 fs1 fs2 fs3 vs0 vs2 vs3 : UInt64} {K A0 B0 V0 B1 A1 : Int} (H : BS Z n0 h a ra ca ka la fa va (2 : Int32) (2 : Int32) (4 : Int32) (0 : Int32) ([(0 : Int32), (1 : Int32), (2 : Int32), rs3] ++ tI) ([(0 : Int32), (2 : Int32), (4 : Int32), cs3] ++ tI) ([ks0, (0 : UInt64), ks2, ks3] ++ tD) ([(0 : Int32), (1 : Int32), (0 : Int32), (1 : Int32)] ++ tI) ([fs0, fs1, fs2, fs3] ++ tD) ([vs0, (0 : UInt64), vs2, vs3] ++ tD))
    (dK : FP.Core.DInt K ks0) (bK : -2147483648 ≤ K ∧ K ≤ 2147483647) (dA0 : DQ 4 A0 fs0) (dB0 : DQ 4 B0 fs1) (dV0 : DQ 4 V0 vs0) (dB1 : DQ 4 B1 fs2) (dA1 : DQ 4 A1 fs3) (b1 : 0 ≤ A0 ∧ A0 ≤ 16) (b2 : 0 ≤ B0 ∧ B0 ≤ 16) (b3 : 0 ≤ V0 ∧ V0 ≤ 16) (b4 : 0 ≤ B1 ∧ B1 ≤ 16) (b5 : 0 ≤ A1 ∧ A1 ≤ 16) (h0 : 0 < A0 ∧ 0 < V0 + B0) (h1 : ¬ (0 < A1 ∧ 0 < B1)) {S0 : Int} (hS0 : 16 = S0 * (V0 + B0)) (bS0 : 0 ≤ S0 ∧ S0 ≤ 16) :
    Go l Z ({ frames := 0, cells := 0, slots := 0, locals := 0 } : Room) ((⟨"com/example/orbifold/orbifold/solvers/BellmanSystem", "foldReturns", "()V"⟩ : MethodName), prog_167_method_28_code, 13, none) n0 (fun r h' => r = none ∧ ∃ k v fa_ fb fb1 fa1 k1 v1, DQ 0 (K * S0) k ∧ DQ 4 (V0 * S0) v ∧ DQ 4 (A0 * S0) fa_ ∧ DQ 4 (B0 * S0) fb ∧ DQ 4 (B1 * 1) fb1 ∧ DQ 4 (A1 * 1) fa1 ∧ BS Z n0 h' a ra ca ka la fa va (2 : Int32) (2 : Int32) (3 : Int32) (1 : Int32) ([(0 : Int32), (1 : Int32), (2 : Int32), rs3] ++ tI) ([(0 : Int32), (1 : Int32), (3 : Int32), cs3] ++ tI) ([k, k1, ks2, ks3] ++ tD) ([(1 : Int32), (0 : Int32), (1 : Int32), (1 : Int32)] ++ tI) ([fb, fb1, fa1, fs3] ++ tD) ([v, v1, vs2, vs3] ++ tD)) h 0 0 0 #[.val (.ref a), .unset, .unset, .unset, .unset, .unset, .unset, .unset, .unset, .unset, .unset, .unset, .unset] [] := by
  obtain ⟨g0, qg0, dg0⟩ := addQ (dq_zero 4) dA0 (by omega) (by decide)
  obtain ⟨m0, qm0, dm0⟩ := addQ dV0 dB0 (by omega) (by decide)
  obtain ⟨m1, qm1, dm1⟩ := addQ (dq_zero 4) dB1 (by omega) (by decide)
  obtain ⟨g1, qg1, dg1⟩ := addQ (dq_zero 4) dA1 (by omega) (by decide)
  obtain ⟨sc0, qs0, dsc0⟩ := divQ (n := 0) (t := S0) (dq_of_int FP.Core.dint_one) dm0 (by omega) (by simpa using hS0) (by omega) (by decide)
  have dsc1 := dq_of_int FP.Core.dint_one
  obtain ⟨ky0, qk0, dk0⟩ := mulQ (dq_of_int dK) dsc0 (by rw [Int.natAbs_mul]; exact Nat.lt_of_le_of_lt (Nat.mul_le_mul (show _ ≤ 2147483648 by omega) (show _ ≤ 16 by omega)) (by decide)) (by decide)
  obtain ⟨vy0, qv0, dv0⟩ := mulQ dV0 dsc0 (by rw [Int.natAbs_mul]; exact Nat.lt_of_le_of_lt (Nat.mul_le_mul (show _ ≤ 16 by omega) (show _ ≤ 16 by omega)) (by decide)) (by decide)
  obtain ⟨ky1, qk1, dk1⟩ := mulQ (dq_of_int dint_zero) dsc1 (by omega) (by decide)
  obtain ⟨vy1, qv1, dv1⟩ := mulQ (dq_of_int dint_zero) dsc1 (by omega) (by decide)
  obtain ⟨fy_a0, qf_a0, df_a0⟩ := mulQ dA0 dsc0 (by rw [Int.natAbs_mul]; exact Nat.lt_of_le_of_lt (Nat.mul_le_mul (show _ ≤ 16 by omega) (show _ ≤ 16 by omega)) (by decide)) (by decide)
  obtain ⟨fy_b0, qf_b0, df_b0⟩ := mulQ dB0 dsc0 (by rw [Int.natAbs_mul]; exact Nat.lt_of_le_of_lt (Nat.mul_le_mul (show _ ≤ 16 by omega) (show _ ≤ 16 by omega)) (by decide)) (by decide)
  obtain ⟨fy_b1, qf_b1, df_b1⟩ := mulQ dB1 dsc1 (by rw [Int.natAbs_mul]; exact Nat.lt_of_le_of_lt (Nat.mul_le_mul (show _ ≤ 16 by omega) (show _ ≤ 16 by omega)) (by decide)) (by decide)
  obtain ⟨fy_a1, qf_a1, df_a1⟩ := mulQ dA1 dsc1 (by rw [Int.natAbs_mul]; exact Nat.lt_of_le_of_lt (Nat.mul_le_mul (show _ ≤ 16 by omega) (show _ ≤ 16 by omega)) (by decide)) (by decide)
  refine Go.aloadN 1 d10_0 rfl rfl rfl ?_
  refine Go.getf 4 (hw _ (List.mem_of_getElem? (i := 66) rfl)) H.1.2.2.2.2.2.2.2.2.2.2 d10_1 rfl ?_
  refine Go.ifCT 8 d10_4 (by decide) (by decide) (show (0 : Int) = 0 from by decide) ?_
  refine Go.aloadN 9 d10_8 rfl rfl rfl ?_
  refine Go.iconst 10 (1 : Int32) d10_9 rfl (by decide) ?_
  refine Go.putF 13 (hw _ (List.mem_of_getElem? (i := 66) rfl)) H.1.2.2.2.2.2.2.2.2.2.2 H.1.1 (Or.inl (hw _ (List.mem_of_getElem? (i := 67) rfl))) (hw _ (List.mem_of_getElem? (i := 2) rfl)) (ty := .boolean) (by decide) rfl rfl (by have := H.2.2.2.2.2.2.2; omega) d10_10 rfl ?_
  intro h81 W81
  have H81 : BS Z n0 h81 a ra ca ka la fa va (2 : Int32) (2 : Int32) (4 : Int32) (1 : Int32) ([(0 : Int32), (1 : Int32), (2 : Int32), rs3] ++ tI) ([(0 : Int32), (2 : Int32), (4 : Int32), cs3] ++ tI) ([ks0, (0 : UInt64), ks2, ks3] ++ tD) ([(0 : Int32), (1 : Int32), (0 : Int32), (1 : Int32)] ++ tI) ([fs0, fs1, fs2, fs3] ++ tD) ([vs0, (0 : UInt64), vs2, vs3] ++ tD) := H.put_folded a0 hw W81
  refine Go.iconst 14 (0 : Int32) d10_13 rfl (by decide) ?_
  refine Go.istoreN 15 #[.val (.ref a), .val (.int (0 : Int32)), .unset, .unset, .unset, .unset, .unset, .unset, .unset, .unset, .unset, .unset, .unset] d10_14 rfl rfl ?_
  refine Go.iconst 16 (0 : Int32) d10_15 rfl (by decide) ?_
  refine Go.istoreN 17 #[.val (.ref a), .val (.int (0 : Int32)), .val (.int (0 : Int32)), .unset, .unset, .unset, .unset, .unset, .unset, .unset, .unset, .unset, .unset] d10_16 rfl rfl ?_
  refine Go.iloadN 18 d10_17 rfl rfl ?_
  refine Go.aloadN 19 d10_18 rfl rfl rfl ?_
  refine Go.getf 22 (hw _ (List.mem_of_getElem? (i := 29) rfl)) H81.1.2.2.2.2.2.2.2.1 d10_19 rfl ?_
  refine Go.icmpF 25 d10_22 rfl (show (0 : Int) < (2 : Int) from by decide) ?_
  refine Go.aloadN 26 d10_25 rfl rfl rfl ?_
  refine Go.getf 29 (hw _ (List.mem_of_getElem? (i := 11) rfl)) H81.1.2.1 d10_26 rfl ?_
  refine Go.iloadN 30 d10_29 rfl rfl ?_
  refine Go.iaload 31 H81.2.1 (i := 0) (by decide) rfl d10_30 rfl ?_
  refine Go.istoreN 32 #[.val (.ref a), .val (.int (0 : Int32)), .val (.int (0 : Int32)), .val (.int (0 : Int32)), .unset, .unset, .unset, .unset, .unset, .unset, .unset, .unset, .unset] d10_31 rfl rfl ?_
  refine Go.iloadN 33 d10_32 rfl rfl ?_
  refine Go.aloadN 34 d10_33 rfl rfl rfl ?_
  refine Go.getf 37 (hw _ (List.mem_of_getElem? (i := 11) rfl)) H81.1.2.1 d10_34 rfl ?_
  refine Go.iloadN 38 d10_37 rfl rfl ?_
  refine Go.iconst 39 (1 : Int32) d10_38 rfl (by decide) ?_
  refine Go.iadd 40 (1 : Int32) d10_39 rfl (by decide) ?_
  refine Go.iaload 41 H81.2.1 (i := 1) (by decide) rfl d10_40 rfl ?_
  refine Go.icmpF 44 d10_41 rfl (show (0 : Int) < (1 : Int) from by decide) ?_
  refine Go.dconst0 45 (0 : UInt64) d10_44 rfl rfl ?_
  refine Go.dstore 47 #[.val (.ref a), .val (.int (0 : Int32)), .val (.int (0 : Int32)), .val (.int (0 : Int32)), .val (.double (0 : UInt64)), .second, .unset, .unset, .unset, .unset, .unset, .unset, .unset] d10_45 rfl rfl ?_
  refine Go.aloadN 48 d10_47 rfl rfl rfl ?_
  refine Go.getf 51 (hw _ (List.mem_of_getElem? (i := 22) rfl)) H81.1.2.2.2.2.2.2.1 d10_48 rfl ?_
  refine Go.iloadN 52 d10_51 rfl rfl ?_
  refine Go.daload 53 H81.2.2.2.2.2.2.1 (i := 0) (by decide) rfl d10_52 rfl ?_
  refine Go.dstore 55 #[.val (.ref a), .val (.int (0 : Int32)), .val (.int (0 : Int32)), .val (.int (0 : Int32)), .val (.double (0 : UInt64)), .second, .val (.double vs0), .second, .unset, .unset, .unset, .unset, .unset] d10_53 rfl rfl ?_
  refine Go.aloadN 56 d10_55 rfl rfl rfl ?_
  refine Go.getf 59 (hw _ (List.mem_of_getElem? (i := 13) rfl)) H81.1.2.2.1 d10_56 rfl ?_
  refine Go.iloadN 60 d10_59 rfl rfl ?_
  refine Go.iaload 61 H81.2.2.1 (i := 0) (by decide) rfl d10_60 rfl ?_
  refine Go.istore 63 #[.val (.ref a), .val (.int (0 : Int32)), .val (.int (0 : Int32)), .val (.int (0 : Int32)), .val (.double (0 : UInt64)), .second, .val (.double vs0), .second, .val (.int (0 : Int32)), .unset, .unset, .unset, .unset] d10_61 rfl rfl ?_
  refine Go.iload 65 d10_63 rfl rfl ?_
  refine Go.aloadN 66 d10_65 rfl rfl rfl ?_
  refine Go.getf 69 (hw _ (List.mem_of_getElem? (i := 13) rfl)) H81.1.2.2.1 d10_66 rfl ?_
  refine Go.iloadN 70 d10_69 rfl rfl ?_
  refine Go.iconst 71 (1 : Int32) d10_70 rfl (by decide) ?_
  refine Go.iadd 72 (1 : Int32) d10_71 rfl (by decide) ?_
  refine Go.iaload 73 H81.2.2.1 (i := 1) (by decide) rfl d10_72 rfl ?_
  refine Go.icmpF 76 d10_73 rfl (show (0 : Int) < (2 : Int) from by decide) ?_
  refine Go.aloadN 77 d10_76 rfl rfl rfl ?_
  refine Go.getf 80 (hw _ (List.mem_of_getElem? (i := 18) rfl)) H81.1.2.2.2.2.1 d10_77 rfl ?_
  refine Go.iload 82 d10_80 rfl rfl ?_
  refine Go.iaload 83 H81.2.2.2.2.1 (i := 0) (by decide) rfl d10_82 rfl ?_
  refine Go.iloadN 84 d10_83 rfl rfl ?_
  refine Go.icmpF 87 d10_84 rfl (show (0 : Int) = (0 : Int) from by decide) ?_
  refine Go.dload 89 d10_87 rfl rfl ?_
  refine Go.aloadN 90 d10_89 rfl rfl rfl ?_
  refine Go.getf 93 (hw _ (List.mem_of_getElem? (i := 20) rfl)) H81.1.2.2.2.2.2.1 d10_90 rfl ?_
  refine Go.iload 95 d10_93 rfl rfl ?_
  refine Go.daload 96 H81.2.2.2.2.2.1 (i := 0) (by decide) rfl d10_95 rfl ?_
  refine Go.dadd 97 g0 d10_96 rfl qg0.1 qg0.2 ?_
  refine Go.dstore 99 #[.val (.ref a), .val (.int (0 : Int32)), .val (.int (0 : Int32)), .val (.int (0 : Int32)), .val (.double g0), .second, .val (.double vs0), .second, .val (.int (0 : Int32)), .unset, .unset, .unset, .unset] d10_97 rfl rfl ?_
  refine Go.goto 114 d10_99 (by decide) (by decide) ?_
  refine Go.iinc 117 #[.val (.ref a), .val (.int (0 : Int32)), .val (.int (0 : Int32)), .val (.int (0 : Int32)), .val (.double g0), .second, .val (.double vs0), .second, .val (.int (1 : Int32)), .unset, .unset, .unset, .unset] (1 : Int32) d10_114 rfl rfl (by decide) rfl ?_
  refine Go.goto 63 d10_117 (by decide) (by decide) ?_
  refine Go.iload 65 d10_63 rfl rfl ?_
  refine Go.aloadN 66 d10_65 rfl rfl rfl ?_
  refine Go.getf 69 (hw _ (List.mem_of_getElem? (i := 13) rfl)) H81.1.2.2.1 d10_66 rfl ?_
  refine Go.iloadN 70 d10_69 rfl rfl ?_
  refine Go.iconst 71 (1 : Int32) d10_70 rfl (by decide) ?_
  refine Go.iadd 72 (1 : Int32) d10_71 rfl (by decide) ?_
  refine Go.iaload 73 H81.2.2.1 (i := 1) (by decide) rfl d10_72 rfl ?_
  refine Go.icmpF 76 d10_73 rfl (show (1 : Int) < (2 : Int) from by decide) ?_
  refine Go.aloadN 77 d10_76 rfl rfl rfl ?_
  refine Go.getf 80 (hw _ (List.mem_of_getElem? (i := 18) rfl)) H81.1.2.2.2.2.1 d10_77 rfl ?_
  refine Go.iload 82 d10_80 rfl rfl ?_
  refine Go.iaload 83 H81.2.2.2.2.1 (i := 1) (by decide) rfl d10_82 rfl ?_
  refine Go.iloadN 84 d10_83 rfl rfl ?_
  refine Go.icmpT 102 d10_84 (by decide) (by decide) (show (1 : Int) ≠ (0 : Int) from by decide) ?_
  refine Go.dload 104 d10_102 rfl rfl ?_
  refine Go.aloadN 105 d10_104 rfl rfl rfl ?_
  refine Go.getf 108 (hw _ (List.mem_of_getElem? (i := 20) rfl)) H81.1.2.2.2.2.2.1 d10_105 rfl ?_
  refine Go.iload 110 d10_108 rfl rfl ?_
  refine Go.daload 111 H81.2.2.2.2.2.1 (i := 1) (by decide) rfl d10_110 rfl ?_
  refine Go.dadd 112 m0 d10_111 rfl qm0.1 qm0.2 ?_
  refine Go.dstore 114 #[.val (.ref a), .val (.int (0 : Int32)), .val (.int (0 : Int32)), .val (.int (0 : Int32)), .val (.double g0), .second, .val (.double m0), .second, .val (.int (1 : Int32)), .unset, .unset, .unset, .unset] d10_112 rfl rfl ?_
  refine Go.iinc 117 #[.val (.ref a), .val (.int (0 : Int32)), .val (.int (0 : Int32)), .val (.int (0 : Int32)), .val (.double g0), .second, .val (.double m0), .second, .val (.int (2 : Int32)), .unset, .unset, .unset, .unset] (2 : Int32) d10_114 rfl rfl (by decide) rfl ?_
  refine Go.goto 63 d10_117 (by decide) (by decide) ?_
  refine Go.iload 65 d10_63 rfl rfl ?_
  refine Go.aloadN 66 d10_65 rfl rfl rfl ?_
  refine Go.getf 69 (hw _ (List.mem_of_getElem? (i := 13) rfl)) H81.1.2.2.1 d10_66 rfl ?_
  refine Go.iloadN 70 d10_69 rfl rfl ?_
  refine Go.iconst 71 (1 : Int32) d10_70 rfl (by decide) ?_
  refine Go.iadd 72 (1 : Int32) d10_71 rfl (by decide) ?_
  refine Go.iaload 73 H81.2.2.1 (i := 1) (by decide) rfl d10_72 rfl ?_
  refine Go.icmpT 120 d10_73 (by decide) (by decide) (show (2 : Int) ≤ (2 : Int) from by decide) ?_
  refine Go.dload 122 d10_120 rfl rfl ?_
  refine Go.dconst0 123 (0 : UInt64) d10_122 rfl rfl ?_
  refine Go.dcmp 124 (sg (0 + A0) 0) d10_123 rfl (cmpQ dg0 (dq_zero 4) _) ?_
  refine Go.ifCF 127 d10_124 rfl (show 0 < ((sg (0 + A0) 0)).toInt from by have := sg_cases (0 + A0) 0; omega) ?_
  refine Go.dload 129 d10_127 rfl rfl ?_
  refine Go.dconst0 130 (0 : UInt64) d10_129 rfl rfl ?_
  refine Go.dcmp 131 (sg (V0 + B0) 0) d10_130 rfl (cmpQ dm0 (dq_zero 4) _) ?_
  refine Go.ifCF 134 d10_131 rfl (show 0 < ((sg (V0 + B0) 0)).toInt from by have := sg_cases (V0 + B0) 0; omega) ?_
  refine Go.iconst 135 (1 : Int32) d10_134 rfl (by decide) ?_
  refine Go.goto 139 d10_135 (by decide) (by decide) ?_
  refine Go.istore 141 #[.val (.ref a), .val (.int (0 : Int32)), .val (.int (0 : Int32)), .val (.int (0 : Int32)), .val (.double g0), .second, .val (.double m0), .second, .val (.int (1 : Int32)), .unset, .unset, .unset, .unset] d10_139 rfl rfl ?_
  refine Go.iload 143 d10_141 rfl rfl ?_
  refine Go.ifCF 146 d10_143 rfl (show (1 : Int) ≠ 0 from by decide) ?_
  refine Go.dconst1 147 (4607182418800017408 : UInt64) d10_146 rfl rfl ?_
  refine Go.dload 149 d10_147 rfl rfl ?_
  refine Go.ddiv 150 sc0 d10_149 rfl qs0.1 qs0.2 ?_
  refine Go.goto 154 d10_150 (by decide) (by decide) ?_
  refine Go.dstore 156 #[.val (.ref a), .val (.int (0 : Int32)), .val (.int (0 : Int32)), .val (.int (0 : Int32)), .val (.double g0), .second, .val (.double m0), .second, .val (.int (1 : Int32)), .val (.double sc0), .second, .unset, .unset] d10_154 rfl rfl ?_
  refine Go.aloadN 157 d10_156 rfl rfl rfl ?_
  refine Go.getf 160 (hw _ (List.mem_of_getElem? (i := 16) rfl)) H81.1.2.2.2.1 d10_157 rfl ?_
  refine Go.iloadN 161 d10_160 rfl rfl ?_
  refine Go.dup2 162 d10_161 rfl rfl rfl ?_
  refine Go.daload 163 H81.2.2.2.1 (i := 0) (by decide) rfl d10_162 rfl ?_
  refine Go.dload 165 d10_163 rfl rfl ?_
  refine Go.dmul 166 ky0 d10_165 rfl qk0.1 qk0.2 ?_
  refine Go.dastore 167 H81.2.2.2.1 (i := 0) (by decide) (in4 (by decide)) (by have := H81.2.2.2.2.2.2.2; omega) d10_166 rfl ?_
  intro h82 K82 A82
  have H82 : BS Z n0 h82 a ra ca ka la fa va (2 : Int32) (2 : Int32) (4 : Int32) (1 : Int32) ([(0 : Int32), (1 : Int32), (2 : Int32), rs3] ++ tI) ([(0 : Int32), (2 : Int32), (4 : Int32), cs3] ++ tI) ([ky0, (0 : UInt64), ks2, ks3] ++ tD) ([(0 : Int32), (1 : Int32), (0 : Int32), (1 : Int32)] ++ tI) ([fs0, fs1, fs2, fs3] ++ tD) ([vs0, (0 : UInt64), vs2, vs3] ++ tD) := H81.set_constants K82 A82
  refine Go.aloadN 168 d10_167 rfl rfl rfl ?_
  refine Go.getf 171 (hw _ (List.mem_of_getElem? (i := 22) rfl)) H82.1.2.2.2.2.2.2.1 d10_168 rfl ?_
  refine Go.iloadN 172 d10_171 rfl rfl ?_
  refine Go.dup2 173 d10_172 rfl rfl rfl ?_
  refine Go.daload 174 H82.2.2.2.2.2.2.1 (i := 0) (by decide) rfl d10_173 rfl ?_
  refine Go.dload 176 d10_174 rfl rfl ?_
  refine Go.dmul 177 vy0 d10_176 rfl qv0.1 qv0.2 ?_
  refine Go.dastore 178 H82.2.2.2.2.2.2.1 (i := 0) (by decide) (in4 (by decide)) (by have := H82.2.2.2.2.2.2.2; omega) d10_177 rfl ?_
  intro h83 K83 A83
  have H83 : BS Z n0 h83 a ra ca ka la fa va (2 : Int32) (2 : Int32) (4 : Int32) (1 : Int32) ([(0 : Int32), (1 : Int32), (2 : Int32), rs3] ++ tI) ([(0 : Int32), (2 : Int32), (4 : Int32), cs3] ++ tI) ([ky0, (0 : UInt64), ks2, ks3] ++ tD) ([(0 : Int32), (1 : Int32), (0 : Int32), (1 : Int32)] ++ tI) ([fs0, fs1, fs2, fs3] ++ tD) ([vy0, (0 : UInt64), vs2, vs3] ++ tD) := H82.set_leaving K83 A83
  refine Go.iloadN 179 d10_178 rfl rfl ?_
  refine Go.istore 181 #[.val (.ref a), .val (.int (0 : Int32)), .val (.int (0 : Int32)), .val (.int (0 : Int32)), .val (.double g0), .second, .val (.double m0), .second, .val (.int (1 : Int32)), .val (.double sc0), .second, .val (.int (0 : Int32)), .unset] d10_179 rfl rfl ?_
  refine Go.aloadN 182 d10_181 rfl rfl rfl ?_
  refine Go.getf 185 (hw _ (List.mem_of_getElem? (i := 13) rfl)) H83.1.2.2.1 d10_182 rfl ?_
  refine Go.iloadN 186 d10_185 rfl rfl ?_
  refine Go.iaload 187 H83.2.2.1 (i := 0) (by decide) rfl d10_186 rfl ?_
  refine Go.istore 189 #[.val (.ref a), .val (.int (0 : Int32)), .val (.int (0 : Int32)), .val (.int (0 : Int32)), .val (.double g0), .second, .val (.double m0), .second, .val (.int (1 : Int32)), .val (.double sc0), .second, .val (.int (0 : Int32)), .val (.int (0 : Int32))] d10_187 rfl rfl ?_
  refine Go.iload 191 d10_189 rfl rfl ?_
  refine Go.aloadN 192 d10_191 rfl rfl rfl ?_
  refine Go.getf 195 (hw _ (List.mem_of_getElem? (i := 13) rfl)) H83.1.2.2.1 d10_192 rfl ?_
  refine Go.iloadN 196 d10_195 rfl rfl ?_
  refine Go.iconst 197 (1 : Int32) d10_196 rfl (by decide) ?_
  refine Go.iadd 198 (1 : Int32) d10_197 rfl (by decide) ?_
  refine Go.iaload 199 H83.2.2.1 (i := 1) (by decide) rfl d10_198 rfl ?_
  refine Go.icmpF 202 d10_199 rfl (show (0 : Int) < (2 : Int) from by decide) ?_
  refine Go.iload 204 d10_202 rfl rfl ?_
  refine Go.ifCF 207 d10_204 rfl (show (1 : Int) ≠ 0 from by decide) ?_
  refine Go.aloadN 208 d10_207 rfl rfl rfl ?_
  refine Go.getf 211 (hw _ (List.mem_of_getElem? (i := 18) rfl)) H83.1.2.2.2.2.1 d10_208 rfl ?_
  refine Go.iload 213 d10_211 rfl rfl ?_
  refine Go.iaload 214 H83.2.2.2.2.1 (i := 0) (by decide) rfl d10_213 rfl ?_
  refine Go.iloadN 215 d10_214 rfl rfl ?_
  refine Go.icmpT 250 d10_215 (by decide) (by decide) (show (0 : Int) = (0 : Int) from by decide) ?_
  refine Go.iinc 253 #[.val (.ref a), .val (.int (0 : Int32)), .val (.int (0 : Int32)), .val (.int (0 : Int32)), .val (.double g0), .second, .val (.double m0), .second, .val (.int (1 : Int32)), .val (.double sc0), .second, .val (.int (0 : Int32)), .val (.int (1 : Int32))] (1 : Int32) d10_250 rfl rfl (by decide) rfl ?_
  refine Go.goto 189 d10_253 (by decide) (by decide) ?_
  refine Go.iload 191 d10_189 rfl rfl ?_
  refine Go.aloadN 192 d10_191 rfl rfl rfl ?_
  refine Go.getf 195 (hw _ (List.mem_of_getElem? (i := 13) rfl)) H83.1.2.2.1 d10_192 rfl ?_
  refine Go.iloadN 196 d10_195 rfl rfl ?_
  refine Go.iconst 197 (1 : Int32) d10_196 rfl (by decide) ?_
  refine Go.iadd 198 (1 : Int32) d10_197 rfl (by decide) ?_
  refine Go.iaload 199 H83.2.2.1 (i := 1) (by decide) rfl d10_198 rfl ?_
  refine Go.icmpF 202 d10_199 rfl (show (1 : Int) < (2 : Int) from by decide) ?_
  refine Go.iload 204 d10_202 rfl rfl ?_
  refine Go.ifCF 207 d10_204 rfl (show (1 : Int) ≠ 0 from by decide) ?_
  refine Go.aloadN 208 d10_207 rfl rfl rfl ?_
  refine Go.getf 211 (hw _ (List.mem_of_getElem? (i := 18) rfl)) H83.1.2.2.2.2.1 d10_208 rfl ?_
  refine Go.iload 213 d10_211 rfl rfl ?_
  refine Go.iaload 214 H83.2.2.2.2.1 (i := 1) (by decide) rfl d10_213 rfl ?_
  refine Go.iloadN 215 d10_214 rfl rfl ?_
  refine Go.icmpF 218 d10_215 rfl (show (1 : Int) ≠ (0 : Int) from by decide) ?_
  refine Go.aloadN 219 d10_218 rfl rfl rfl ?_
  refine Go.getf 222 (hw _ (List.mem_of_getElem? (i := 18) rfl)) H83.1.2.2.2.2.1 d10_219 rfl ?_
  refine Go.iloadN 223 d10_222 rfl rfl ?_
  refine Go.aloadN 224 d10_223 rfl rfl rfl ?_
  refine Go.getf 227 (hw _ (List.mem_of_getElem? (i := 18) rfl)) H83.1.2.2.2.2.1 d10_224 rfl ?_
  refine Go.iload 229 d10_227 rfl rfl ?_
  refine Go.iaload 230 H83.2.2.2.2.1 (i := 1) (by decide) rfl d10_229 rfl ?_
  refine Go.iastore 231 H83.2.2.2.2.1 (i := 0) (by decide) (in4 (by decide)) (by have := H83.2.2.2.2.2.2.2; omega) d10_230 rfl ?_
  intro h84 K84 A84
  have H84 : BS Z n0 h84 a ra ca ka la fa va (2 : Int32) (2 : Int32) (4 : Int32) (1 : Int32) ([(0 : Int32), (1 : Int32), (2 : Int32), rs3] ++ tI) ([(0 : Int32), (2 : Int32), (4 : Int32), cs3] ++ tI) ([ky0, (0 : UInt64), ks2, ks3] ++ tD) ([(1 : Int32), (1 : Int32), (0 : Int32), (1 : Int32)] ++ tI) ([fs0, fs1, fs2, fs3] ++ tD) ([vy0, (0 : UInt64), vs2, vs3] ++ tD) := H83.set_columns K84 A84
  refine Go.aloadN 232 d10_231 rfl rfl rfl ?_
  refine Go.getf 235 (hw _ (List.mem_of_getElem? (i := 20) rfl)) H84.1.2.2.2.2.2.1 d10_232 rfl ?_
  refine Go.iloadN 236 d10_235 rfl rfl ?_
  refine Go.aloadN 237 d10_236 rfl rfl rfl ?_
  refine Go.getf 240 (hw _ (List.mem_of_getElem? (i := 20) rfl)) H84.1.2.2.2.2.2.1 d10_237 rfl ?_
  refine Go.iload 242 d10_240 rfl rfl ?_
  refine Go.daload 243 H84.2.2.2.2.2.1 (i := 1) (by decide) rfl d10_242 rfl ?_
  refine Go.dload 245 d10_243 rfl rfl ?_
  refine Go.dmul 246 fy_b0 d10_245 rfl qf_b0.1 qf_b0.2 ?_
  refine Go.dastore 247 H84.2.2.2.2.2.1 (i := 0) (by decide) (in4 (by decide)) (by have := H84.2.2.2.2.2.2.2; omega) d10_246 rfl ?_
  intro h85 K85 A85
  have H85 : BS Z n0 h85 a ra ca ka la fa va (2 : Int32) (2 : Int32) (4 : Int32) (1 : Int32) ([(0 : Int32), (1 : Int32), (2 : Int32), rs3] ++ tI) ([(0 : Int32), (2 : Int32), (4 : Int32), cs3] ++ tI) ([ky0, (0 : UInt64), ks2, ks3] ++ tD) ([(1 : Int32), (1 : Int32), (0 : Int32), (1 : Int32)] ++ tI) ([fy_b0, fs1, fs2, fs3] ++ tD) ([vy0, (0 : UInt64), vs2, vs3] ++ tD) := H84.set_coefficients K85 A85
  refine Go.iinc 250 #[.val (.ref a), .val (.int (1 : Int32)), .val (.int (0 : Int32)), .val (.int (0 : Int32)), .val (.double g0), .second, .val (.double m0), .second, .val (.int (1 : Int32)), .val (.double sc0), .second, .val (.int (0 : Int32)), .val (.int (1 : Int32))] (1 : Int32) d10_247 rfl rfl (by decide) rfl ?_
  refine Go.iinc 253 #[.val (.ref a), .val (.int (1 : Int32)), .val (.int (0 : Int32)), .val (.int (0 : Int32)), .val (.double g0), .second, .val (.double m0), .second, .val (.int (1 : Int32)), .val (.double sc0), .second, .val (.int (0 : Int32)), .val (.int (2 : Int32))] (2 : Int32) d10_250 rfl rfl (by decide) rfl ?_
  refine Go.goto 189 d10_253 (by decide) (by decide) ?_
  refine Go.iload 191 d10_189 rfl rfl ?_
  refine Go.aloadN 192 d10_191 rfl rfl rfl ?_
  refine Go.getf 195 (hw _ (List.mem_of_getElem? (i := 13) rfl)) H85.1.2.2.1 d10_192 rfl ?_
  refine Go.iloadN 196 d10_195 rfl rfl ?_
  refine Go.iconst 197 (1 : Int32) d10_196 rfl (by decide) ?_
  refine Go.iadd 198 (1 : Int32) d10_197 rfl (by decide) ?_
  refine Go.iaload 199 H85.2.2.1 (i := 1) (by decide) rfl d10_198 rfl ?_
  refine Go.icmpT 256 d10_199 (by decide) (by decide) (show (2 : Int) ≤ (2 : Int) from by decide) ?_
  refine Go.aloadN 257 d10_256 rfl rfl rfl ?_
  refine Go.getf 260 (hw _ (List.mem_of_getElem? (i := 13) rfl)) H85.1.2.2.1 d10_257 rfl ?_
  refine Go.iloadN 261 d10_260 rfl rfl ?_
  refine Go.iload 263 d10_261 rfl rfl ?_
  refine Go.iastore 264 H85.2.2.1 (i := 0) (by decide) (in4 (by decide)) (by have := H85.2.2.2.2.2.2.2; omega) d10_263 rfl ?_
  intro h86 K86 A86
  have H86 : BS Z n0 h86 a ra ca ka la fa va (2 : Int32) (2 : Int32) (4 : Int32) (1 : Int32) ([(0 : Int32), (1 : Int32), (2 : Int32), rs3] ++ tI) ([(0 : Int32), (2 : Int32), (4 : Int32), cs3] ++ tI) ([ky0, (0 : UInt64), ks2, ks3] ++ tD) ([(1 : Int32), (1 : Int32), (0 : Int32), (1 : Int32)] ++ tI) ([fy_b0, fs1, fs2, fs3] ++ tD) ([vy0, (0 : UInt64), vs2, vs3] ++ tD) := H85.set_choiceStart K86 A86
  refine Go.iinc 267 #[.val (.ref a), .val (.int (1 : Int32)), .val (.int (0 : Int32)), .val (.int (1 : Int32)), .val (.double g0), .second, .val (.double m0), .second, .val (.int (1 : Int32)), .val (.double sc0), .second, .val (.int (0 : Int32)), .val (.int (2 : Int32))] (1 : Int32) d10_264 rfl rfl (by decide) rfl ?_
  refine Go.goto 32 d10_267 (by decide) (by decide) ?_
  refine Go.iloadN 33 d10_32 rfl rfl ?_
  refine Go.aloadN 34 d10_33 rfl rfl rfl ?_
  refine Go.getf 37 (hw _ (List.mem_of_getElem? (i := 11) rfl)) H86.1.2.1 d10_34 rfl ?_
  refine Go.iloadN 38 d10_37 rfl rfl ?_
  refine Go.iconst 39 (1 : Int32) d10_38 rfl (by decide) ?_
  refine Go.iadd 40 (1 : Int32) d10_39 rfl (by decide) ?_
  refine Go.iaload 41 H86.2.1 (i := 1) (by decide) rfl d10_40 rfl ?_
  refine Go.icmpT 270 d10_41 (by decide) (by decide) (show (1 : Int) ≤ (1 : Int) from by decide) ?_
  refine Go.iinc 273 #[.val (.ref a), .val (.int (1 : Int32)), .val (.int (1 : Int32)), .val (.int (1 : Int32)), .val (.double g0), .second, .val (.double m0), .second, .val (.int (1 : Int32)), .val (.double sc0), .second, .val (.int (0 : Int32)), .val (.int (2 : Int32))] (1 : Int32) d10_270 rfl rfl (by decide) rfl ?_
  refine Go.goto 17 d10_273 (by decide) (by decide) ?_
  refine Go.iloadN 18 d10_17 rfl rfl ?_
  refine Go.aloadN 19 d10_18 rfl rfl rfl ?_
  refine Go.getf 22 (hw _ (List.mem_of_getElem? (i := 29) rfl)) H86.1.2.2.2.2.2.2.2.1 d10_19 rfl ?_
  refine Go.icmpF 25 d10_22 rfl (show (1 : Int) < (2 : Int) from by decide) ?_
  refine Go.aloadN 26 d10_25 rfl rfl rfl ?_
  refine Go.getf 29 (hw _ (List.mem_of_getElem? (i := 11) rfl)) H86.1.2.1 d10_26 rfl ?_
  refine Go.iloadN 30 d10_29 rfl rfl ?_
  refine Go.iaload 31 H86.2.1 (i := 1) (by decide) rfl d10_30 rfl ?_
  refine Go.istoreN 32 #[.val (.ref a), .val (.int (1 : Int32)), .val (.int (1 : Int32)), .val (.int (1 : Int32)), .val (.double g0), .second, .val (.double m0), .second, .val (.int (1 : Int32)), .val (.double sc0), .second, .val (.int (0 : Int32)), .val (.int (2 : Int32))] d10_31 rfl rfl ?_
  refine Go.iloadN 33 d10_32 rfl rfl ?_
  refine Go.aloadN 34 d10_33 rfl rfl rfl ?_
  refine Go.getf 37 (hw _ (List.mem_of_getElem? (i := 11) rfl)) H86.1.2.1 d10_34 rfl ?_
  refine Go.iloadN 38 d10_37 rfl rfl ?_
  refine Go.iconst 39 (1 : Int32) d10_38 rfl (by decide) ?_
  refine Go.iadd 40 (2 : Int32) d10_39 rfl (by decide) ?_
  refine Go.iaload 41 H86.2.1 (i := 2) (by decide) rfl d10_40 rfl ?_
  refine Go.icmpF 44 d10_41 rfl (show (1 : Int) < (2 : Int) from by decide) ?_
  refine Go.dconst0 45 (0 : UInt64) d10_44 rfl rfl ?_
  refine Go.dstore 47 #[.val (.ref a), .val (.int (1 : Int32)), .val (.int (1 : Int32)), .val (.int (1 : Int32)), .val (.double (0 : UInt64)), .second, .val (.double m0), .second, .val (.int (1 : Int32)), .val (.double sc0), .second, .val (.int (0 : Int32)), .val (.int (2 : Int32))] d10_45 rfl rfl ?_
  refine Go.aloadN 48 d10_47 rfl rfl rfl ?_
  refine Go.getf 51 (hw _ (List.mem_of_getElem? (i := 22) rfl)) H86.1.2.2.2.2.2.2.1 d10_48 rfl ?_
  refine Go.iloadN 52 d10_51 rfl rfl ?_
  refine Go.daload 53 H86.2.2.2.2.2.2.1 (i := 1) (by decide) rfl d10_52 rfl ?_
  refine Go.dstore 55 #[.val (.ref a), .val (.int (1 : Int32)), .val (.int (1 : Int32)), .val (.int (1 : Int32)), .val (.double (0 : UInt64)), .second, .val (.double (0 : UInt64)), .second, .val (.int (1 : Int32)), .val (.double sc0), .second, .val (.int (0 : Int32)), .val (.int (2 : Int32))] d10_53 rfl rfl ?_
  refine Go.aloadN 56 d10_55 rfl rfl rfl ?_
  refine Go.getf 59 (hw _ (List.mem_of_getElem? (i := 13) rfl)) H86.1.2.2.1 d10_56 rfl ?_
  refine Go.iloadN 60 d10_59 rfl rfl ?_
  refine Go.iaload 61 H86.2.2.1 (i := 1) (by decide) rfl d10_60 rfl ?_
  refine Go.istore 63 #[.val (.ref a), .val (.int (1 : Int32)), .val (.int (1 : Int32)), .val (.int (1 : Int32)), .val (.double (0 : UInt64)), .second, .val (.double (0 : UInt64)), .second, .val (.int (2 : Int32)), .val (.double sc0), .second, .val (.int (0 : Int32)), .val (.int (2 : Int32))] d10_61 rfl rfl ?_
  refine Go.iload 65 d10_63 rfl rfl ?_
  refine Go.aloadN 66 d10_65 rfl rfl rfl ?_
  refine Go.getf 69 (hw _ (List.mem_of_getElem? (i := 13) rfl)) H86.1.2.2.1 d10_66 rfl ?_
  refine Go.iloadN 70 d10_69 rfl rfl ?_
  refine Go.iconst 71 (1 : Int32) d10_70 rfl (by decide) ?_
  refine Go.iadd 72 (2 : Int32) d10_71 rfl (by decide) ?_
  refine Go.iaload 73 H86.2.2.1 (i := 2) (by decide) rfl d10_72 rfl ?_
  refine Go.icmpF 76 d10_73 rfl (show (2 : Int) < (4 : Int) from by decide) ?_
  refine Go.aloadN 77 d10_76 rfl rfl rfl ?_
  refine Go.getf 80 (hw _ (List.mem_of_getElem? (i := 18) rfl)) H86.1.2.2.2.2.1 d10_77 rfl ?_
  refine Go.iload 82 d10_80 rfl rfl ?_
  refine Go.iaload 83 H86.2.2.2.2.1 (i := 2) (by decide) rfl d10_82 rfl ?_
  refine Go.iloadN 84 d10_83 rfl rfl ?_
  refine Go.icmpT 102 d10_84 (by decide) (by decide) (show (0 : Int) ≠ (1 : Int) from by decide) ?_
  refine Go.dload 104 d10_102 rfl rfl ?_
  refine Go.aloadN 105 d10_104 rfl rfl rfl ?_
  refine Go.getf 108 (hw _ (List.mem_of_getElem? (i := 20) rfl)) H86.1.2.2.2.2.2.1 d10_105 rfl ?_
  refine Go.iload 110 d10_108 rfl rfl ?_
  refine Go.daload 111 H86.2.2.2.2.2.1 (i := 2) (by decide) rfl d10_110 rfl ?_
  refine Go.dadd 112 m1 d10_111 rfl qm1.1 qm1.2 ?_
  refine Go.dstore 114 #[.val (.ref a), .val (.int (1 : Int32)), .val (.int (1 : Int32)), .val (.int (1 : Int32)), .val (.double (0 : UInt64)), .second, .val (.double m1), .second, .val (.int (2 : Int32)), .val (.double sc0), .second, .val (.int (0 : Int32)), .val (.int (2 : Int32))] d10_112 rfl rfl ?_
  refine Go.iinc 117 #[.val (.ref a), .val (.int (1 : Int32)), .val (.int (1 : Int32)), .val (.int (1 : Int32)), .val (.double (0 : UInt64)), .second, .val (.double m1), .second, .val (.int (3 : Int32)), .val (.double sc0), .second, .val (.int (0 : Int32)), .val (.int (2 : Int32))] (3 : Int32) d10_114 rfl rfl (by decide) rfl ?_
  refine Go.goto 63 d10_117 (by decide) (by decide) ?_
  refine Go.iload 65 d10_63 rfl rfl ?_
  refine Go.aloadN 66 d10_65 rfl rfl rfl ?_
  refine Go.getf 69 (hw _ (List.mem_of_getElem? (i := 13) rfl)) H86.1.2.2.1 d10_66 rfl ?_
  refine Go.iloadN 70 d10_69 rfl rfl ?_
  refine Go.iconst 71 (1 : Int32) d10_70 rfl (by decide) ?_
  refine Go.iadd 72 (2 : Int32) d10_71 rfl (by decide) ?_
  refine Go.iaload 73 H86.2.2.1 (i := 2) (by decide) rfl d10_72 rfl ?_
  refine Go.icmpF 76 d10_73 rfl (show (3 : Int) < (4 : Int) from by decide) ?_
  refine Go.aloadN 77 d10_76 rfl rfl rfl ?_
  refine Go.getf 80 (hw _ (List.mem_of_getElem? (i := 18) rfl)) H86.1.2.2.2.2.1 d10_77 rfl ?_
  refine Go.iload 82 d10_80 rfl rfl ?_
  refine Go.iaload 83 H86.2.2.2.2.1 (i := 3) (by decide) rfl d10_82 rfl ?_
  refine Go.iloadN 84 d10_83 rfl rfl ?_
  refine Go.icmpF 87 d10_84 rfl (show (1 : Int) = (1 : Int) from by decide) ?_
  refine Go.dload 89 d10_87 rfl rfl ?_
  refine Go.aloadN 90 d10_89 rfl rfl rfl ?_
  refine Go.getf 93 (hw _ (List.mem_of_getElem? (i := 20) rfl)) H86.1.2.2.2.2.2.1 d10_90 rfl ?_
  refine Go.iload 95 d10_93 rfl rfl ?_
  refine Go.daload 96 H86.2.2.2.2.2.1 (i := 3) (by decide) rfl d10_95 rfl ?_
  refine Go.dadd 97 g1 d10_96 rfl qg1.1 qg1.2 ?_
  refine Go.dstore 99 #[.val (.ref a), .val (.int (1 : Int32)), .val (.int (1 : Int32)), .val (.int (1 : Int32)), .val (.double g1), .second, .val (.double m1), .second, .val (.int (3 : Int32)), .val (.double sc0), .second, .val (.int (0 : Int32)), .val (.int (2 : Int32))] d10_97 rfl rfl ?_
  refine Go.goto 114 d10_99 (by decide) (by decide) ?_
  refine Go.iinc 117 #[.val (.ref a), .val (.int (1 : Int32)), .val (.int (1 : Int32)), .val (.int (1 : Int32)), .val (.double g1), .second, .val (.double m1), .second, .val (.int (4 : Int32)), .val (.double sc0), .second, .val (.int (0 : Int32)), .val (.int (2 : Int32))] (4 : Int32) d10_114 rfl rfl (by decide) rfl ?_
  refine Go.goto 63 d10_117 (by decide) (by decide) ?_
  refine Go.iload 65 d10_63 rfl rfl ?_
  refine Go.aloadN 66 d10_65 rfl rfl rfl ?_
  refine Go.getf 69 (hw _ (List.mem_of_getElem? (i := 13) rfl)) H86.1.2.2.1 d10_66 rfl ?_
  refine Go.iloadN 70 d10_69 rfl rfl ?_
  refine Go.iconst 71 (1 : Int32) d10_70 rfl (by decide) ?_
  refine Go.iadd 72 (2 : Int32) d10_71 rfl (by decide) ?_
  refine Go.iaload 73 H86.2.2.1 (i := 2) (by decide) rfl d10_72 rfl ?_
  refine Go.icmpT 120 d10_73 (by decide) (by decide) (show (4 : Int) ≤ (4 : Int) from by decide) ?_
  refine Go.dload 122 d10_120 rfl rfl ?_
  refine Go.dconst0 123 (0 : UInt64) d10_122 rfl rfl ?_
  refine Go.dcmp 124 (sg (0 + A1) 0) d10_123 rfl (cmpQ dg1 (dq_zero 4) _) ?_
  have g139_1 : Go l Z ({ frames := 0, cells := 0, slots := 0, locals := 0 } : Room) ((⟨"com/example/orbifold/orbifold/solvers/BellmanSystem", "foldReturns", "()V"⟩ : MethodName), prog_167_method_28_code, 13, none) n0 (fun r h' => r = none ∧ ∃ k v fa_ fb fb1 fa1 k1 v1, DQ 0 (K * S0) k ∧ DQ 4 (V0 * S0) v ∧ DQ 4 (A0 * S0) fa_ ∧ DQ 4 (B0 * S0) fb ∧ DQ 4 (B1 * 1) fb1 ∧ DQ 4 (A1 * 1) fa1 ∧ BS Z n0 h' a ra ca ka la fa va (2 : Int32) (2 : Int32) (3 : Int32) (1 : Int32) ([(0 : Int32), (1 : Int32), (2 : Int32), rs3] ++ tI) ([(0 : Int32), (1 : Int32), (3 : Int32), cs3] ++ tI) ([k, k1, ks2, ks3] ++ tD) ([(1 : Int32), (0 : Int32), (1 : Int32), (1 : Int32)] ++ tI) ([fb, fb1, fa1, fs3] ++ tD) ([v, v1, vs2, vs3] ++ tD)) h86 0 0 139 #[.val (.ref a), .val (.int (1 : Int32)), .val (.int (1 : Int32)), .val (.int (1 : Int32)), .val (.double g1), .second, .val (.double m1), .second, .val (.int (4 : Int32)), .val (.double sc0), .second, .val (.int (0 : Int32)), .val (.int (2 : Int32))] [.int 0] := by
    refine Go.istore 141 #[.val (.ref a), .val (.int (1 : Int32)), .val (.int (1 : Int32)), .val (.int (1 : Int32)), .val (.double g1), .second, .val (.double m1), .second, .val (.int (0 : Int32)), .val (.double sc0), .second, .val (.int (0 : Int32)), .val (.int (2 : Int32))] d10_139 rfl rfl ?_
    refine Go.iload 143 d10_141 rfl rfl ?_
    refine Go.ifCT 153 d10_143 (by decide) (by decide) (show (0 : Int) = 0 from by decide) ?_
    refine Go.dconst1 154 (4607182418800017408 : UInt64) d10_153 rfl rfl ?_
    refine Go.dstore 156 #[.val (.ref a), .val (.int (1 : Int32)), .val (.int (1 : Int32)), .val (.int (1 : Int32)), .val (.double g1), .second, .val (.double m1), .second, .val (.int (0 : Int32)), .val (.double (4607182418800017408 : UInt64)), .second, .val (.int (0 : Int32)), .val (.int (2 : Int32))] d10_154 rfl rfl ?_
    refine Go.aloadN 157 d10_156 rfl rfl rfl ?_
    refine Go.getf 160 (hw _ (List.mem_of_getElem? (i := 16) rfl)) H86.1.2.2.2.1 d10_157 rfl ?_
    refine Go.iloadN 161 d10_160 rfl rfl ?_
    refine Go.dup2 162 d10_161 rfl rfl rfl ?_
    refine Go.daload 163 H86.2.2.2.1 (i := 1) (by decide) rfl d10_162 rfl ?_
    refine Go.dload 165 d10_163 rfl rfl ?_
    refine Go.dmul 166 ky1 d10_165 rfl qk1.1 qk1.2 ?_
    refine Go.dastore 167 H86.2.2.2.1 (i := 1) (by decide) (in4 (by decide)) (by have := H86.2.2.2.2.2.2.2; omega) d10_166 rfl ?_
    intro h87 K87 A87
    have H87 : BS Z n0 h87 a ra ca ka la fa va (2 : Int32) (2 : Int32) (4 : Int32) (1 : Int32) ([(0 : Int32), (1 : Int32), (2 : Int32), rs3] ++ tI) ([(0 : Int32), (2 : Int32), (4 : Int32), cs3] ++ tI) ([ky0, ky1, ks2, ks3] ++ tD) ([(1 : Int32), (1 : Int32), (0 : Int32), (1 : Int32)] ++ tI) ([fy_b0, fs1, fs2, fs3] ++ tD) ([vy0, (0 : UInt64), vs2, vs3] ++ tD) := H86.set_constants K87 A87
    refine Go.aloadN 168 d10_167 rfl rfl rfl ?_
    refine Go.getf 171 (hw _ (List.mem_of_getElem? (i := 22) rfl)) H87.1.2.2.2.2.2.2.1 d10_168 rfl ?_
    refine Go.iloadN 172 d10_171 rfl rfl ?_
    refine Go.dup2 173 d10_172 rfl rfl rfl ?_
    refine Go.daload 174 H87.2.2.2.2.2.2.1 (i := 1) (by decide) rfl d10_173 rfl ?_
    refine Go.dload 176 d10_174 rfl rfl ?_
    refine Go.dmul 177 vy1 d10_176 rfl qv1.1 qv1.2 ?_
    refine Go.dastore 178 H87.2.2.2.2.2.2.1 (i := 1) (by decide) (in4 (by decide)) (by have := H87.2.2.2.2.2.2.2; omega) d10_177 rfl ?_
    intro h88 K88 A88
    have H88 : BS Z n0 h88 a ra ca ka la fa va (2 : Int32) (2 : Int32) (4 : Int32) (1 : Int32) ([(0 : Int32), (1 : Int32), (2 : Int32), rs3] ++ tI) ([(0 : Int32), (2 : Int32), (4 : Int32), cs3] ++ tI) ([ky0, ky1, ks2, ks3] ++ tD) ([(1 : Int32), (1 : Int32), (0 : Int32), (1 : Int32)] ++ tI) ([fy_b0, fs1, fs2, fs3] ++ tD) ([vy0, vy1, vs2, vs3] ++ tD) := H87.set_leaving K88 A88
    refine Go.iloadN 179 d10_178 rfl rfl ?_
    refine Go.istore 181 #[.val (.ref a), .val (.int (1 : Int32)), .val (.int (1 : Int32)), .val (.int (1 : Int32)), .val (.double g1), .second, .val (.double m1), .second, .val (.int (0 : Int32)), .val (.double (4607182418800017408 : UInt64)), .second, .val (.int (1 : Int32)), .val (.int (2 : Int32))] d10_179 rfl rfl ?_
    refine Go.aloadN 182 d10_181 rfl rfl rfl ?_
    refine Go.getf 185 (hw _ (List.mem_of_getElem? (i := 13) rfl)) H88.1.2.2.1 d10_182 rfl ?_
    refine Go.iloadN 186 d10_185 rfl rfl ?_
    refine Go.iaload 187 H88.2.2.1 (i := 1) (by decide) rfl d10_186 rfl ?_
    refine Go.istore 189 #[.val (.ref a), .val (.int (1 : Int32)), .val (.int (1 : Int32)), .val (.int (1 : Int32)), .val (.double g1), .second, .val (.double m1), .second, .val (.int (0 : Int32)), .val (.double (4607182418800017408 : UInt64)), .second, .val (.int (1 : Int32)), .val (.int (2 : Int32))] d10_187 rfl rfl ?_
    refine Go.iload 191 d10_189 rfl rfl ?_
    refine Go.aloadN 192 d10_191 rfl rfl rfl ?_
    refine Go.getf 195 (hw _ (List.mem_of_getElem? (i := 13) rfl)) H88.1.2.2.1 d10_192 rfl ?_
    refine Go.iloadN 196 d10_195 rfl rfl ?_
    refine Go.iconst 197 (1 : Int32) d10_196 rfl (by decide) ?_
    refine Go.iadd 198 (2 : Int32) d10_197 rfl (by decide) ?_
    refine Go.iaload 199 H88.2.2.1 (i := 2) (by decide) rfl d10_198 rfl ?_
    refine Go.icmpF 202 d10_199 rfl (show (2 : Int) < (4 : Int) from by decide) ?_
    refine Go.iload 204 d10_202 rfl rfl ?_
    refine Go.ifCT 218 d10_204 (by decide) (by decide) (show (0 : Int) = 0 from by decide) ?_
    refine Go.aloadN 219 d10_218 rfl rfl rfl ?_
    refine Go.getf 222 (hw _ (List.mem_of_getElem? (i := 18) rfl)) H88.1.2.2.2.2.1 d10_219 rfl ?_
    refine Go.iloadN 223 d10_222 rfl rfl ?_
    refine Go.aloadN 224 d10_223 rfl rfl rfl ?_
    refine Go.getf 227 (hw _ (List.mem_of_getElem? (i := 18) rfl)) H88.1.2.2.2.2.1 d10_224 rfl ?_
    refine Go.iload 229 d10_227 rfl rfl ?_
    refine Go.iaload 230 H88.2.2.2.2.1 (i := 2) (by decide) rfl d10_229 rfl ?_
    refine Go.iastore 231 H88.2.2.2.2.1 (i := 1) (by decide) (in4 (by decide)) (by have := H88.2.2.2.2.2.2.2; omega) d10_230 rfl ?_
    intro h89 K89 A89
    have H89 : BS Z n0 h89 a ra ca ka la fa va (2 : Int32) (2 : Int32) (4 : Int32) (1 : Int32) ([(0 : Int32), (1 : Int32), (2 : Int32), rs3] ++ tI) ([(0 : Int32), (2 : Int32), (4 : Int32), cs3] ++ tI) ([ky0, ky1, ks2, ks3] ++ tD) ([(1 : Int32), (0 : Int32), (0 : Int32), (1 : Int32)] ++ tI) ([fy_b0, fs1, fs2, fs3] ++ tD) ([vy0, vy1, vs2, vs3] ++ tD) := H88.set_columns K89 A89
    refine Go.aloadN 232 d10_231 rfl rfl rfl ?_
    refine Go.getf 235 (hw _ (List.mem_of_getElem? (i := 20) rfl)) H89.1.2.2.2.2.2.1 d10_232 rfl ?_
    refine Go.iloadN 236 d10_235 rfl rfl ?_
    refine Go.aloadN 237 d10_236 rfl rfl rfl ?_
    refine Go.getf 240 (hw _ (List.mem_of_getElem? (i := 20) rfl)) H89.1.2.2.2.2.2.1 d10_237 rfl ?_
    refine Go.iload 242 d10_240 rfl rfl ?_
    refine Go.daload 243 H89.2.2.2.2.2.1 (i := 2) (by decide) rfl d10_242 rfl ?_
    refine Go.dload 245 d10_243 rfl rfl ?_
    refine Go.dmul 246 fy_b1 d10_245 rfl qf_b1.1 qf_b1.2 ?_
    refine Go.dastore 247 H89.2.2.2.2.2.1 (i := 1) (by decide) (in4 (by decide)) (by have := H89.2.2.2.2.2.2.2; omega) d10_246 rfl ?_
    intro h90 K90 A90
    have H90 : BS Z n0 h90 a ra ca ka la fa va (2 : Int32) (2 : Int32) (4 : Int32) (1 : Int32) ([(0 : Int32), (1 : Int32), (2 : Int32), rs3] ++ tI) ([(0 : Int32), (2 : Int32), (4 : Int32), cs3] ++ tI) ([ky0, ky1, ks2, ks3] ++ tD) ([(1 : Int32), (0 : Int32), (0 : Int32), (1 : Int32)] ++ tI) ([fy_b0, fy_b1, fs2, fs3] ++ tD) ([vy0, vy1, vs2, vs3] ++ tD) := H89.set_coefficients K90 A90
    refine Go.iinc 250 #[.val (.ref a), .val (.int (2 : Int32)), .val (.int (1 : Int32)), .val (.int (1 : Int32)), .val (.double g1), .second, .val (.double m1), .second, .val (.int (0 : Int32)), .val (.double (4607182418800017408 : UInt64)), .second, .val (.int (1 : Int32)), .val (.int (2 : Int32))] (2 : Int32) d10_247 rfl rfl (by decide) rfl ?_
    refine Go.iinc 253 #[.val (.ref a), .val (.int (2 : Int32)), .val (.int (1 : Int32)), .val (.int (1 : Int32)), .val (.double g1), .second, .val (.double m1), .second, .val (.int (0 : Int32)), .val (.double (4607182418800017408 : UInt64)), .second, .val (.int (1 : Int32)), .val (.int (3 : Int32))] (3 : Int32) d10_250 rfl rfl (by decide) rfl ?_
    refine Go.goto 189 d10_253 (by decide) (by decide) ?_
    refine Go.iload 191 d10_189 rfl rfl ?_
    refine Go.aloadN 192 d10_191 rfl rfl rfl ?_
    refine Go.getf 195 (hw _ (List.mem_of_getElem? (i := 13) rfl)) H90.1.2.2.1 d10_192 rfl ?_
    refine Go.iloadN 196 d10_195 rfl rfl ?_
    refine Go.iconst 197 (1 : Int32) d10_196 rfl (by decide) ?_
    refine Go.iadd 198 (2 : Int32) d10_197 rfl (by decide) ?_
    refine Go.iaload 199 H90.2.2.1 (i := 2) (by decide) rfl d10_198 rfl ?_
    refine Go.icmpF 202 d10_199 rfl (show (3 : Int) < (4 : Int) from by decide) ?_
    refine Go.iload 204 d10_202 rfl rfl ?_
    refine Go.ifCT 218 d10_204 (by decide) (by decide) (show (0 : Int) = 0 from by decide) ?_
    refine Go.aloadN 219 d10_218 rfl rfl rfl ?_
    refine Go.getf 222 (hw _ (List.mem_of_getElem? (i := 18) rfl)) H90.1.2.2.2.2.1 d10_219 rfl ?_
    refine Go.iloadN 223 d10_222 rfl rfl ?_
    refine Go.aloadN 224 d10_223 rfl rfl rfl ?_
    refine Go.getf 227 (hw _ (List.mem_of_getElem? (i := 18) rfl)) H90.1.2.2.2.2.1 d10_224 rfl ?_
    refine Go.iload 229 d10_227 rfl rfl ?_
    refine Go.iaload 230 H90.2.2.2.2.1 (i := 3) (by decide) rfl d10_229 rfl ?_
    refine Go.iastore 231 H90.2.2.2.2.1 (i := 2) (by decide) (in4 (by decide)) (by have := H90.2.2.2.2.2.2.2; omega) d10_230 rfl ?_
    intro h91 K91 A91
    have H91 : BS Z n0 h91 a ra ca ka la fa va (2 : Int32) (2 : Int32) (4 : Int32) (1 : Int32) ([(0 : Int32), (1 : Int32), (2 : Int32), rs3] ++ tI) ([(0 : Int32), (2 : Int32), (4 : Int32), cs3] ++ tI) ([ky0, ky1, ks2, ks3] ++ tD) ([(1 : Int32), (0 : Int32), (1 : Int32), (1 : Int32)] ++ tI) ([fy_b0, fy_b1, fs2, fs3] ++ tD) ([vy0, vy1, vs2, vs3] ++ tD) := H90.set_columns K91 A91
    refine Go.aloadN 232 d10_231 rfl rfl rfl ?_
    refine Go.getf 235 (hw _ (List.mem_of_getElem? (i := 20) rfl)) H91.1.2.2.2.2.2.1 d10_232 rfl ?_
    refine Go.iloadN 236 d10_235 rfl rfl ?_
    refine Go.aloadN 237 d10_236 rfl rfl rfl ?_
    refine Go.getf 240 (hw _ (List.mem_of_getElem? (i := 20) rfl)) H91.1.2.2.2.2.2.1 d10_237 rfl ?_
    refine Go.iload 242 d10_240 rfl rfl ?_
    refine Go.daload 243 H91.2.2.2.2.2.1 (i := 3) (by decide) rfl d10_242 rfl ?_
    refine Go.dload 245 d10_243 rfl rfl ?_
    refine Go.dmul 246 fy_a1 d10_245 rfl qf_a1.1 qf_a1.2 ?_
    refine Go.dastore 247 H91.2.2.2.2.2.1 (i := 2) (by decide) (in4 (by decide)) (by have := H91.2.2.2.2.2.2.2; omega) d10_246 rfl ?_
    intro h92 K92 A92
    have H92 : BS Z n0 h92 a ra ca ka la fa va (2 : Int32) (2 : Int32) (4 : Int32) (1 : Int32) ([(0 : Int32), (1 : Int32), (2 : Int32), rs3] ++ tI) ([(0 : Int32), (2 : Int32), (4 : Int32), cs3] ++ tI) ([ky0, ky1, ks2, ks3] ++ tD) ([(1 : Int32), (0 : Int32), (1 : Int32), (1 : Int32)] ++ tI) ([fy_b0, fy_b1, fy_a1, fs3] ++ tD) ([vy0, vy1, vs2, vs3] ++ tD) := H91.set_coefficients K92 A92
    refine Go.iinc 250 #[.val (.ref a), .val (.int (3 : Int32)), .val (.int (1 : Int32)), .val (.int (1 : Int32)), .val (.double g1), .second, .val (.double m1), .second, .val (.int (0 : Int32)), .val (.double (4607182418800017408 : UInt64)), .second, .val (.int (1 : Int32)), .val (.int (3 : Int32))] (3 : Int32) d10_247 rfl rfl (by decide) rfl ?_
    refine Go.iinc 253 #[.val (.ref a), .val (.int (3 : Int32)), .val (.int (1 : Int32)), .val (.int (1 : Int32)), .val (.double g1), .second, .val (.double m1), .second, .val (.int (0 : Int32)), .val (.double (4607182418800017408 : UInt64)), .second, .val (.int (1 : Int32)), .val (.int (4 : Int32))] (4 : Int32) d10_250 rfl rfl (by decide) rfl ?_
    refine Go.goto 189 d10_253 (by decide) (by decide) ?_
    refine Go.iload 191 d10_189 rfl rfl ?_
    refine Go.aloadN 192 d10_191 rfl rfl rfl ?_
    refine Go.getf 195 (hw _ (List.mem_of_getElem? (i := 13) rfl)) H92.1.2.2.1 d10_192 rfl ?_
    refine Go.iloadN 196 d10_195 rfl rfl ?_
    refine Go.iconst 197 (1 : Int32) d10_196 rfl (by decide) ?_
    refine Go.iadd 198 (2 : Int32) d10_197 rfl (by decide) ?_
    refine Go.iaload 199 H92.2.2.1 (i := 2) (by decide) rfl d10_198 rfl ?_
    refine Go.icmpT 256 d10_199 (by decide) (by decide) (show (4 : Int) ≤ (4 : Int) from by decide) ?_
    refine Go.aloadN 257 d10_256 rfl rfl rfl ?_
    refine Go.getf 260 (hw _ (List.mem_of_getElem? (i := 13) rfl)) H92.1.2.2.1 d10_257 rfl ?_
    refine Go.iloadN 261 d10_260 rfl rfl ?_
    refine Go.iload 263 d10_261 rfl rfl ?_
    refine Go.iastore 264 H92.2.2.1 (i := 1) (by decide) (in4 (by decide)) (by have := H92.2.2.2.2.2.2.2; omega) d10_263 rfl ?_
    intro h93 K93 A93
    have H93 : BS Z n0 h93 a ra ca ka la fa va (2 : Int32) (2 : Int32) (4 : Int32) (1 : Int32) ([(0 : Int32), (1 : Int32), (2 : Int32), rs3] ++ tI) ([(0 : Int32), (1 : Int32), (4 : Int32), cs3] ++ tI) ([ky0, ky1, ks2, ks3] ++ tD) ([(1 : Int32), (0 : Int32), (1 : Int32), (1 : Int32)] ++ tI) ([fy_b0, fy_b1, fy_a1, fs3] ++ tD) ([vy0, vy1, vs2, vs3] ++ tD) := H92.set_choiceStart K93 A93
    refine Go.iinc 267 #[.val (.ref a), .val (.int (3 : Int32)), .val (.int (1 : Int32)), .val (.int (2 : Int32)), .val (.double g1), .second, .val (.double m1), .second, .val (.int (0 : Int32)), .val (.double (4607182418800017408 : UInt64)), .second, .val (.int (1 : Int32)), .val (.int (4 : Int32))] (2 : Int32) d10_264 rfl rfl (by decide) rfl ?_
    refine Go.goto 32 d10_267 (by decide) (by decide) ?_
    refine Go.iloadN 33 d10_32 rfl rfl ?_
    refine Go.aloadN 34 d10_33 rfl rfl rfl ?_
    refine Go.getf 37 (hw _ (List.mem_of_getElem? (i := 11) rfl)) H93.1.2.1 d10_34 rfl ?_
    refine Go.iloadN 38 d10_37 rfl rfl ?_
    refine Go.iconst 39 (1 : Int32) d10_38 rfl (by decide) ?_
    refine Go.iadd 40 (2 : Int32) d10_39 rfl (by decide) ?_
    refine Go.iaload 41 H93.2.1 (i := 2) (by decide) rfl d10_40 rfl ?_
    refine Go.icmpT 270 d10_41 (by decide) (by decide) (show (2 : Int) ≤ (2 : Int) from by decide) ?_
    refine Go.iinc 273 #[.val (.ref a), .val (.int (3 : Int32)), .val (.int (2 : Int32)), .val (.int (2 : Int32)), .val (.double g1), .second, .val (.double m1), .second, .val (.int (0 : Int32)), .val (.double (4607182418800017408 : UInt64)), .second, .val (.int (1 : Int32)), .val (.int (4 : Int32))] (2 : Int32) d10_270 rfl rfl (by decide) rfl ?_
    refine Go.goto 17 d10_273 (by decide) (by decide) ?_
    refine Go.iloadN 18 d10_17 rfl rfl ?_
    refine Go.aloadN 19 d10_18 rfl rfl rfl ?_
    refine Go.getf 22 (hw _ (List.mem_of_getElem? (i := 29) rfl)) H93.1.2.2.2.2.2.2.2.1 d10_19 rfl ?_
    refine Go.icmpT 276 d10_22 (by decide) (by decide) (show (2 : Int) ≤ (2 : Int) from by decide) ?_
    refine Go.aloadN 277 d10_276 rfl rfl rfl ?_
    refine Go.getf 280 (hw _ (List.mem_of_getElem? (i := 13) rfl)) H93.1.2.2.1 d10_277 rfl ?_
    refine Go.aloadN 281 d10_280 rfl rfl rfl ?_
    refine Go.getf 284 (hw _ (List.mem_of_getElem? (i := 34) rfl)) H93.1.2.2.2.2.2.2.2.2.1 d10_281 rfl ?_
    refine Go.iloadN 285 d10_284 rfl rfl ?_
    refine Go.iastore 286 H93.2.2.1 (i := 2) (by decide) (in4 (by decide)) (by have := H93.2.2.2.2.2.2.2; omega) d10_285 rfl ?_
    intro h94 K94 A94
    have H94 : BS Z n0 h94 a ra ca ka la fa va (2 : Int32) (2 : Int32) (4 : Int32) (1 : Int32) ([(0 : Int32), (1 : Int32), (2 : Int32), rs3] ++ tI) ([(0 : Int32), (1 : Int32), (3 : Int32), cs3] ++ tI) ([ky0, ky1, ks2, ks3] ++ tD) ([(1 : Int32), (0 : Int32), (1 : Int32), (1 : Int32)] ++ tI) ([fy_b0, fy_b1, fy_a1, fs3] ++ tD) ([vy0, vy1, vs2, vs3] ++ tD) := H93.set_choiceStart K94 A94
    refine Go.aloadN 287 d10_286 rfl rfl rfl ?_
    refine Go.iloadN 288 d10_287 rfl rfl ?_
    refine Go.putF 291 (hw _ (List.mem_of_getElem? (i := 44) rfl)) H94.1.2.2.2.2.2.2.2.2.2.1 H94.1.1 (Or.inl (hw _ (List.mem_of_getElem? (i := 45) rfl))) (hw _ (List.mem_of_getElem? (i := 2) rfl)) (ty := .int) (by decide) rfl rfl (by have := H94.2.2.2.2.2.2.2; omega) d10_288 rfl ?_
    intro h95 W95
    have H95 : BS Z n0 h95 a ra ca ka la fa va (2 : Int32) (2 : Int32) (3 : Int32) (1 : Int32) ([(0 : Int32), (1 : Int32), (2 : Int32), rs3] ++ tI) ([(0 : Int32), (1 : Int32), (3 : Int32), cs3] ++ tI) ([ky0, ky1, ks2, ks3] ++ tD) ([(1 : Int32), (0 : Int32), (1 : Int32), (1 : Int32)] ++ tI) ([fy_b0, fy_b1, fy_a1, fs3] ++ tD) ([vy0, vy1, vs2, vs3] ++ tD) := H94.put_terms a0 hw W95
    exact Go.ret d10_291 rfl (by decide) (by decide) ⟨rfl, ky0, vy0, fy_a0, fy_b0, fy_b1, fy_a1, ky1, vy1, dk0, dv0, df_a0, df_b0, df_b1, df_a1, H95⟩
  refine Go.ifCB 138 127 d10_124 (by decide) (by decide) rfl (fun (hc : ((sg (0 + A1) 0)).toInt ≤ 0) => ?_) (fun (hc : 0 < ((sg (0 + A1) 0)).toInt) => ?_)
  · have := sg_cases (0 + A1) 0
    refine Go.iconst 139 (0 : Int32) d10_138 rfl (by decide) ?_
    exact g139_1
  · have := sg_cases (0 + A1) 0
    refine Go.dload 129 d10_127 rfl rfl ?_
    refine Go.dconst0 130 (0 : UInt64) d10_129 rfl rfl ?_
    refine Go.dcmp 131 (sg (0 + B1) 0) d10_130 rfl (cmpQ dm1 (dq_zero 4) _) ?_
    refine Go.ifCT 138 d10_131 (by decide) (by decide) (show ((sg (0 + B1) 0)).toInt ≤ 0 from by have := sg_cases (0 + B1) 0; omega) ?_
    refine Go.iconst 139 (0 : Int32) d10_138 rfl (by decide) ?_
    exact g139_1
set_option maxRecDepth 65536 in
set_option maxHeartbeats 40000000 in
theorem fold_11 (l : Launch) (Z : State) (a0 : Array Value) (hw : ∀ d ∈ tables_1, d.before a0 Z = true) {n0 : Nat} {h : Heap} {a ra ca ka la fa va : Nat} {tI : List Int32} {tD : List UInt64} (hTI : tI.length = 1020) (hTD : tD.length = 1020) {rs3 cs3 : Int32} {ks0 ks2 ks3 fs0 fs1 fs2 fs3 vs0 vs2 vs3 : UInt64} {K A0 B0 V0 B1 A1 : Int} (H : BS Z n0 h a ra ca ka la fa va (2 : Int32) (2 : Int32) (4 : Int32) (0 : Int32) ([(0 : Int32), (1 : Int32), (2 : Int32), rs3] ++ tI) ([(0 : Int32), (2 : Int32), (4 : Int32), cs3] ++ tI) ([ks0, (0 : UInt64), ks2, ks3] ++ tD) ([(0 : Int32), (1 : Int32), (0 : Int32), (1 : Int32)] ++ tI) ([fs0, fs1, fs2, fs3] ++ tD) ([vs0, (0 : UInt64), vs2, vs3] ++ tD))
    (dK : FP.Core.DInt K ks0) (bK : -2147483648 ≤ K ∧ K ≤ 2147483647) (dA0 : DQ 4 A0 fs0) (dB0 : DQ 4 B0 fs1) (dV0 : DQ 4 V0 vs0) (dB1 : DQ 4 B1 fs2) (dA1 : DQ 4 A1 fs3) (b1 : 0 ≤ A0 ∧ A0 ≤ 16) (b2 : 0 ≤ B0 ∧ B0 ≤ 16) (b3 : 0 ≤ V0 ∧ V0 ≤ 16) (b4 : 0 ≤ B1 ∧ B1 ≤ 16) (b5 : 0 ≤ A1 ∧ A1 ≤ 16) (h0 : 0 < A0 ∧ 0 < V0 + B0) (h1 : 0 < A1 ∧ 0 < B1) {S0 : Int} (hS0 : 16 = S0 * (V0 + B0)) (bS0 : 0 ≤ S0 ∧ S0 ≤ 16) {S1 : Int} (hS1 : 16 = S1 * (0 + B1)) (bS1 : 0 ≤ S1 ∧ S1 ≤ 16) :
    Go l Z ({ frames := 0, cells := 0, slots := 0, locals := 0 } : Room) ((⟨"com/example/orbifold/orbifold/solvers/BellmanSystem", "foldReturns", "()V"⟩ : MethodName), prog_167_method_28_code, 13, none) n0 (fun r h' => r = none ∧ ∃ k v fa_ fb fb1 fa1 k1 v1, DQ 0 (K * S0) k ∧ DQ 4 (V0 * S0) v ∧ DQ 4 (A0 * S0) fa_ ∧ DQ 4 (B0 * S0) fb ∧ DQ 4 (B1 * S1) fb1 ∧ DQ 4 (A1 * S1) fa1 ∧ BS Z n0 h' a ra ca ka la fa va (2 : Int32) (2 : Int32) (2 : Int32) (1 : Int32) ([(0 : Int32), (1 : Int32), (2 : Int32), rs3] ++ tI) ([(0 : Int32), (1 : Int32), (2 : Int32), cs3] ++ tI) ([k, k1, ks2, ks3] ++ tD) ([(1 : Int32), (0 : Int32), (0 : Int32), (1 : Int32)] ++ tI) ([fb, fb1, fs2, fs3] ++ tD) ([v, v1, vs2, vs3] ++ tD)) h 0 0 0 #[.val (.ref a), .unset, .unset, .unset, .unset, .unset, .unset, .unset, .unset, .unset, .unset, .unset, .unset] [] := by
  obtain ⟨g0, qg0, dg0⟩ := addQ (dq_zero 4) dA0 (by omega) (by decide)
  obtain ⟨m0, qm0, dm0⟩ := addQ dV0 dB0 (by omega) (by decide)
  obtain ⟨m1, qm1, dm1⟩ := addQ (dq_zero 4) dB1 (by omega) (by decide)
  obtain ⟨g1, qg1, dg1⟩ := addQ (dq_zero 4) dA1 (by omega) (by decide)
  obtain ⟨sc0, qs0, dsc0⟩ := divQ (n := 0) (t := S0) (dq_of_int FP.Core.dint_one) dm0 (by omega) (by simpa using hS0) (by omega) (by decide)
  obtain ⟨sc1, qs1, dsc1⟩ := divQ (n := 0) (t := S1) (dq_of_int FP.Core.dint_one) dm1 (by omega) (by simpa using hS1) (by omega) (by decide)
  obtain ⟨ky0, qk0, dk0⟩ := mulQ (dq_of_int dK) dsc0 (by rw [Int.natAbs_mul]; exact Nat.lt_of_le_of_lt (Nat.mul_le_mul (show _ ≤ 2147483648 by omega) (show _ ≤ 16 by omega)) (by decide)) (by decide)
  obtain ⟨vy0, qv0, dv0⟩ := mulQ dV0 dsc0 (by rw [Int.natAbs_mul]; exact Nat.lt_of_le_of_lt (Nat.mul_le_mul (show _ ≤ 16 by omega) (show _ ≤ 16 by omega)) (by decide)) (by decide)
  obtain ⟨ky1, qk1, dk1⟩ := mulQ (dq_of_int dint_zero) dsc1 (by omega) (by decide)
  obtain ⟨vy1, qv1, dv1⟩ := mulQ (dq_of_int dint_zero) dsc1 (by omega) (by decide)
  obtain ⟨fy_a0, qf_a0, df_a0⟩ := mulQ dA0 dsc0 (by rw [Int.natAbs_mul]; exact Nat.lt_of_le_of_lt (Nat.mul_le_mul (show _ ≤ 16 by omega) (show _ ≤ 16 by omega)) (by decide)) (by decide)
  obtain ⟨fy_b0, qf_b0, df_b0⟩ := mulQ dB0 dsc0 (by rw [Int.natAbs_mul]; exact Nat.lt_of_le_of_lt (Nat.mul_le_mul (show _ ≤ 16 by omega) (show _ ≤ 16 by omega)) (by decide)) (by decide)
  obtain ⟨fy_b1, qf_b1, df_b1⟩ := mulQ dB1 dsc1 (by rw [Int.natAbs_mul]; exact Nat.lt_of_le_of_lt (Nat.mul_le_mul (show _ ≤ 16 by omega) (show _ ≤ 16 by omega)) (by decide)) (by decide)
  obtain ⟨fy_a1, qf_a1, df_a1⟩ := mulQ dA1 dsc1 (by rw [Int.natAbs_mul]; exact Nat.lt_of_le_of_lt (Nat.mul_le_mul (show _ ≤ 16 by omega) (show _ ≤ 16 by omega)) (by decide)) (by decide)
  refine Go.aloadN 1 d10_0 rfl rfl rfl ?_
  refine Go.getf 4 (hw _ (List.mem_of_getElem? (i := 66) rfl)) H.1.2.2.2.2.2.2.2.2.2.2 d10_1 rfl ?_
  refine Go.ifCT 8 d10_4 (by decide) (by decide) (show (0 : Int) = 0 from by decide) ?_
  refine Go.aloadN 9 d10_8 rfl rfl rfl ?_
  refine Go.iconst 10 (1 : Int32) d10_9 rfl (by decide) ?_
  refine Go.putF 13 (hw _ (List.mem_of_getElem? (i := 66) rfl)) H.1.2.2.2.2.2.2.2.2.2.2 H.1.1 (Or.inl (hw _ (List.mem_of_getElem? (i := 67) rfl))) (hw _ (List.mem_of_getElem? (i := 2) rfl)) (ty := .boolean) (by decide) rfl rfl (by have := H.2.2.2.2.2.2.2; omega) d10_10 rfl ?_
  intro h96 W96
  have H96 : BS Z n0 h96 a ra ca ka la fa va (2 : Int32) (2 : Int32) (4 : Int32) (1 : Int32) ([(0 : Int32), (1 : Int32), (2 : Int32), rs3] ++ tI) ([(0 : Int32), (2 : Int32), (4 : Int32), cs3] ++ tI) ([ks0, (0 : UInt64), ks2, ks3] ++ tD) ([(0 : Int32), (1 : Int32), (0 : Int32), (1 : Int32)] ++ tI) ([fs0, fs1, fs2, fs3] ++ tD) ([vs0, (0 : UInt64), vs2, vs3] ++ tD) := H.put_folded a0 hw W96
  refine Go.iconst 14 (0 : Int32) d10_13 rfl (by decide) ?_
  refine Go.istoreN 15 #[.val (.ref a), .val (.int (0 : Int32)), .unset, .unset, .unset, .unset, .unset, .unset, .unset, .unset, .unset, .unset, .unset] d10_14 rfl rfl ?_
  refine Go.iconst 16 (0 : Int32) d10_15 rfl (by decide) ?_
  refine Go.istoreN 17 #[.val (.ref a), .val (.int (0 : Int32)), .val (.int (0 : Int32)), .unset, .unset, .unset, .unset, .unset, .unset, .unset, .unset, .unset, .unset] d10_16 rfl rfl ?_
  refine Go.iloadN 18 d10_17 rfl rfl ?_
  refine Go.aloadN 19 d10_18 rfl rfl rfl ?_
  refine Go.getf 22 (hw _ (List.mem_of_getElem? (i := 29) rfl)) H96.1.2.2.2.2.2.2.2.1 d10_19 rfl ?_
  refine Go.icmpF 25 d10_22 rfl (show (0 : Int) < (2 : Int) from by decide) ?_
  refine Go.aloadN 26 d10_25 rfl rfl rfl ?_
  refine Go.getf 29 (hw _ (List.mem_of_getElem? (i := 11) rfl)) H96.1.2.1 d10_26 rfl ?_
  refine Go.iloadN 30 d10_29 rfl rfl ?_
  refine Go.iaload 31 H96.2.1 (i := 0) (by decide) rfl d10_30 rfl ?_
  refine Go.istoreN 32 #[.val (.ref a), .val (.int (0 : Int32)), .val (.int (0 : Int32)), .val (.int (0 : Int32)), .unset, .unset, .unset, .unset, .unset, .unset, .unset, .unset, .unset] d10_31 rfl rfl ?_
  refine Go.iloadN 33 d10_32 rfl rfl ?_
  refine Go.aloadN 34 d10_33 rfl rfl rfl ?_
  refine Go.getf 37 (hw _ (List.mem_of_getElem? (i := 11) rfl)) H96.1.2.1 d10_34 rfl ?_
  refine Go.iloadN 38 d10_37 rfl rfl ?_
  refine Go.iconst 39 (1 : Int32) d10_38 rfl (by decide) ?_
  refine Go.iadd 40 (1 : Int32) d10_39 rfl (by decide) ?_
  refine Go.iaload 41 H96.2.1 (i := 1) (by decide) rfl d10_40 rfl ?_
  refine Go.icmpF 44 d10_41 rfl (show (0 : Int) < (1 : Int) from by decide) ?_
  refine Go.dconst0 45 (0 : UInt64) d10_44 rfl rfl ?_
  refine Go.dstore 47 #[.val (.ref a), .val (.int (0 : Int32)), .val (.int (0 : Int32)), .val (.int (0 : Int32)), .val (.double (0 : UInt64)), .second, .unset, .unset, .unset, .unset, .unset, .unset, .unset] d10_45 rfl rfl ?_
  refine Go.aloadN 48 d10_47 rfl rfl rfl ?_
  refine Go.getf 51 (hw _ (List.mem_of_getElem? (i := 22) rfl)) H96.1.2.2.2.2.2.2.1 d10_48 rfl ?_
  refine Go.iloadN 52 d10_51 rfl rfl ?_
  refine Go.daload 53 H96.2.2.2.2.2.2.1 (i := 0) (by decide) rfl d10_52 rfl ?_
  refine Go.dstore 55 #[.val (.ref a), .val (.int (0 : Int32)), .val (.int (0 : Int32)), .val (.int (0 : Int32)), .val (.double (0 : UInt64)), .second, .val (.double vs0), .second, .unset, .unset, .unset, .unset, .unset] d10_53 rfl rfl ?_
  refine Go.aloadN 56 d10_55 rfl rfl rfl ?_
  refine Go.getf 59 (hw _ (List.mem_of_getElem? (i := 13) rfl)) H96.1.2.2.1 d10_56 rfl ?_
  refine Go.iloadN 60 d10_59 rfl rfl ?_
  refine Go.iaload 61 H96.2.2.1 (i := 0) (by decide) rfl d10_60 rfl ?_
  refine Go.istore 63 #[.val (.ref a), .val (.int (0 : Int32)), .val (.int (0 : Int32)), .val (.int (0 : Int32)), .val (.double (0 : UInt64)), .second, .val (.double vs0), .second, .val (.int (0 : Int32)), .unset, .unset, .unset, .unset] d10_61 rfl rfl ?_
  refine Go.iload 65 d10_63 rfl rfl ?_
  refine Go.aloadN 66 d10_65 rfl rfl rfl ?_
  refine Go.getf 69 (hw _ (List.mem_of_getElem? (i := 13) rfl)) H96.1.2.2.1 d10_66 rfl ?_
  refine Go.iloadN 70 d10_69 rfl rfl ?_
  refine Go.iconst 71 (1 : Int32) d10_70 rfl (by decide) ?_
  refine Go.iadd 72 (1 : Int32) d10_71 rfl (by decide) ?_
  refine Go.iaload 73 H96.2.2.1 (i := 1) (by decide) rfl d10_72 rfl ?_
  refine Go.icmpF 76 d10_73 rfl (show (0 : Int) < (2 : Int) from by decide) ?_
  refine Go.aloadN 77 d10_76 rfl rfl rfl ?_
  refine Go.getf 80 (hw _ (List.mem_of_getElem? (i := 18) rfl)) H96.1.2.2.2.2.1 d10_77 rfl ?_
  refine Go.iload 82 d10_80 rfl rfl ?_
  refine Go.iaload 83 H96.2.2.2.2.1 (i := 0) (by decide) rfl d10_82 rfl ?_
  refine Go.iloadN 84 d10_83 rfl rfl ?_
  refine Go.icmpF 87 d10_84 rfl (show (0 : Int) = (0 : Int) from by decide) ?_
  refine Go.dload 89 d10_87 rfl rfl ?_
  refine Go.aloadN 90 d10_89 rfl rfl rfl ?_
  refine Go.getf 93 (hw _ (List.mem_of_getElem? (i := 20) rfl)) H96.1.2.2.2.2.2.1 d10_90 rfl ?_
  refine Go.iload 95 d10_93 rfl rfl ?_
  refine Go.daload 96 H96.2.2.2.2.2.1 (i := 0) (by decide) rfl d10_95 rfl ?_
  refine Go.dadd 97 g0 d10_96 rfl qg0.1 qg0.2 ?_
  refine Go.dstore 99 #[.val (.ref a), .val (.int (0 : Int32)), .val (.int (0 : Int32)), .val (.int (0 : Int32)), .val (.double g0), .second, .val (.double vs0), .second, .val (.int (0 : Int32)), .unset, .unset, .unset, .unset] d10_97 rfl rfl ?_
  refine Go.goto 114 d10_99 (by decide) (by decide) ?_
  refine Go.iinc 117 #[.val (.ref a), .val (.int (0 : Int32)), .val (.int (0 : Int32)), .val (.int (0 : Int32)), .val (.double g0), .second, .val (.double vs0), .second, .val (.int (1 : Int32)), .unset, .unset, .unset, .unset] (1 : Int32) d10_114 rfl rfl (by decide) rfl ?_
  refine Go.goto 63 d10_117 (by decide) (by decide) ?_
  refine Go.iload 65 d10_63 rfl rfl ?_
  refine Go.aloadN 66 d10_65 rfl rfl rfl ?_
  refine Go.getf 69 (hw _ (List.mem_of_getElem? (i := 13) rfl)) H96.1.2.2.1 d10_66 rfl ?_
  refine Go.iloadN 70 d10_69 rfl rfl ?_
  refine Go.iconst 71 (1 : Int32) d10_70 rfl (by decide) ?_
  refine Go.iadd 72 (1 : Int32) d10_71 rfl (by decide) ?_
  refine Go.iaload 73 H96.2.2.1 (i := 1) (by decide) rfl d10_72 rfl ?_
  refine Go.icmpF 76 d10_73 rfl (show (1 : Int) < (2 : Int) from by decide) ?_
  refine Go.aloadN 77 d10_76 rfl rfl rfl ?_
  refine Go.getf 80 (hw _ (List.mem_of_getElem? (i := 18) rfl)) H96.1.2.2.2.2.1 d10_77 rfl ?_
  refine Go.iload 82 d10_80 rfl rfl ?_
  refine Go.iaload 83 H96.2.2.2.2.1 (i := 1) (by decide) rfl d10_82 rfl ?_
  refine Go.iloadN 84 d10_83 rfl rfl ?_
  refine Go.icmpT 102 d10_84 (by decide) (by decide) (show (1 : Int) ≠ (0 : Int) from by decide) ?_
  refine Go.dload 104 d10_102 rfl rfl ?_
  refine Go.aloadN 105 d10_104 rfl rfl rfl ?_
  refine Go.getf 108 (hw _ (List.mem_of_getElem? (i := 20) rfl)) H96.1.2.2.2.2.2.1 d10_105 rfl ?_
  refine Go.iload 110 d10_108 rfl rfl ?_
  refine Go.daload 111 H96.2.2.2.2.2.1 (i := 1) (by decide) rfl d10_110 rfl ?_
  refine Go.dadd 112 m0 d10_111 rfl qm0.1 qm0.2 ?_
  refine Go.dstore 114 #[.val (.ref a), .val (.int (0 : Int32)), .val (.int (0 : Int32)), .val (.int (0 : Int32)), .val (.double g0), .second, .val (.double m0), .second, .val (.int (1 : Int32)), .unset, .unset, .unset, .unset] d10_112 rfl rfl ?_
  refine Go.iinc 117 #[.val (.ref a), .val (.int (0 : Int32)), .val (.int (0 : Int32)), .val (.int (0 : Int32)), .val (.double g0), .second, .val (.double m0), .second, .val (.int (2 : Int32)), .unset, .unset, .unset, .unset] (2 : Int32) d10_114 rfl rfl (by decide) rfl ?_
  refine Go.goto 63 d10_117 (by decide) (by decide) ?_
  refine Go.iload 65 d10_63 rfl rfl ?_
  refine Go.aloadN 66 d10_65 rfl rfl rfl ?_
  refine Go.getf 69 (hw _ (List.mem_of_getElem? (i := 13) rfl)) H96.1.2.2.1 d10_66 rfl ?_
  refine Go.iloadN 70 d10_69 rfl rfl ?_
  refine Go.iconst 71 (1 : Int32) d10_70 rfl (by decide) ?_
  refine Go.iadd 72 (1 : Int32) d10_71 rfl (by decide) ?_
  refine Go.iaload 73 H96.2.2.1 (i := 1) (by decide) rfl d10_72 rfl ?_
  refine Go.icmpT 120 d10_73 (by decide) (by decide) (show (2 : Int) ≤ (2 : Int) from by decide) ?_
  refine Go.dload 122 d10_120 rfl rfl ?_
  refine Go.dconst0 123 (0 : UInt64) d10_122 rfl rfl ?_
  refine Go.dcmp 124 (sg (0 + A0) 0) d10_123 rfl (cmpQ dg0 (dq_zero 4) _) ?_
  refine Go.ifCF 127 d10_124 rfl (show 0 < ((sg (0 + A0) 0)).toInt from by have := sg_cases (0 + A0) 0; omega) ?_
  refine Go.dload 129 d10_127 rfl rfl ?_
  refine Go.dconst0 130 (0 : UInt64) d10_129 rfl rfl ?_
  refine Go.dcmp 131 (sg (V0 + B0) 0) d10_130 rfl (cmpQ dm0 (dq_zero 4) _) ?_
  refine Go.ifCF 134 d10_131 rfl (show 0 < ((sg (V0 + B0) 0)).toInt from by have := sg_cases (V0 + B0) 0; omega) ?_
  refine Go.iconst 135 (1 : Int32) d10_134 rfl (by decide) ?_
  refine Go.goto 139 d10_135 (by decide) (by decide) ?_
  refine Go.istore 141 #[.val (.ref a), .val (.int (0 : Int32)), .val (.int (0 : Int32)), .val (.int (0 : Int32)), .val (.double g0), .second, .val (.double m0), .second, .val (.int (1 : Int32)), .unset, .unset, .unset, .unset] d10_139 rfl rfl ?_
  refine Go.iload 143 d10_141 rfl rfl ?_
  refine Go.ifCF 146 d10_143 rfl (show (1 : Int) ≠ 0 from by decide) ?_
  refine Go.dconst1 147 (4607182418800017408 : UInt64) d10_146 rfl rfl ?_
  refine Go.dload 149 d10_147 rfl rfl ?_
  refine Go.ddiv 150 sc0 d10_149 rfl qs0.1 qs0.2 ?_
  refine Go.goto 154 d10_150 (by decide) (by decide) ?_
  refine Go.dstore 156 #[.val (.ref a), .val (.int (0 : Int32)), .val (.int (0 : Int32)), .val (.int (0 : Int32)), .val (.double g0), .second, .val (.double m0), .second, .val (.int (1 : Int32)), .val (.double sc0), .second, .unset, .unset] d10_154 rfl rfl ?_
  refine Go.aloadN 157 d10_156 rfl rfl rfl ?_
  refine Go.getf 160 (hw _ (List.mem_of_getElem? (i := 16) rfl)) H96.1.2.2.2.1 d10_157 rfl ?_
  refine Go.iloadN 161 d10_160 rfl rfl ?_
  refine Go.dup2 162 d10_161 rfl rfl rfl ?_
  refine Go.daload 163 H96.2.2.2.1 (i := 0) (by decide) rfl d10_162 rfl ?_
  refine Go.dload 165 d10_163 rfl rfl ?_
  refine Go.dmul 166 ky0 d10_165 rfl qk0.1 qk0.2 ?_
  refine Go.dastore 167 H96.2.2.2.1 (i := 0) (by decide) (in4 (by decide)) (by have := H96.2.2.2.2.2.2.2; omega) d10_166 rfl ?_
  intro h97 K97 A97
  have H97 : BS Z n0 h97 a ra ca ka la fa va (2 : Int32) (2 : Int32) (4 : Int32) (1 : Int32) ([(0 : Int32), (1 : Int32), (2 : Int32), rs3] ++ tI) ([(0 : Int32), (2 : Int32), (4 : Int32), cs3] ++ tI) ([ky0, (0 : UInt64), ks2, ks3] ++ tD) ([(0 : Int32), (1 : Int32), (0 : Int32), (1 : Int32)] ++ tI) ([fs0, fs1, fs2, fs3] ++ tD) ([vs0, (0 : UInt64), vs2, vs3] ++ tD) := H96.set_constants K97 A97
  refine Go.aloadN 168 d10_167 rfl rfl rfl ?_
  refine Go.getf 171 (hw _ (List.mem_of_getElem? (i := 22) rfl)) H97.1.2.2.2.2.2.2.1 d10_168 rfl ?_
  refine Go.iloadN 172 d10_171 rfl rfl ?_
  refine Go.dup2 173 d10_172 rfl rfl rfl ?_
  refine Go.daload 174 H97.2.2.2.2.2.2.1 (i := 0) (by decide) rfl d10_173 rfl ?_
  refine Go.dload 176 d10_174 rfl rfl ?_
  refine Go.dmul 177 vy0 d10_176 rfl qv0.1 qv0.2 ?_
  refine Go.dastore 178 H97.2.2.2.2.2.2.1 (i := 0) (by decide) (in4 (by decide)) (by have := H97.2.2.2.2.2.2.2; omega) d10_177 rfl ?_
  intro h98 K98 A98
  have H98 : BS Z n0 h98 a ra ca ka la fa va (2 : Int32) (2 : Int32) (4 : Int32) (1 : Int32) ([(0 : Int32), (1 : Int32), (2 : Int32), rs3] ++ tI) ([(0 : Int32), (2 : Int32), (4 : Int32), cs3] ++ tI) ([ky0, (0 : UInt64), ks2, ks3] ++ tD) ([(0 : Int32), (1 : Int32), (0 : Int32), (1 : Int32)] ++ tI) ([fs0, fs1, fs2, fs3] ++ tD) ([vy0, (0 : UInt64), vs2, vs3] ++ tD) := H97.set_leaving K98 A98
  refine Go.iloadN 179 d10_178 rfl rfl ?_
  refine Go.istore 181 #[.val (.ref a), .val (.int (0 : Int32)), .val (.int (0 : Int32)), .val (.int (0 : Int32)), .val (.double g0), .second, .val (.double m0), .second, .val (.int (1 : Int32)), .val (.double sc0), .second, .val (.int (0 : Int32)), .unset] d10_179 rfl rfl ?_
  refine Go.aloadN 182 d10_181 rfl rfl rfl ?_
  refine Go.getf 185 (hw _ (List.mem_of_getElem? (i := 13) rfl)) H98.1.2.2.1 d10_182 rfl ?_
  refine Go.iloadN 186 d10_185 rfl rfl ?_
  refine Go.iaload 187 H98.2.2.1 (i := 0) (by decide) rfl d10_186 rfl ?_
  refine Go.istore 189 #[.val (.ref a), .val (.int (0 : Int32)), .val (.int (0 : Int32)), .val (.int (0 : Int32)), .val (.double g0), .second, .val (.double m0), .second, .val (.int (1 : Int32)), .val (.double sc0), .second, .val (.int (0 : Int32)), .val (.int (0 : Int32))] d10_187 rfl rfl ?_
  refine Go.iload 191 d10_189 rfl rfl ?_
  refine Go.aloadN 192 d10_191 rfl rfl rfl ?_
  refine Go.getf 195 (hw _ (List.mem_of_getElem? (i := 13) rfl)) H98.1.2.2.1 d10_192 rfl ?_
  refine Go.iloadN 196 d10_195 rfl rfl ?_
  refine Go.iconst 197 (1 : Int32) d10_196 rfl (by decide) ?_
  refine Go.iadd 198 (1 : Int32) d10_197 rfl (by decide) ?_
  refine Go.iaload 199 H98.2.2.1 (i := 1) (by decide) rfl d10_198 rfl ?_
  refine Go.icmpF 202 d10_199 rfl (show (0 : Int) < (2 : Int) from by decide) ?_
  refine Go.iload 204 d10_202 rfl rfl ?_
  refine Go.ifCF 207 d10_204 rfl (show (1 : Int) ≠ 0 from by decide) ?_
  refine Go.aloadN 208 d10_207 rfl rfl rfl ?_
  refine Go.getf 211 (hw _ (List.mem_of_getElem? (i := 18) rfl)) H98.1.2.2.2.2.1 d10_208 rfl ?_
  refine Go.iload 213 d10_211 rfl rfl ?_
  refine Go.iaload 214 H98.2.2.2.2.1 (i := 0) (by decide) rfl d10_213 rfl ?_
  refine Go.iloadN 215 d10_214 rfl rfl ?_
  refine Go.icmpT 250 d10_215 (by decide) (by decide) (show (0 : Int) = (0 : Int) from by decide) ?_
  refine Go.iinc 253 #[.val (.ref a), .val (.int (0 : Int32)), .val (.int (0 : Int32)), .val (.int (0 : Int32)), .val (.double g0), .second, .val (.double m0), .second, .val (.int (1 : Int32)), .val (.double sc0), .second, .val (.int (0 : Int32)), .val (.int (1 : Int32))] (1 : Int32) d10_250 rfl rfl (by decide) rfl ?_
  refine Go.goto 189 d10_253 (by decide) (by decide) ?_
  refine Go.iload 191 d10_189 rfl rfl ?_
  refine Go.aloadN 192 d10_191 rfl rfl rfl ?_
  refine Go.getf 195 (hw _ (List.mem_of_getElem? (i := 13) rfl)) H98.1.2.2.1 d10_192 rfl ?_
  refine Go.iloadN 196 d10_195 rfl rfl ?_
  refine Go.iconst 197 (1 : Int32) d10_196 rfl (by decide) ?_
  refine Go.iadd 198 (1 : Int32) d10_197 rfl (by decide) ?_
  refine Go.iaload 199 H98.2.2.1 (i := 1) (by decide) rfl d10_198 rfl ?_
  refine Go.icmpF 202 d10_199 rfl (show (1 : Int) < (2 : Int) from by decide) ?_
  refine Go.iload 204 d10_202 rfl rfl ?_
  refine Go.ifCF 207 d10_204 rfl (show (1 : Int) ≠ 0 from by decide) ?_
  refine Go.aloadN 208 d10_207 rfl rfl rfl ?_
  refine Go.getf 211 (hw _ (List.mem_of_getElem? (i := 18) rfl)) H98.1.2.2.2.2.1 d10_208 rfl ?_
  refine Go.iload 213 d10_211 rfl rfl ?_
  refine Go.iaload 214 H98.2.2.2.2.1 (i := 1) (by decide) rfl d10_213 rfl ?_
  refine Go.iloadN 215 d10_214 rfl rfl ?_
  refine Go.icmpF 218 d10_215 rfl (show (1 : Int) ≠ (0 : Int) from by decide) ?_
  refine Go.aloadN 219 d10_218 rfl rfl rfl ?_
  refine Go.getf 222 (hw _ (List.mem_of_getElem? (i := 18) rfl)) H98.1.2.2.2.2.1 d10_219 rfl ?_
  refine Go.iloadN 223 d10_222 rfl rfl ?_
  refine Go.aloadN 224 d10_223 rfl rfl rfl ?_
  refine Go.getf 227 (hw _ (List.mem_of_getElem? (i := 18) rfl)) H98.1.2.2.2.2.1 d10_224 rfl ?_
  refine Go.iload 229 d10_227 rfl rfl ?_
  refine Go.iaload 230 H98.2.2.2.2.1 (i := 1) (by decide) rfl d10_229 rfl ?_
  refine Go.iastore 231 H98.2.2.2.2.1 (i := 0) (by decide) (in4 (by decide)) (by have := H98.2.2.2.2.2.2.2; omega) d10_230 rfl ?_
  intro h99 K99 A99
  have H99 : BS Z n0 h99 a ra ca ka la fa va (2 : Int32) (2 : Int32) (4 : Int32) (1 : Int32) ([(0 : Int32), (1 : Int32), (2 : Int32), rs3] ++ tI) ([(0 : Int32), (2 : Int32), (4 : Int32), cs3] ++ tI) ([ky0, (0 : UInt64), ks2, ks3] ++ tD) ([(1 : Int32), (1 : Int32), (0 : Int32), (1 : Int32)] ++ tI) ([fs0, fs1, fs2, fs3] ++ tD) ([vy0, (0 : UInt64), vs2, vs3] ++ tD) := H98.set_columns K99 A99
  refine Go.aloadN 232 d10_231 rfl rfl rfl ?_
  refine Go.getf 235 (hw _ (List.mem_of_getElem? (i := 20) rfl)) H99.1.2.2.2.2.2.1 d10_232 rfl ?_
  refine Go.iloadN 236 d10_235 rfl rfl ?_
  refine Go.aloadN 237 d10_236 rfl rfl rfl ?_
  refine Go.getf 240 (hw _ (List.mem_of_getElem? (i := 20) rfl)) H99.1.2.2.2.2.2.1 d10_237 rfl ?_
  refine Go.iload 242 d10_240 rfl rfl ?_
  refine Go.daload 243 H99.2.2.2.2.2.1 (i := 1) (by decide) rfl d10_242 rfl ?_
  refine Go.dload 245 d10_243 rfl rfl ?_
  refine Go.dmul 246 fy_b0 d10_245 rfl qf_b0.1 qf_b0.2 ?_
  refine Go.dastore 247 H99.2.2.2.2.2.1 (i := 0) (by decide) (in4 (by decide)) (by have := H99.2.2.2.2.2.2.2; omega) d10_246 rfl ?_
  intro h100 K100 A100
  have H100 : BS Z n0 h100 a ra ca ka la fa va (2 : Int32) (2 : Int32) (4 : Int32) (1 : Int32) ([(0 : Int32), (1 : Int32), (2 : Int32), rs3] ++ tI) ([(0 : Int32), (2 : Int32), (4 : Int32), cs3] ++ tI) ([ky0, (0 : UInt64), ks2, ks3] ++ tD) ([(1 : Int32), (1 : Int32), (0 : Int32), (1 : Int32)] ++ tI) ([fy_b0, fs1, fs2, fs3] ++ tD) ([vy0, (0 : UInt64), vs2, vs3] ++ tD) := H99.set_coefficients K100 A100
  refine Go.iinc 250 #[.val (.ref a), .val (.int (1 : Int32)), .val (.int (0 : Int32)), .val (.int (0 : Int32)), .val (.double g0), .second, .val (.double m0), .second, .val (.int (1 : Int32)), .val (.double sc0), .second, .val (.int (0 : Int32)), .val (.int (1 : Int32))] (1 : Int32) d10_247 rfl rfl (by decide) rfl ?_
  refine Go.iinc 253 #[.val (.ref a), .val (.int (1 : Int32)), .val (.int (0 : Int32)), .val (.int (0 : Int32)), .val (.double g0), .second, .val (.double m0), .second, .val (.int (1 : Int32)), .val (.double sc0), .second, .val (.int (0 : Int32)), .val (.int (2 : Int32))] (2 : Int32) d10_250 rfl rfl (by decide) rfl ?_
  refine Go.goto 189 d10_253 (by decide) (by decide) ?_
  refine Go.iload 191 d10_189 rfl rfl ?_
  refine Go.aloadN 192 d10_191 rfl rfl rfl ?_
  refine Go.getf 195 (hw _ (List.mem_of_getElem? (i := 13) rfl)) H100.1.2.2.1 d10_192 rfl ?_
  refine Go.iloadN 196 d10_195 rfl rfl ?_
  refine Go.iconst 197 (1 : Int32) d10_196 rfl (by decide) ?_
  refine Go.iadd 198 (1 : Int32) d10_197 rfl (by decide) ?_
  refine Go.iaload 199 H100.2.2.1 (i := 1) (by decide) rfl d10_198 rfl ?_
  refine Go.icmpT 256 d10_199 (by decide) (by decide) (show (2 : Int) ≤ (2 : Int) from by decide) ?_
  refine Go.aloadN 257 d10_256 rfl rfl rfl ?_
  refine Go.getf 260 (hw _ (List.mem_of_getElem? (i := 13) rfl)) H100.1.2.2.1 d10_257 rfl ?_
  refine Go.iloadN 261 d10_260 rfl rfl ?_
  refine Go.iload 263 d10_261 rfl rfl ?_
  refine Go.iastore 264 H100.2.2.1 (i := 0) (by decide) (in4 (by decide)) (by have := H100.2.2.2.2.2.2.2; omega) d10_263 rfl ?_
  intro h101 K101 A101
  have H101 : BS Z n0 h101 a ra ca ka la fa va (2 : Int32) (2 : Int32) (4 : Int32) (1 : Int32) ([(0 : Int32), (1 : Int32), (2 : Int32), rs3] ++ tI) ([(0 : Int32), (2 : Int32), (4 : Int32), cs3] ++ tI) ([ky0, (0 : UInt64), ks2, ks3] ++ tD) ([(1 : Int32), (1 : Int32), (0 : Int32), (1 : Int32)] ++ tI) ([fy_b0, fs1, fs2, fs3] ++ tD) ([vy0, (0 : UInt64), vs2, vs3] ++ tD) := H100.set_choiceStart K101 A101
  refine Go.iinc 267 #[.val (.ref a), .val (.int (1 : Int32)), .val (.int (0 : Int32)), .val (.int (1 : Int32)), .val (.double g0), .second, .val (.double m0), .second, .val (.int (1 : Int32)), .val (.double sc0), .second, .val (.int (0 : Int32)), .val (.int (2 : Int32))] (1 : Int32) d10_264 rfl rfl (by decide) rfl ?_
  refine Go.goto 32 d10_267 (by decide) (by decide) ?_
  refine Go.iloadN 33 d10_32 rfl rfl ?_
  refine Go.aloadN 34 d10_33 rfl rfl rfl ?_
  refine Go.getf 37 (hw _ (List.mem_of_getElem? (i := 11) rfl)) H101.1.2.1 d10_34 rfl ?_
  refine Go.iloadN 38 d10_37 rfl rfl ?_
  refine Go.iconst 39 (1 : Int32) d10_38 rfl (by decide) ?_
  refine Go.iadd 40 (1 : Int32) d10_39 rfl (by decide) ?_
  refine Go.iaload 41 H101.2.1 (i := 1) (by decide) rfl d10_40 rfl ?_
  refine Go.icmpT 270 d10_41 (by decide) (by decide) (show (1 : Int) ≤ (1 : Int) from by decide) ?_
  refine Go.iinc 273 #[.val (.ref a), .val (.int (1 : Int32)), .val (.int (1 : Int32)), .val (.int (1 : Int32)), .val (.double g0), .second, .val (.double m0), .second, .val (.int (1 : Int32)), .val (.double sc0), .second, .val (.int (0 : Int32)), .val (.int (2 : Int32))] (1 : Int32) d10_270 rfl rfl (by decide) rfl ?_
  refine Go.goto 17 d10_273 (by decide) (by decide) ?_
  refine Go.iloadN 18 d10_17 rfl rfl ?_
  refine Go.aloadN 19 d10_18 rfl rfl rfl ?_
  refine Go.getf 22 (hw _ (List.mem_of_getElem? (i := 29) rfl)) H101.1.2.2.2.2.2.2.2.1 d10_19 rfl ?_
  refine Go.icmpF 25 d10_22 rfl (show (1 : Int) < (2 : Int) from by decide) ?_
  refine Go.aloadN 26 d10_25 rfl rfl rfl ?_
  refine Go.getf 29 (hw _ (List.mem_of_getElem? (i := 11) rfl)) H101.1.2.1 d10_26 rfl ?_
  refine Go.iloadN 30 d10_29 rfl rfl ?_
  refine Go.iaload 31 H101.2.1 (i := 1) (by decide) rfl d10_30 rfl ?_
  refine Go.istoreN 32 #[.val (.ref a), .val (.int (1 : Int32)), .val (.int (1 : Int32)), .val (.int (1 : Int32)), .val (.double g0), .second, .val (.double m0), .second, .val (.int (1 : Int32)), .val (.double sc0), .second, .val (.int (0 : Int32)), .val (.int (2 : Int32))] d10_31 rfl rfl ?_
  refine Go.iloadN 33 d10_32 rfl rfl ?_
  refine Go.aloadN 34 d10_33 rfl rfl rfl ?_
  refine Go.getf 37 (hw _ (List.mem_of_getElem? (i := 11) rfl)) H101.1.2.1 d10_34 rfl ?_
  refine Go.iloadN 38 d10_37 rfl rfl ?_
  refine Go.iconst 39 (1 : Int32) d10_38 rfl (by decide) ?_
  refine Go.iadd 40 (2 : Int32) d10_39 rfl (by decide) ?_
  refine Go.iaload 41 H101.2.1 (i := 2) (by decide) rfl d10_40 rfl ?_
  refine Go.icmpF 44 d10_41 rfl (show (1 : Int) < (2 : Int) from by decide) ?_
  refine Go.dconst0 45 (0 : UInt64) d10_44 rfl rfl ?_
  refine Go.dstore 47 #[.val (.ref a), .val (.int (1 : Int32)), .val (.int (1 : Int32)), .val (.int (1 : Int32)), .val (.double (0 : UInt64)), .second, .val (.double m0), .second, .val (.int (1 : Int32)), .val (.double sc0), .second, .val (.int (0 : Int32)), .val (.int (2 : Int32))] d10_45 rfl rfl ?_
  refine Go.aloadN 48 d10_47 rfl rfl rfl ?_
  refine Go.getf 51 (hw _ (List.mem_of_getElem? (i := 22) rfl)) H101.1.2.2.2.2.2.2.1 d10_48 rfl ?_
  refine Go.iloadN 52 d10_51 rfl rfl ?_
  refine Go.daload 53 H101.2.2.2.2.2.2.1 (i := 1) (by decide) rfl d10_52 rfl ?_
  refine Go.dstore 55 #[.val (.ref a), .val (.int (1 : Int32)), .val (.int (1 : Int32)), .val (.int (1 : Int32)), .val (.double (0 : UInt64)), .second, .val (.double (0 : UInt64)), .second, .val (.int (1 : Int32)), .val (.double sc0), .second, .val (.int (0 : Int32)), .val (.int (2 : Int32))] d10_53 rfl rfl ?_
  refine Go.aloadN 56 d10_55 rfl rfl rfl ?_
  refine Go.getf 59 (hw _ (List.mem_of_getElem? (i := 13) rfl)) H101.1.2.2.1 d10_56 rfl ?_
  refine Go.iloadN 60 d10_59 rfl rfl ?_
  refine Go.iaload 61 H101.2.2.1 (i := 1) (by decide) rfl d10_60 rfl ?_
  refine Go.istore 63 #[.val (.ref a), .val (.int (1 : Int32)), .val (.int (1 : Int32)), .val (.int (1 : Int32)), .val (.double (0 : UInt64)), .second, .val (.double (0 : UInt64)), .second, .val (.int (2 : Int32)), .val (.double sc0), .second, .val (.int (0 : Int32)), .val (.int (2 : Int32))] d10_61 rfl rfl ?_
  refine Go.iload 65 d10_63 rfl rfl ?_
  refine Go.aloadN 66 d10_65 rfl rfl rfl ?_
  refine Go.getf 69 (hw _ (List.mem_of_getElem? (i := 13) rfl)) H101.1.2.2.1 d10_66 rfl ?_
  refine Go.iloadN 70 d10_69 rfl rfl ?_
  refine Go.iconst 71 (1 : Int32) d10_70 rfl (by decide) ?_
  refine Go.iadd 72 (2 : Int32) d10_71 rfl (by decide) ?_
  refine Go.iaload 73 H101.2.2.1 (i := 2) (by decide) rfl d10_72 rfl ?_
  refine Go.icmpF 76 d10_73 rfl (show (2 : Int) < (4 : Int) from by decide) ?_
  refine Go.aloadN 77 d10_76 rfl rfl rfl ?_
  refine Go.getf 80 (hw _ (List.mem_of_getElem? (i := 18) rfl)) H101.1.2.2.2.2.1 d10_77 rfl ?_
  refine Go.iload 82 d10_80 rfl rfl ?_
  refine Go.iaload 83 H101.2.2.2.2.1 (i := 2) (by decide) rfl d10_82 rfl ?_
  refine Go.iloadN 84 d10_83 rfl rfl ?_
  refine Go.icmpT 102 d10_84 (by decide) (by decide) (show (0 : Int) ≠ (1 : Int) from by decide) ?_
  refine Go.dload 104 d10_102 rfl rfl ?_
  refine Go.aloadN 105 d10_104 rfl rfl rfl ?_
  refine Go.getf 108 (hw _ (List.mem_of_getElem? (i := 20) rfl)) H101.1.2.2.2.2.2.1 d10_105 rfl ?_
  refine Go.iload 110 d10_108 rfl rfl ?_
  refine Go.daload 111 H101.2.2.2.2.2.1 (i := 2) (by decide) rfl d10_110 rfl ?_
  refine Go.dadd 112 m1 d10_111 rfl qm1.1 qm1.2 ?_
  refine Go.dstore 114 #[.val (.ref a), .val (.int (1 : Int32)), .val (.int (1 : Int32)), .val (.int (1 : Int32)), .val (.double (0 : UInt64)), .second, .val (.double m1), .second, .val (.int (2 : Int32)), .val (.double sc0), .second, .val (.int (0 : Int32)), .val (.int (2 : Int32))] d10_112 rfl rfl ?_
  refine Go.iinc 117 #[.val (.ref a), .val (.int (1 : Int32)), .val (.int (1 : Int32)), .val (.int (1 : Int32)), .val (.double (0 : UInt64)), .second, .val (.double m1), .second, .val (.int (3 : Int32)), .val (.double sc0), .second, .val (.int (0 : Int32)), .val (.int (2 : Int32))] (3 : Int32) d10_114 rfl rfl (by decide) rfl ?_
  refine Go.goto 63 d10_117 (by decide) (by decide) ?_
  refine Go.iload 65 d10_63 rfl rfl ?_
  refine Go.aloadN 66 d10_65 rfl rfl rfl ?_
  refine Go.getf 69 (hw _ (List.mem_of_getElem? (i := 13) rfl)) H101.1.2.2.1 d10_66 rfl ?_
  refine Go.iloadN 70 d10_69 rfl rfl ?_
  refine Go.iconst 71 (1 : Int32) d10_70 rfl (by decide) ?_
  refine Go.iadd 72 (2 : Int32) d10_71 rfl (by decide) ?_
  refine Go.iaload 73 H101.2.2.1 (i := 2) (by decide) rfl d10_72 rfl ?_
  refine Go.icmpF 76 d10_73 rfl (show (3 : Int) < (4 : Int) from by decide) ?_
  refine Go.aloadN 77 d10_76 rfl rfl rfl ?_
  refine Go.getf 80 (hw _ (List.mem_of_getElem? (i := 18) rfl)) H101.1.2.2.2.2.1 d10_77 rfl ?_
  refine Go.iload 82 d10_80 rfl rfl ?_
  refine Go.iaload 83 H101.2.2.2.2.1 (i := 3) (by decide) rfl d10_82 rfl ?_
  refine Go.iloadN 84 d10_83 rfl rfl ?_
  refine Go.icmpF 87 d10_84 rfl (show (1 : Int) = (1 : Int) from by decide) ?_
  refine Go.dload 89 d10_87 rfl rfl ?_
  refine Go.aloadN 90 d10_89 rfl rfl rfl ?_
  refine Go.getf 93 (hw _ (List.mem_of_getElem? (i := 20) rfl)) H101.1.2.2.2.2.2.1 d10_90 rfl ?_
  refine Go.iload 95 d10_93 rfl rfl ?_
  refine Go.daload 96 H101.2.2.2.2.2.1 (i := 3) (by decide) rfl d10_95 rfl ?_
  refine Go.dadd 97 g1 d10_96 rfl qg1.1 qg1.2 ?_
  refine Go.dstore 99 #[.val (.ref a), .val (.int (1 : Int32)), .val (.int (1 : Int32)), .val (.int (1 : Int32)), .val (.double g1), .second, .val (.double m1), .second, .val (.int (3 : Int32)), .val (.double sc0), .second, .val (.int (0 : Int32)), .val (.int (2 : Int32))] d10_97 rfl rfl ?_
  refine Go.goto 114 d10_99 (by decide) (by decide) ?_
  refine Go.iinc 117 #[.val (.ref a), .val (.int (1 : Int32)), .val (.int (1 : Int32)), .val (.int (1 : Int32)), .val (.double g1), .second, .val (.double m1), .second, .val (.int (4 : Int32)), .val (.double sc0), .second, .val (.int (0 : Int32)), .val (.int (2 : Int32))] (4 : Int32) d10_114 rfl rfl (by decide) rfl ?_
  refine Go.goto 63 d10_117 (by decide) (by decide) ?_
  refine Go.iload 65 d10_63 rfl rfl ?_
  refine Go.aloadN 66 d10_65 rfl rfl rfl ?_
  refine Go.getf 69 (hw _ (List.mem_of_getElem? (i := 13) rfl)) H101.1.2.2.1 d10_66 rfl ?_
  refine Go.iloadN 70 d10_69 rfl rfl ?_
  refine Go.iconst 71 (1 : Int32) d10_70 rfl (by decide) ?_
  refine Go.iadd 72 (2 : Int32) d10_71 rfl (by decide) ?_
  refine Go.iaload 73 H101.2.2.1 (i := 2) (by decide) rfl d10_72 rfl ?_
  refine Go.icmpT 120 d10_73 (by decide) (by decide) (show (4 : Int) ≤ (4 : Int) from by decide) ?_
  refine Go.dload 122 d10_120 rfl rfl ?_
  refine Go.dconst0 123 (0 : UInt64) d10_122 rfl rfl ?_
  refine Go.dcmp 124 (sg (0 + A1) 0) d10_123 rfl (cmpQ dg1 (dq_zero 4) _) ?_
  refine Go.ifCF 127 d10_124 rfl (show 0 < ((sg (0 + A1) 0)).toInt from by have := sg_cases (0 + A1) 0; omega) ?_
  refine Go.dload 129 d10_127 rfl rfl ?_
  refine Go.dconst0 130 (0 : UInt64) d10_129 rfl rfl ?_
  refine Go.dcmp 131 (sg (0 + B1) 0) d10_130 rfl (cmpQ dm1 (dq_zero 4) _) ?_
  refine Go.ifCF 134 d10_131 rfl (show 0 < ((sg (0 + B1) 0)).toInt from by have := sg_cases (0 + B1) 0; omega) ?_
  refine Go.iconst 135 (1 : Int32) d10_134 rfl (by decide) ?_
  refine Go.goto 139 d10_135 (by decide) (by decide) ?_
  refine Go.istore 141 #[.val (.ref a), .val (.int (1 : Int32)), .val (.int (1 : Int32)), .val (.int (1 : Int32)), .val (.double g1), .second, .val (.double m1), .second, .val (.int (1 : Int32)), .val (.double sc0), .second, .val (.int (0 : Int32)), .val (.int (2 : Int32))] d10_139 rfl rfl ?_
  refine Go.iload 143 d10_141 rfl rfl ?_
  refine Go.ifCF 146 d10_143 rfl (show (1 : Int) ≠ 0 from by decide) ?_
  refine Go.dconst1 147 (4607182418800017408 : UInt64) d10_146 rfl rfl ?_
  refine Go.dload 149 d10_147 rfl rfl ?_
  refine Go.ddiv 150 sc1 d10_149 rfl qs1.1 qs1.2 ?_
  refine Go.goto 154 d10_150 (by decide) (by decide) ?_
  refine Go.dstore 156 #[.val (.ref a), .val (.int (1 : Int32)), .val (.int (1 : Int32)), .val (.int (1 : Int32)), .val (.double g1), .second, .val (.double m1), .second, .val (.int (1 : Int32)), .val (.double sc1), .second, .val (.int (0 : Int32)), .val (.int (2 : Int32))] d10_154 rfl rfl ?_
  refine Go.aloadN 157 d10_156 rfl rfl rfl ?_
  refine Go.getf 160 (hw _ (List.mem_of_getElem? (i := 16) rfl)) H101.1.2.2.2.1 d10_157 rfl ?_
  refine Go.iloadN 161 d10_160 rfl rfl ?_
  refine Go.dup2 162 d10_161 rfl rfl rfl ?_
  refine Go.daload 163 H101.2.2.2.1 (i := 1) (by decide) rfl d10_162 rfl ?_
  refine Go.dload 165 d10_163 rfl rfl ?_
  refine Go.dmul 166 ky1 d10_165 rfl qk1.1 qk1.2 ?_
  refine Go.dastore 167 H101.2.2.2.1 (i := 1) (by decide) (in4 (by decide)) (by have := H101.2.2.2.2.2.2.2; omega) d10_166 rfl ?_
  intro h102 K102 A102
  have H102 : BS Z n0 h102 a ra ca ka la fa va (2 : Int32) (2 : Int32) (4 : Int32) (1 : Int32) ([(0 : Int32), (1 : Int32), (2 : Int32), rs3] ++ tI) ([(0 : Int32), (2 : Int32), (4 : Int32), cs3] ++ tI) ([ky0, ky1, ks2, ks3] ++ tD) ([(1 : Int32), (1 : Int32), (0 : Int32), (1 : Int32)] ++ tI) ([fy_b0, fs1, fs2, fs3] ++ tD) ([vy0, (0 : UInt64), vs2, vs3] ++ tD) := H101.set_constants K102 A102
  refine Go.aloadN 168 d10_167 rfl rfl rfl ?_
  refine Go.getf 171 (hw _ (List.mem_of_getElem? (i := 22) rfl)) H102.1.2.2.2.2.2.2.1 d10_168 rfl ?_
  refine Go.iloadN 172 d10_171 rfl rfl ?_
  refine Go.dup2 173 d10_172 rfl rfl rfl ?_
  refine Go.daload 174 H102.2.2.2.2.2.2.1 (i := 1) (by decide) rfl d10_173 rfl ?_
  refine Go.dload 176 d10_174 rfl rfl ?_
  refine Go.dmul 177 vy1 d10_176 rfl qv1.1 qv1.2 ?_
  refine Go.dastore 178 H102.2.2.2.2.2.2.1 (i := 1) (by decide) (in4 (by decide)) (by have := H102.2.2.2.2.2.2.2; omega) d10_177 rfl ?_
  intro h103 K103 A103
  have H103 : BS Z n0 h103 a ra ca ka la fa va (2 : Int32) (2 : Int32) (4 : Int32) (1 : Int32) ([(0 : Int32), (1 : Int32), (2 : Int32), rs3] ++ tI) ([(0 : Int32), (2 : Int32), (4 : Int32), cs3] ++ tI) ([ky0, ky1, ks2, ks3] ++ tD) ([(1 : Int32), (1 : Int32), (0 : Int32), (1 : Int32)] ++ tI) ([fy_b0, fs1, fs2, fs3] ++ tD) ([vy0, vy1, vs2, vs3] ++ tD) := H102.set_leaving K103 A103
  refine Go.iloadN 179 d10_178 rfl rfl ?_
  refine Go.istore 181 #[.val (.ref a), .val (.int (1 : Int32)), .val (.int (1 : Int32)), .val (.int (1 : Int32)), .val (.double g1), .second, .val (.double m1), .second, .val (.int (1 : Int32)), .val (.double sc1), .second, .val (.int (1 : Int32)), .val (.int (2 : Int32))] d10_179 rfl rfl ?_
  refine Go.aloadN 182 d10_181 rfl rfl rfl ?_
  refine Go.getf 185 (hw _ (List.mem_of_getElem? (i := 13) rfl)) H103.1.2.2.1 d10_182 rfl ?_
  refine Go.iloadN 186 d10_185 rfl rfl ?_
  refine Go.iaload 187 H103.2.2.1 (i := 1) (by decide) rfl d10_186 rfl ?_
  refine Go.istore 189 #[.val (.ref a), .val (.int (1 : Int32)), .val (.int (1 : Int32)), .val (.int (1 : Int32)), .val (.double g1), .second, .val (.double m1), .second, .val (.int (1 : Int32)), .val (.double sc1), .second, .val (.int (1 : Int32)), .val (.int (2 : Int32))] d10_187 rfl rfl ?_
  refine Go.iload 191 d10_189 rfl rfl ?_
  refine Go.aloadN 192 d10_191 rfl rfl rfl ?_
  refine Go.getf 195 (hw _ (List.mem_of_getElem? (i := 13) rfl)) H103.1.2.2.1 d10_192 rfl ?_
  refine Go.iloadN 196 d10_195 rfl rfl ?_
  refine Go.iconst 197 (1 : Int32) d10_196 rfl (by decide) ?_
  refine Go.iadd 198 (2 : Int32) d10_197 rfl (by decide) ?_
  refine Go.iaload 199 H103.2.2.1 (i := 2) (by decide) rfl d10_198 rfl ?_
  refine Go.icmpF 202 d10_199 rfl (show (2 : Int) < (4 : Int) from by decide) ?_
  refine Go.iload 204 d10_202 rfl rfl ?_
  refine Go.ifCF 207 d10_204 rfl (show (1 : Int) ≠ 0 from by decide) ?_
  refine Go.aloadN 208 d10_207 rfl rfl rfl ?_
  refine Go.getf 211 (hw _ (List.mem_of_getElem? (i := 18) rfl)) H103.1.2.2.2.2.1 d10_208 rfl ?_
  refine Go.iload 213 d10_211 rfl rfl ?_
  refine Go.iaload 214 H103.2.2.2.2.1 (i := 2) (by decide) rfl d10_213 rfl ?_
  refine Go.iloadN 215 d10_214 rfl rfl ?_
  refine Go.icmpF 218 d10_215 rfl (show (0 : Int) ≠ (1 : Int) from by decide) ?_
  refine Go.aloadN 219 d10_218 rfl rfl rfl ?_
  refine Go.getf 222 (hw _ (List.mem_of_getElem? (i := 18) rfl)) H103.1.2.2.2.2.1 d10_219 rfl ?_
  refine Go.iloadN 223 d10_222 rfl rfl ?_
  refine Go.aloadN 224 d10_223 rfl rfl rfl ?_
  refine Go.getf 227 (hw _ (List.mem_of_getElem? (i := 18) rfl)) H103.1.2.2.2.2.1 d10_224 rfl ?_
  refine Go.iload 229 d10_227 rfl rfl ?_
  refine Go.iaload 230 H103.2.2.2.2.1 (i := 2) (by decide) rfl d10_229 rfl ?_
  refine Go.iastore 231 H103.2.2.2.2.1 (i := 1) (by decide) (in4 (by decide)) (by have := H103.2.2.2.2.2.2.2; omega) d10_230 rfl ?_
  intro h104 K104 A104
  have H104 : BS Z n0 h104 a ra ca ka la fa va (2 : Int32) (2 : Int32) (4 : Int32) (1 : Int32) ([(0 : Int32), (1 : Int32), (2 : Int32), rs3] ++ tI) ([(0 : Int32), (2 : Int32), (4 : Int32), cs3] ++ tI) ([ky0, ky1, ks2, ks3] ++ tD) ([(1 : Int32), (0 : Int32), (0 : Int32), (1 : Int32)] ++ tI) ([fy_b0, fs1, fs2, fs3] ++ tD) ([vy0, vy1, vs2, vs3] ++ tD) := H103.set_columns K104 A104
  refine Go.aloadN 232 d10_231 rfl rfl rfl ?_
  refine Go.getf 235 (hw _ (List.mem_of_getElem? (i := 20) rfl)) H104.1.2.2.2.2.2.1 d10_232 rfl ?_
  refine Go.iloadN 236 d10_235 rfl rfl ?_
  refine Go.aloadN 237 d10_236 rfl rfl rfl ?_
  refine Go.getf 240 (hw _ (List.mem_of_getElem? (i := 20) rfl)) H104.1.2.2.2.2.2.1 d10_237 rfl ?_
  refine Go.iload 242 d10_240 rfl rfl ?_
  refine Go.daload 243 H104.2.2.2.2.2.1 (i := 2) (by decide) rfl d10_242 rfl ?_
  refine Go.dload 245 d10_243 rfl rfl ?_
  refine Go.dmul 246 fy_b1 d10_245 rfl qf_b1.1 qf_b1.2 ?_
  refine Go.dastore 247 H104.2.2.2.2.2.1 (i := 1) (by decide) (in4 (by decide)) (by have := H104.2.2.2.2.2.2.2; omega) d10_246 rfl ?_
  intro h105 K105 A105
  have H105 : BS Z n0 h105 a ra ca ka la fa va (2 : Int32) (2 : Int32) (4 : Int32) (1 : Int32) ([(0 : Int32), (1 : Int32), (2 : Int32), rs3] ++ tI) ([(0 : Int32), (2 : Int32), (4 : Int32), cs3] ++ tI) ([ky0, ky1, ks2, ks3] ++ tD) ([(1 : Int32), (0 : Int32), (0 : Int32), (1 : Int32)] ++ tI) ([fy_b0, fy_b1, fs2, fs3] ++ tD) ([vy0, vy1, vs2, vs3] ++ tD) := H104.set_coefficients K105 A105
  refine Go.iinc 250 #[.val (.ref a), .val (.int (2 : Int32)), .val (.int (1 : Int32)), .val (.int (1 : Int32)), .val (.double g1), .second, .val (.double m1), .second, .val (.int (1 : Int32)), .val (.double sc1), .second, .val (.int (1 : Int32)), .val (.int (2 : Int32))] (2 : Int32) d10_247 rfl rfl (by decide) rfl ?_
  refine Go.iinc 253 #[.val (.ref a), .val (.int (2 : Int32)), .val (.int (1 : Int32)), .val (.int (1 : Int32)), .val (.double g1), .second, .val (.double m1), .second, .val (.int (1 : Int32)), .val (.double sc1), .second, .val (.int (1 : Int32)), .val (.int (3 : Int32))] (3 : Int32) d10_250 rfl rfl (by decide) rfl ?_
  refine Go.goto 189 d10_253 (by decide) (by decide) ?_
  refine Go.iload 191 d10_189 rfl rfl ?_
  refine Go.aloadN 192 d10_191 rfl rfl rfl ?_
  refine Go.getf 195 (hw _ (List.mem_of_getElem? (i := 13) rfl)) H105.1.2.2.1 d10_192 rfl ?_
  refine Go.iloadN 196 d10_195 rfl rfl ?_
  refine Go.iconst 197 (1 : Int32) d10_196 rfl (by decide) ?_
  refine Go.iadd 198 (2 : Int32) d10_197 rfl (by decide) ?_
  refine Go.iaload 199 H105.2.2.1 (i := 2) (by decide) rfl d10_198 rfl ?_
  refine Go.icmpF 202 d10_199 rfl (show (3 : Int) < (4 : Int) from by decide) ?_
  refine Go.iload 204 d10_202 rfl rfl ?_
  refine Go.ifCF 207 d10_204 rfl (show (1 : Int) ≠ 0 from by decide) ?_
  refine Go.aloadN 208 d10_207 rfl rfl rfl ?_
  refine Go.getf 211 (hw _ (List.mem_of_getElem? (i := 18) rfl)) H105.1.2.2.2.2.1 d10_208 rfl ?_
  refine Go.iload 213 d10_211 rfl rfl ?_
  refine Go.iaload 214 H105.2.2.2.2.1 (i := 3) (by decide) rfl d10_213 rfl ?_
  refine Go.iloadN 215 d10_214 rfl rfl ?_
  refine Go.icmpT 250 d10_215 (by decide) (by decide) (show (1 : Int) = (1 : Int) from by decide) ?_
  refine Go.iinc 253 #[.val (.ref a), .val (.int (2 : Int32)), .val (.int (1 : Int32)), .val (.int (1 : Int32)), .val (.double g1), .second, .val (.double m1), .second, .val (.int (1 : Int32)), .val (.double sc1), .second, .val (.int (1 : Int32)), .val (.int (4 : Int32))] (4 : Int32) d10_250 rfl rfl (by decide) rfl ?_
  refine Go.goto 189 d10_253 (by decide) (by decide) ?_
  refine Go.iload 191 d10_189 rfl rfl ?_
  refine Go.aloadN 192 d10_191 rfl rfl rfl ?_
  refine Go.getf 195 (hw _ (List.mem_of_getElem? (i := 13) rfl)) H105.1.2.2.1 d10_192 rfl ?_
  refine Go.iloadN 196 d10_195 rfl rfl ?_
  refine Go.iconst 197 (1 : Int32) d10_196 rfl (by decide) ?_
  refine Go.iadd 198 (2 : Int32) d10_197 rfl (by decide) ?_
  refine Go.iaload 199 H105.2.2.1 (i := 2) (by decide) rfl d10_198 rfl ?_
  refine Go.icmpT 256 d10_199 (by decide) (by decide) (show (4 : Int) ≤ (4 : Int) from by decide) ?_
  refine Go.aloadN 257 d10_256 rfl rfl rfl ?_
  refine Go.getf 260 (hw _ (List.mem_of_getElem? (i := 13) rfl)) H105.1.2.2.1 d10_257 rfl ?_
  refine Go.iloadN 261 d10_260 rfl rfl ?_
  refine Go.iload 263 d10_261 rfl rfl ?_
  refine Go.iastore 264 H105.2.2.1 (i := 1) (by decide) (in4 (by decide)) (by have := H105.2.2.2.2.2.2.2; omega) d10_263 rfl ?_
  intro h106 K106 A106
  have H106 : BS Z n0 h106 a ra ca ka la fa va (2 : Int32) (2 : Int32) (4 : Int32) (1 : Int32) ([(0 : Int32), (1 : Int32), (2 : Int32), rs3] ++ tI) ([(0 : Int32), (1 : Int32), (4 : Int32), cs3] ++ tI) ([ky0, ky1, ks2, ks3] ++ tD) ([(1 : Int32), (0 : Int32), (0 : Int32), (1 : Int32)] ++ tI) ([fy_b0, fy_b1, fs2, fs3] ++ tD) ([vy0, vy1, vs2, vs3] ++ tD) := H105.set_choiceStart K106 A106
  refine Go.iinc 267 #[.val (.ref a), .val (.int (2 : Int32)), .val (.int (1 : Int32)), .val (.int (2 : Int32)), .val (.double g1), .second, .val (.double m1), .second, .val (.int (1 : Int32)), .val (.double sc1), .second, .val (.int (1 : Int32)), .val (.int (4 : Int32))] (2 : Int32) d10_264 rfl rfl (by decide) rfl ?_
  refine Go.goto 32 d10_267 (by decide) (by decide) ?_
  refine Go.iloadN 33 d10_32 rfl rfl ?_
  refine Go.aloadN 34 d10_33 rfl rfl rfl ?_
  refine Go.getf 37 (hw _ (List.mem_of_getElem? (i := 11) rfl)) H106.1.2.1 d10_34 rfl ?_
  refine Go.iloadN 38 d10_37 rfl rfl ?_
  refine Go.iconst 39 (1 : Int32) d10_38 rfl (by decide) ?_
  refine Go.iadd 40 (2 : Int32) d10_39 rfl (by decide) ?_
  refine Go.iaload 41 H106.2.1 (i := 2) (by decide) rfl d10_40 rfl ?_
  refine Go.icmpT 270 d10_41 (by decide) (by decide) (show (2 : Int) ≤ (2 : Int) from by decide) ?_
  refine Go.iinc 273 #[.val (.ref a), .val (.int (2 : Int32)), .val (.int (2 : Int32)), .val (.int (2 : Int32)), .val (.double g1), .second, .val (.double m1), .second, .val (.int (1 : Int32)), .val (.double sc1), .second, .val (.int (1 : Int32)), .val (.int (4 : Int32))] (2 : Int32) d10_270 rfl rfl (by decide) rfl ?_
  refine Go.goto 17 d10_273 (by decide) (by decide) ?_
  refine Go.iloadN 18 d10_17 rfl rfl ?_
  refine Go.aloadN 19 d10_18 rfl rfl rfl ?_
  refine Go.getf 22 (hw _ (List.mem_of_getElem? (i := 29) rfl)) H106.1.2.2.2.2.2.2.2.1 d10_19 rfl ?_
  refine Go.icmpT 276 d10_22 (by decide) (by decide) (show (2 : Int) ≤ (2 : Int) from by decide) ?_
  refine Go.aloadN 277 d10_276 rfl rfl rfl ?_
  refine Go.getf 280 (hw _ (List.mem_of_getElem? (i := 13) rfl)) H106.1.2.2.1 d10_277 rfl ?_
  refine Go.aloadN 281 d10_280 rfl rfl rfl ?_
  refine Go.getf 284 (hw _ (List.mem_of_getElem? (i := 34) rfl)) H106.1.2.2.2.2.2.2.2.2.1 d10_281 rfl ?_
  refine Go.iloadN 285 d10_284 rfl rfl ?_
  refine Go.iastore 286 H106.2.2.1 (i := 2) (by decide) (in4 (by decide)) (by have := H106.2.2.2.2.2.2.2; omega) d10_285 rfl ?_
  intro h107 K107 A107
  have H107 : BS Z n0 h107 a ra ca ka la fa va (2 : Int32) (2 : Int32) (4 : Int32) (1 : Int32) ([(0 : Int32), (1 : Int32), (2 : Int32), rs3] ++ tI) ([(0 : Int32), (1 : Int32), (2 : Int32), cs3] ++ tI) ([ky0, ky1, ks2, ks3] ++ tD) ([(1 : Int32), (0 : Int32), (0 : Int32), (1 : Int32)] ++ tI) ([fy_b0, fy_b1, fs2, fs3] ++ tD) ([vy0, vy1, vs2, vs3] ++ tD) := H106.set_choiceStart K107 A107
  refine Go.aloadN 287 d10_286 rfl rfl rfl ?_
  refine Go.iloadN 288 d10_287 rfl rfl ?_
  refine Go.putF 291 (hw _ (List.mem_of_getElem? (i := 44) rfl)) H107.1.2.2.2.2.2.2.2.2.2.1 H107.1.1 (Or.inl (hw _ (List.mem_of_getElem? (i := 45) rfl))) (hw _ (List.mem_of_getElem? (i := 2) rfl)) (ty := .int) (by decide) rfl rfl (by have := H107.2.2.2.2.2.2.2; omega) d10_288 rfl ?_
  intro h108 W108
  have H108 : BS Z n0 h108 a ra ca ka la fa va (2 : Int32) (2 : Int32) (2 : Int32) (1 : Int32) ([(0 : Int32), (1 : Int32), (2 : Int32), rs3] ++ tI) ([(0 : Int32), (1 : Int32), (2 : Int32), cs3] ++ tI) ([ky0, ky1, ks2, ks3] ++ tD) ([(1 : Int32), (0 : Int32), (0 : Int32), (1 : Int32)] ++ tI) ([fy_b0, fy_b1, fs2, fs3] ++ tD) ([vy0, vy1, vs2, vs3] ++ tD) := H107.put_terms a0 hw W108
  exact Go.ret d10_291 rfl (by decide) (by decide) ⟨rfl, ky0, vy0, fy_a0, fy_b0, fy_b1, fy_a1, ky1, vy1, dk0, dv0, df_a0, df_b0, df_b1, df_a1, H108⟩
theorem d16 : FP.Core.DInt 16 4625196817309499392 := by
  unfold FP.Core.DInt
  have : FP.Core.val64 4625196817309499392 = .fin false (2 ^ 52) (-48) := by decide +kernel
  rw [this]
  show FP.Core.signed false _ = _
  decide +kernel
/-- 0, or a power of two up to 16 -/
def Pw (m : Int) : Prop := m = 0 ∨ (0 < m ∧ m ≤ 16 ∧ ∃ S : Int, 16 = S * m ∧ 0 ≤ S ∧ S ≤ 16)
theorem rem_nat {x y : Int32} {a b : Nat} (hx : x.toInt = (a : Int)) (hy : y.toInt = (b : Int)) (hb : 0 < b) : (x % y).toInt = ((a % b : Nat) : Int) := by
  rw [Int32.toInt_mod, hx, hy]; exact (Int.ofNat_tmod a b).symm
theorem shl_pw {p : Int32} {j : Nat} (hp : p.toInt = (j : Int)) (hj : j < 5) : Pw ((1 : Int32) <<< (p &&& 31)).toInt := by
  have : j = 0 ∨ j = 1 ∨ j = 2 ∨ j = 3 ∨ j = 4 := by omega
  rcases this with rfl | rfl | rfl | rfl | rfl
  · obtain rfl : p = 0 := Int32.toInt_inj.mp hp
    exact Or.inr ⟨by decide, by decide, 16, by decide, by decide, by decide⟩
  · obtain rfl : p = 1 := Int32.toInt_inj.mp hp
    exact Or.inr ⟨by decide, by decide, 8, by decide, by decide, by decide⟩
  · obtain rfl : p = 2 := Int32.toInt_inj.mp hp
    exact Or.inr ⟨by decide, by decide, 4, by decide, by decide, by decide⟩
  · obtain rfl : p = 3 := Int32.toInt_inj.mp hp
    exact Or.inr ⟨by decide, by decide, 2, by decide, by decide, by decide⟩
  · obtain rfl : p = 4 := Int32.toInt_inj.mp hp
    exact Or.inr ⟨by decide, by decide, 1, by decide, by decide, by decide⟩
set_option maxRecDepth 65536 in
set_option maxHeartbeats 40000000 in
theorem tail_00 (l : Launch) (Z : State) (a0 : Array Value) (hw : ∀ d ∈ tables_1, d.before a0 Z = true) {n0 : Nat} {h : Heap} {a ra ca ka la fa va : Nat} {tI : List Int32} {tD : List UInt64} (hTI : tI.length = 1020) (hTD : tD.length = 1020) {rs3 cs3 : Int32} {ks0 ks2 ks3 vs0 vs2 vs3 a0_ l0 b0 b1 a1 : UInt64} {k s0 s1 p0 m0 ia0 il0 ib0 p1 q1 ia1 : Int32} (H : BS Z n0 h a ra ca ka la fa va (2 : Int32) (2 : Int32) (4 : Int32) (0 : Int32) ([(0 : Int32), (1 : Int32), (2 : Int32), rs3] ++ tI) ([(0 : Int32), (2 : Int32), (4 : Int32), cs3] ++ tI) ([ks0, (0 : UInt64), ks2, ks3] ++ tD) ([(0 : Int32), (1 : Int32), (0 : Int32), (1 : Int32)] ++ tI) ([a0_, b0, b1, a1] ++ tD) ([vs0, (0 : UInt64), vs2, vs3] ++ tD))
    (dK : FP.Core.DInt k.toInt ks0) (dA0 : DQ 4 ia0.toInt a0_) (dB0 : DQ 4 ib0.toInt b0) (dV0 : DQ 4 il0.toInt vs0) (dL0 : DQ 4 il0.toInt l0) (dB1 : DQ 4 q1.toInt b1) (dA1 : DQ 4 ia1.toInt a1) (bK : -2147483648 ≤ k.toInt ∧ k.toInt ≤ 2147483647) (b1_ : 0 ≤ ia0.toInt ∧ ia0.toInt ≤ 16) (b2_ : 0 ≤ ib0.toInt ∧ ib0.toInt ≤ 16) (b3_ : 0 ≤ il0.toInt ∧ il0.toInt ≤ 16) (b4_ : 0 ≤ q1.toInt ∧ q1.toInt ≤ 16) (b5_ : 0 ≤ ia1.toInt ∧ ia1.toInt ≤ 16) (ev0 : il0.toInt + ib0.toInt = m0.toInt) (h0 : ¬ (0 < ia0.toInt ∧ 0 < m0.toInt)) (h1 : ¬ (0 < ia1.toInt ∧ 0 < q1.toInt)) :
    Go l Z room_1 (x, code, maxLocals, ret) n0 Q1 h 7 6154 198 #[.val (.int k), .val (.int s0), .val (.int s1), .val (.int p0), .val (.int m0), .val (.int ia0), .val (.int il0), .val (.int ib0), .val (.int p1), .val (.int q1), .val (.int ia1), .val (.double a0_), .second, .val (.double l0), .second, .val (.double b0), .second, .val (.double b1), .second, .val (.double a1), .second, .val (.ref a), .unset, .unset, .unset, .unset, .unset] [] := by
  refine Go.aload 200 at_198 rfl rfl rfl ?_
  refine Go.callV 203 [] [] (hw _ (List.mem_of_getElem? (i := 61) rfl)) (hw _ (List.mem_of_getElem? (i := 62) rfl)) (hw _ (List.mem_of_getElem? (i := 64) rfl)) (hw _ (List.mem_of_getElem? (i := 63) rfl)) (hw _ (List.mem_of_getElem? (i := 65) rfl)) (hw _ (List.mem_of_getElem? (i := 3) rfl)) (by decide) pn_1 pd_10 rfl H.1.1 (ef_10_A a) (fold_00 l Z a0 hw hTI hTD H dK bK dA0 dB0 dV0 dB1 dA1 (by omega) (by omega) (by omega) (by omega) (by omega) (by omega) (by omega)) rfl rfl (by decide) (leB rfl) (by decide) (by decide) at_200 rfl ?_
  rintro _ h2 ⟨rfl, k_, v_, fa_, fb, fb1, fa1, k1, v1, dk_, dv_, dfa, dfb, dfb1, dfa1, H2⟩
  refine Go.iload 205 at_203 rfl rfl ?_
  have g218 : Go l Z room_1 (x, code, maxLocals, ret) n0 Q1 h2 7 6154 218 #[.val (.int k), .val (.int s0), .val (.int s1), .val (.int p0), .val (.int m0), .val (.int ia0), .val (.int il0), .val (.int ib0), .val (.int p1), .val (.int q1), .val (.int ia1), .val (.double a0_), .second, .val (.double l0), .second, .val (.double b0), .second, .val (.double b1), .second, .val (.double a1), .second, .val (.ref a), .unset, .unset, .unset, .unset, .unset] [.int 0] := by
    refine Go.istore 220 #[.val (.int k), .val (.int s0), .val (.int s1), .val (.int p0), .val (.int m0), .val (.int ia0), .val (.int il0), .val (.int ib0), .val (.int p1), .val (.int q1), .val (.int ia1), .val (.double a0_), .second, .val (.double l0), .second, .val (.double b0), .second, .val (.double b1), .second, .val (.double a1), .second, .val (.ref a), .val (.int (0 : Int32)), .unset, .unset, .unset, .unset] at_218 rfl rfl ?_
    refine Go.iload 222 at_220 rfl rfl ?_
    have g235 : Go l Z room_1 (x, code, maxLocals, ret) n0 Q1 h2 7 6154 235 #[.val (.int k), .val (.int s0), .val (.int s1), .val (.int p0), .val (.int m0), .val (.int ia0), .val (.int il0), .val (.int ib0), .val (.int p1), .val (.int q1), .val (.int ia1), .val (.double a0_), .second, .val (.double l0), .second, .val (.double b0), .second, .val (.double b1), .second, .val (.double a1), .second, .val (.ref a), .val (.int (0 : Int32)), .unset, .unset, .unset, .unset] [.int 0] := by
      refine Go.istore 237 #[.val (.int k), .val (.int s0), .val (.int s1), .val (.int p0), .val (.int m0), .val (.int ia0), .val (.int il0), .val (.int ib0), .val (.int p1), .val (.int q1), .val (.int ia1), .val (.double a0_), .second, .val (.double l0), .second, .val (.double b0), .second, .val (.double b1), .second, .val (.double a1), .second, .val (.ref a), .val (.int (0 : Int32)), .val (.int (0 : Int32)), .unset, .unset, .unset] at_235 rfl rfl ?_
      refine Go.iload 239 at_237 rfl rfl ?_
      refine Go.ifCT 246 at_239 (by decide) (by decide) (show (0 : Int) = 0 from by decide) ?_
      refine Go.iconst 247 (2 : Int32) at_246 rfl (by decide) ?_
      refine Go.istore 249 #[.val (.int k), .val (.int s0), .val (.int s1), .val (.int p0), .val (.int m0), .val (.int ia0), .val (.int il0), .val (.int ib0), .val (.int p1), .val (.int q1), .val (.int ia1), .val (.double a0_), .second, .val (.double l0), .second, .val (.double b0), .second, .val (.double b1), .second, .val (.double a1), .second, .val (.ref a), .val (.int (0 : Int32)), .val (.int (0 : Int32)), .val (.int (2 : Int32)), .unset, .unset] at_247 rfl rfl ?_
      refine Go.iload 251 at_249 rfl rfl ?_
      refine Go.ifCT 258 at_251 (by decide) (by decide) (show (0 : Int) = 0 from by decide) ?_
      refine Go.iconst 259 (2 : Int32) at_258 rfl (by decide) ?_
      refine Go.istore 261 #[.val (.int k), .val (.int s0), .val (.int s1), .val (.int p0), .val (.int m0), .val (.int ia0), .val (.int il0), .val (.int ib0), .val (.int p1), .val (.int q1), .val (.int ia1), .val (.double a0_), .second, .val (.double l0), .second, .val (.double b0), .second, .val (.double b1), .second, .val (.double a1), .second, .val (.ref a), .val (.int (0 : Int32)), .val (.int (0 : Int32)), .val (.int (2 : Int32)), .val (.int (2 : Int32)), .unset] at_259 rfl rfl ?_
      refine Go.aload 263 at_261 rfl rfl rfl ?_
      refine Go.iconst 264 (0 : Int32) at_263 rfl (by decide) ?_
      refine Go.callV 267 [(.int (0 : Int32))] [] (hw _ (List.mem_of_getElem? (i := 68) rfl)) (hw _ (List.mem_of_getElem? (i := 69) rfl)) (hw _ (List.mem_of_getElem? (i := 71) rfl)) (hw _ (List.mem_of_getElem? (i := 70) rfl)) (hw _ (List.mem_of_getElem? (i := 72) rfl)) (hw _ (List.mem_of_getElem? (i := 3) rfl)) (by decide) pn_1 pd_6 rfl H2.1.1 (ef_11_AI a (0 : Int32)) (endTerm_go l Z a0 hw H2 (i := 0) (k := 1) (by decide) rfl) rfl rfl (by decide) (leB rfl) (by decide) (by decide) at_264 rfl ?_
      rintro _ _ ⟨rfl, rfl⟩
      refine Go.iload 269 at_267 rfl rfl ?_
      refine Go.icmpF 272 at_269 rfl (show (2 : Int) = (2 : Int) from by decide) ?_
      refine Go.aload 274 at_272 rfl rfl rfl ?_
      refine Go.iconst 275 (1 : Int32) at_274 rfl (by decide) ?_
      refine Go.callV 278 [(.int (1 : Int32))] [] (hw _ (List.mem_of_getElem? (i := 68) rfl)) (hw _ (List.mem_of_getElem? (i := 69) rfl)) (hw _ (List.mem_of_getElem? (i := 71) rfl)) (hw _ (List.mem_of_getElem? (i := 70) rfl)) (hw _ (List.mem_of_getElem? (i := 72) rfl)) (hw _ (List.mem_of_getElem? (i := 3) rfl)) (by decide) pn_1 pd_6 rfl H2.1.1 (ef_11_AI a (1 : Int32)) (endTerm_go l Z a0 hw H2 (i := 1) (k := 2) (by decide) rfl) rfl rfl (by decide) (leB rfl) (by decide) (by decide) at_275 rfl ?_
      rintro _ _ ⟨rfl, rfl⟩
      refine Go.iload 280 at_278 rfl rfl ?_
      refine Go.iload 282 at_280 rfl rfl ?_
      refine Go.iadd 283 (4 : Int32) at_282 rfl (by decide) ?_
      refine Go.icmpF 286 at_283 rfl (show (4 : Int) = (4 : Int) from by decide) ?_
      refine Go.iconst 287 (1 : Int32) at_286 rfl (by decide) ?_
      refine Go.goto 291 at_287 (by decide) (by decide) ?_
      refine Go.istore 293 #[.val (.int k), .val (.int s0), .val (.int s1), .val (.int p0), .val (.int m0), .val (.int ia0), .val (.int il0), .val (.int ib0), .val (.int p1), .val (.int q1), .val (.int ia1), .val (.double a0_), .second, .val (.double l0), .second, .val (.double b0), .second, .val (.double b1), .second, .val (.double a1), .second, .val (.ref a), .val (.int (0 : Int32)), .val (.int (0 : Int32)), .val (.int (2 : Int32)), .val (.int (2 : Int32)), .val (.int (1 : Int32))] at_291 rfl rfl ?_
      refine Go.iload 295 at_293 rfl rfl ?_
      refine Go.ifCT 367 at_295 (by decide) (by decide) (show (0 : Int) = 0 from by decide) ?_
      refine Go.iload 369 at_367 rfl rfl ?_
      refine Go.ifCF 372 at_369 rfl (show (1 : Int) ≠ 0 from by decide) ?_
      refine Go.aload 374 at_372 rfl rfl rfl ?_
      refine Go.iconst 375 (0 : Int32) at_374 rfl (by decide) ?_
      refine Go.callV 378 [(.int (0 : Int32))] [] (hw _ (List.mem_of_getElem? (i := 73) rfl)) (hw _ (List.mem_of_getElem? (i := 74) rfl)) (hw _ (List.mem_of_getElem? (i := 76) rfl)) (hw _ (List.mem_of_getElem? (i := 75) rfl)) (hw _ (List.mem_of_getElem? (i := 77) rfl)) (hw _ (List.mem_of_getElem? (i := 3) rfl)) (by decide) pn_1 pd_8 rfl H2.1.1 (ef_12_AI a (0 : Int32)) (constant_go l Z a0 hw H2 (i := 0) (k := 0) (by decide) rfl) rfl rfl (by decide) (leB rfl) (by decide) (by decide) at_375 rfl ?_
      rintro _ _ ⟨rfl, rfl⟩
      refine Go.iloadN 379 at_378 rfl rfl ?_
      refine Go.i2d 380 (FP.i2d k) at_379 rfl rfl ?_
      refine Go.dcmp 381 (0 : Int32) at_380 rfl (cmpQ0 dk_ (dq_of_int (FP.Core.i2d_int k)) (Int.mul_one _) .l) ?_
      refine Go.ifCF 384 at_381 rfl (show (0 : Int) = 0 from by decide) ?_
      refine Go.aload 386 at_384 rfl rfl rfl ?_
      refine Go.iconst 387 (0 : Int32) at_386 rfl (by decide) ?_
      refine Go.callV 390 [(.int (0 : Int32))] [] (hw _ (List.mem_of_getElem? (i := 78) rfl)) (hw _ (List.mem_of_getElem? (i := 79) rfl)) (hw _ (List.mem_of_getElem? (i := 81) rfl)) (hw _ (List.mem_of_getElem? (i := 80) rfl)) (hw _ (List.mem_of_getElem? (i := 82) rfl)) (hw _ (List.mem_of_getElem? (i := 3) rfl)) (by decide) pn_1 pd_8 rfl H2.1.1 (ef_13_AI a (0 : Int32)) (leaving_go l Z a0 hw H2 (i := 0) (k := 0) (by decide) rfl) rfl rfl (by decide) (leB rfl) (by decide) (by decide) at_387 rfl ?_
      rintro _ _ ⟨rfl, rfl⟩
      refine Go.dload 392 at_390 rfl rfl ?_
      refine Go.dcmp 393 (0 : Int32) at_392 rfl (cmpQ0 dv_ dL0 (Int.mul_one _) .l) ?_
      refine Go.ifCF 396 at_393 rfl (show (0 : Int) = 0 from by decide) ?_
      refine Go.aload 398 at_396 rfl rfl rfl ?_
      refine Go.iconst 399 (0 : Int32) at_398 rfl (by decide) ?_
      refine Go.iconst 400 (0 : Int32) at_399 rfl (by decide) ?_
      refine Go.dload 402 at_400 rfl rfl ?_
      refine Go.callS 405 [(.ref a), (.int (0 : Int32)), (.int (0 : Int32)), (.double a0_)] [] (hw _ (List.mem_of_getElem? (i := 83) rfl)) (hw _ (List.mem_of_getElem? (i := 84) rfl)) (hw _ (List.mem_of_getElem? (i := 86) rfl)) (hw _ (List.mem_of_getElem? (i := 85) rfl)) (by decide) pn_15 pd_16 rfl (ef_14_AIID a (0 : Int32) (0 : Int32) a0_) (term_go l Z a0 hw H2 (k := 0) (by decide) (hc := rfl) (hx := rfl) (cmpQ0 dfa dA0 (Int.mul_one _) .l)) rfl rfl (by decide) (leB rfl) (by decide) (by decide) at_402 rfl ?_
      rintro _ _ ⟨rfl, rfl⟩
      refine Go.ifCF 408 at_405 rfl (show (1 : Int) ≠ 0 from by decide) ?_
      refine Go.aload 410 at_408 rfl rfl rfl ?_
      refine Go.iconst 411 (1 : Int32) at_410 rfl (by decide) ?_
      refine Go.iconst 412 (1 : Int32) at_411 rfl (by decide) ?_
      refine Go.dload 414 at_412 rfl rfl ?_
      refine Go.callS 417 [(.ref a), (.int (1 : Int32)), (.int (1 : Int32)), (.double b0)] [] (hw _ (List.mem_of_getElem? (i := 83) rfl)) (hw _ (List.mem_of_getElem? (i := 84) rfl)) (hw _ (List.mem_of_getElem? (i := 86) rfl)) (hw _ (List.mem_of_getElem? (i := 85) rfl)) (by decide) pn_15 pd_16 rfl (ef_14_AIID a (1 : Int32) (1 : Int32) b0) (term_go l Z a0 hw H2 (k := 1) (by decide) (hc := rfl) (hx := rfl) (cmpQ0 dfb dB0 (Int.mul_one _) .l)) rfl rfl (by decide) (leB rfl) (by decide) (by decide) at_414 rfl ?_
      rintro _ _ ⟨rfl, rfl⟩
      refine Go.ifCF 420 at_417 rfl (show (1 : Int) ≠ 0 from by decide) ?_
      refine Go.iconst 421 (1 : Int32) at_420 rfl (by decide) ?_
      refine Go.goto 425 at_421 (by decide) (by decide) ?_
      refine Go.istore 427 #[.val (.int k), .val (.int s0), .val (.int s1), .val (.int p0), .val (.int m0), .val (.int ia0), .val (.int il0), .val (.int ib0), .val (.int p1), .val (.int q1), .val (.int ia1), .val (.double a0_), .second, .val (.double l0), .second, .val (.double b0), .second, .val (.double b1), .second, .val (.double a1), .second, .val (.ref a), .val (.int (0 : Int32)), .val (.int (0 : Int32)), .val (.int (2 : Int32)), .val (.int (2 : Int32)), .val (.int (1 : Int32))] at_425 rfl rfl ?_
      refine Go.iload 429 at_427 rfl rfl ?_
      refine Go.ifCT 459 at_429 (by decide) (by decide) (show (0 : Int) = 0 from by decide) ?_
      refine Go.iload 461 at_459 rfl rfl ?_
      refine Go.ifCF 464 at_461 rfl (show (1 : Int) ≠ 0 from by decide) ?_
      refine Go.aload 466 at_464 rfl rfl rfl ?_
      refine Go.iload 468 at_466 rfl rfl ?_
      refine Go.iconst 469 (0 : Int32) at_468 rfl (by decide) ?_
      refine Go.dload 471 at_469 rfl rfl ?_
      refine Go.callS 474 [(.ref a), (.int (2 : Int32)), (.int (0 : Int32)), (.double b1)] [] (hw _ (List.mem_of_getElem? (i := 83) rfl)) (hw _ (List.mem_of_getElem? (i := 84) rfl)) (hw _ (List.mem_of_getElem? (i := 86) rfl)) (hw _ (List.mem_of_getElem? (i := 85) rfl)) (by decide) pn_15 pd_16 rfl (ef_14_AIID a (2 : Int32) (0 : Int32) b1) (term_go l Z a0 hw H2 (k := 2) (by decide) (hc := rfl) (hx := rfl) (cmpQ0 dfb1 dB1 (Int.mul_one _) .l)) rfl rfl (by decide) (leB rfl) (by decide) (by decide) at_471 rfl ?_
      rintro _ _ ⟨rfl, rfl⟩
      refine Go.ifCF 477 at_474 rfl (show (1 : Int) ≠ 0 from by decide) ?_
      refine Go.aload 479 at_477 rfl rfl rfl ?_
      refine Go.iload 481 at_479 rfl rfl ?_
      refine Go.iconst 482 (1 : Int32) at_481 rfl (by decide) ?_
      refine Go.iadd 483 (3 : Int32) at_482 rfl (by decide) ?_
      refine Go.iconst 484 (1 : Int32) at_483 rfl (by decide) ?_
      refine Go.dload 486 at_484 rfl rfl ?_
      refine Go.callS 489 [(.ref a), (.int (3 : Int32)), (.int (1 : Int32)), (.double a1)] [] (hw _ (List.mem_of_getElem? (i := 83) rfl)) (hw _ (List.mem_of_getElem? (i := 84) rfl)) (hw _ (List.mem_of_getElem? (i := 86) rfl)) (hw _ (List.mem_of_getElem? (i := 85) rfl)) (by decide) pn_15 pd_16 rfl (ef_14_AIID a (3 : Int32) (1 : Int32) a1) (term_go l Z a0 hw H2 (k := 3) (by decide) (hc := rfl) (hx := rfl) (cmpQ0 dfa1 dA1 (Int.mul_one _) .l)) rfl rfl (by decide) (leB rfl) (by decide) (by decide) at_486 rfl ?_
      rintro _ _ ⟨rfl, rfl⟩
      refine Go.ifCF 492 at_489 rfl (show (1 : Int) ≠ 0 from by decide) ?_
      refine Go.iconst 493 (1 : Int32) at_492 rfl (by decide) ?_
      refine Go.goto 497 at_493 (by decide) (by decide) ?_
      refine Go.istore 499 #[.val (.int k), .val (.int s0), .val (.int s1), .val (.int p0), .val (.int m0), .val (.int ia0), .val (.int il0), .val (.int ib0), .val (.int p1), .val (.int q1), .val (.int ia1), .val (.double a0_), .second, .val (.double l0), .second, .val (.double b0), .second, .val (.double b1), .second, .val (.double a1), .second, .val (.ref a), .val (.int (0 : Int32)), .val (.int (0 : Int32)), .val (.int (2 : Int32)), .val (.int (2 : Int32)), .val (.int (1 : Int32))] at_497 rfl rfl ?_
      refine Go.iload 501 at_499 rfl rfl ?_
      exact Go.zret at_501 rfl (Or.inr rfl) (by decide) (by decide) rfl
    refine Go.ifCB 234 225 at_222 (by decide) (by decide) rfl (fun (hc : (ia1).toInt ≤ 0) => ?_) (fun (hc : 0 < (ia1).toInt) => ?_)
    · refine Go.iconst 235 (0 : Int32) at_234 rfl (by decide) ?_
      exact g235
    · refine Go.iload 227 at_225 rfl rfl ?_
      refine Go.ifCT 234 at_227 (by decide) (by decide) (show (q1).toInt ≤ 0 from by omega) ?_
      refine Go.iconst 235 (0 : Int32) at_234 rfl (by decide) ?_
      exact g235
  refine Go.ifCB 217 208 at_205 (by decide) (by decide) rfl (fun (hc : (ia0).toInt ≤ 0) => ?_) (fun (hc : 0 < (ia0).toInt) => ?_)
  · refine Go.iconst 218 (0 : Int32) at_217 rfl (by decide) ?_
    exact g218
  · refine Go.iload 210 at_208 rfl rfl ?_
    refine Go.ifCT 217 at_210 (by decide) (by decide) (show (m0).toInt ≤ 0 from by omega) ?_
    refine Go.iconst 218 (0 : Int32) at_217 rfl (by decide) ?_
    exact g218
set_option maxRecDepth 65536 in
set_option maxHeartbeats 40000000 in
theorem tail_01 (l : Launch) (Z : State) (a0 : Array Value) (hw : ∀ d ∈ tables_1, d.before a0 Z = true) {n0 : Nat} {h : Heap} {a ra ca ka la fa va : Nat} {tI : List Int32} {tD : List UInt64} (hTI : tI.length = 1020) (hTD : tD.length = 1020) {rs3 cs3 : Int32} {ks0 ks2 ks3 vs0 vs2 vs3 a0_ l0 b0 b1 a1 : UInt64} {k s0 s1 p0 m0 ia0 il0 ib0 p1 q1 ia1 : Int32} (H : BS Z n0 h a ra ca ka la fa va (2 : Int32) (2 : Int32) (4 : Int32) (0 : Int32) ([(0 : Int32), (1 : Int32), (2 : Int32), rs3] ++ tI) ([(0 : Int32), (2 : Int32), (4 : Int32), cs3] ++ tI) ([ks0, (0 : UInt64), ks2, ks3] ++ tD) ([(0 : Int32), (1 : Int32), (0 : Int32), (1 : Int32)] ++ tI) ([a0_, b0, b1, a1] ++ tD) ([vs0, (0 : UInt64), vs2, vs3] ++ tD))
    (dK : FP.Core.DInt k.toInt ks0) (dA0 : DQ 4 ia0.toInt a0_) (dB0 : DQ 4 ib0.toInt b0) (dV0 : DQ 4 il0.toInt vs0) (dL0 : DQ 4 il0.toInt l0) (dB1 : DQ 4 q1.toInt b1) (dA1 : DQ 4 ia1.toInt a1) (bK : -2147483648 ≤ k.toInt ∧ k.toInt ≤ 2147483647) (b1_ : 0 ≤ ia0.toInt ∧ ia0.toInt ≤ 16) (b2_ : 0 ≤ ib0.toInt ∧ ib0.toInt ≤ 16) (b3_ : 0 ≤ il0.toInt ∧ il0.toInt ≤ 16) (b4_ : 0 ≤ q1.toInt ∧ q1.toInt ≤ 16) (b5_ : 0 ≤ ia1.toInt ∧ ia1.toInt ≤ 16) (ev0 : il0.toInt + ib0.toInt = m0.toInt) (h0 : ¬ (0 < ia0.toInt ∧ 0 < m0.toInt)) (h1 : 0 < ia1.toInt ∧ 0 < q1.toInt) (hp1 : ∃ S : Int, 16 = S * q1.toInt ∧ 0 ≤ S ∧ S ≤ 16) :
    Go l Z room_1 (x, code, maxLocals, ret) n0 Q1 h 7 6154 198 #[.val (.int k), .val (.int s0), .val (.int s1), .val (.int p0), .val (.int m0), .val (.int ia0), .val (.int il0), .val (.int ib0), .val (.int p1), .val (.int q1), .val (.int ia1), .val (.double a0_), .second, .val (.double l0), .second, .val (.double b0), .second, .val (.double b1), .second, .val (.double a1), .second, .val (.ref a), .unset, .unset, .unset, .unset, .unset] [] := by
  refine Go.aload 200 at_198 rfl rfl rfl ?_
  obtain ⟨S1, hS1, bS1⟩ := hp1
  refine Go.callV 203 [] [] (hw _ (List.mem_of_getElem? (i := 61) rfl)) (hw _ (List.mem_of_getElem? (i := 62) rfl)) (hw _ (List.mem_of_getElem? (i := 64) rfl)) (hw _ (List.mem_of_getElem? (i := 63) rfl)) (hw _ (List.mem_of_getElem? (i := 65) rfl)) (hw _ (List.mem_of_getElem? (i := 3) rfl)) (by decide) pn_1 pd_10 rfl H.1.1 (ef_10_A a) (fold_01 l Z a0 hw hTI hTD H dK bK dA0 dB0 dV0 dB1 dA1 (by omega) (by omega) (by omega) (by omega) (by omega) (by omega) (by omega) (by rw [Int.zero_add]; exact hS1) bS1) rfl rfl (by decide) (leB rfl) (by decide) (by decide) at_200 rfl ?_
  rintro _ h2 ⟨rfl, k_, v_, fa_, fb, fb1, fa1, k1, v1, dk_, dv_, dfa, dfb, dfb1, dfa1, H2⟩
  refine Go.iload 205 at_203 rfl rfl ?_
  have g218 : Go l Z room_1 (x, code, maxLocals, ret) n0 Q1 h2 7 6154 218 #[.val (.int k), .val (.int s0), .val (.int s1), .val (.int p0), .val (.int m0), .val (.int ia0), .val (.int il0), .val (.int ib0), .val (.int p1), .val (.int q1), .val (.int ia1), .val (.double a0_), .second, .val (.double l0), .second, .val (.double b0), .second, .val (.double b1), .second, .val (.double a1), .second, .val (.ref a), .unset, .unset, .unset, .unset, .unset] [.int 0] := by
    refine Go.istore 220 #[.val (.int k), .val (.int s0), .val (.int s1), .val (.int p0), .val (.int m0), .val (.int ia0), .val (.int il0), .val (.int ib0), .val (.int p1), .val (.int q1), .val (.int ia1), .val (.double a0_), .second, .val (.double l0), .second, .val (.double b0), .second, .val (.double b1), .second, .val (.double a1), .second, .val (.ref a), .val (.int (0 : Int32)), .unset, .unset, .unset, .unset] at_218 rfl rfl ?_
    refine Go.iload 222 at_220 rfl rfl ?_
    refine Go.ifCF 225 at_222 rfl (show 0 < (ia1).toInt from by omega) ?_
    refine Go.iload 227 at_225 rfl rfl ?_
    refine Go.ifCF 230 at_227 rfl (show 0 < (q1).toInt from by omega) ?_
    refine Go.iconst 231 (1 : Int32) at_230 rfl (by decide) ?_
    refine Go.goto 235 at_231 (by decide) (by decide) ?_
    refine Go.istore 237 #[.val (.int k), .val (.int s0), .val (.int s1), .val (.int p0), .val (.int m0), .val (.int ia0), .val (.int il0), .val (.int ib0), .val (.int p1), .val (.int q1), .val (.int ia1), .val (.double a0_), .second, .val (.double l0), .second, .val (.double b0), .second, .val (.double b1), .second, .val (.double a1), .second, .val (.ref a), .val (.int (0 : Int32)), .val (.int (1 : Int32)), .unset, .unset, .unset] at_235 rfl rfl ?_
    refine Go.iload 239 at_237 rfl rfl ?_
    refine Go.ifCT 246 at_239 (by decide) (by decide) (show (0 : Int) = 0 from by decide) ?_
    refine Go.iconst 247 (2 : Int32) at_246 rfl (by decide) ?_
    refine Go.istore 249 #[.val (.int k), .val (.int s0), .val (.int s1), .val (.int p0), .val (.int m0), .val (.int ia0), .val (.int il0), .val (.int ib0), .val (.int p1), .val (.int q1), .val (.int ia1), .val (.double a0_), .second, .val (.double l0), .second, .val (.double b0), .second, .val (.double b1), .second, .val (.double a1), .second, .val (.ref a), .val (.int (0 : Int32)), .val (.int (1 : Int32)), .val (.int (2 : Int32)), .unset, .unset] at_247 rfl rfl ?_
    refine Go.iload 251 at_249 rfl rfl ?_
    refine Go.ifCF 254 at_251 rfl (show (1 : Int) ≠ 0 from by decide) ?_
    refine Go.iconst 255 (1 : Int32) at_254 rfl (by decide) ?_
    refine Go.goto 259 at_255 (by decide) (by decide) ?_
    refine Go.istore 261 #[.val (.int k), .val (.int s0), .val (.int s1), .val (.int p0), .val (.int m0), .val (.int ia0), .val (.int il0), .val (.int ib0), .val (.int p1), .val (.int q1), .val (.int ia1), .val (.double a0_), .second, .val (.double l0), .second, .val (.double b0), .second, .val (.double b1), .second, .val (.double a1), .second, .val (.ref a), .val (.int (0 : Int32)), .val (.int (1 : Int32)), .val (.int (2 : Int32)), .val (.int (1 : Int32)), .unset] at_259 rfl rfl ?_
    refine Go.aload 263 at_261 rfl rfl rfl ?_
    refine Go.iconst 264 (0 : Int32) at_263 rfl (by decide) ?_
    refine Go.callV 267 [(.int (0 : Int32))] [] (hw _ (List.mem_of_getElem? (i := 68) rfl)) (hw _ (List.mem_of_getElem? (i := 69) rfl)) (hw _ (List.mem_of_getElem? (i := 71) rfl)) (hw _ (List.mem_of_getElem? (i := 70) rfl)) (hw _ (List.mem_of_getElem? (i := 72) rfl)) (hw _ (List.mem_of_getElem? (i := 3) rfl)) (by decide) pn_1 pd_6 rfl H2.1.1 (ef_11_AI a (0 : Int32)) (endTerm_go l Z a0 hw H2 (i := 0) (k := 1) (by decide) rfl) rfl rfl (by decide) (leB rfl) (by decide) (by decide) at_264 rfl ?_
    rintro _ _ ⟨rfl, rfl⟩
    refine Go.iload 269 at_267 rfl rfl ?_
    refine Go.icmpF 272 at_269 rfl (show (2 : Int) = (2 : Int) from by decide) ?_
    refine Go.aload 274 at_272 rfl rfl rfl ?_
    refine Go.iconst 275 (1 : Int32) at_274 rfl (by decide) ?_
    refine Go.callV 278 [(.int (1 : Int32))] [] (hw _ (List.mem_of_getElem? (i := 68) rfl)) (hw _ (List.mem_of_getElem? (i := 69) rfl)) (hw _ (List.mem_of_getElem? (i := 71) rfl)) (hw _ (List.mem_of_getElem? (i := 70) rfl)) (hw _ (List.mem_of_getElem? (i := 72) rfl)) (hw _ (List.mem_of_getElem? (i := 3) rfl)) (by decide) pn_1 pd_6 rfl H2.1.1 (ef_11_AI a (1 : Int32)) (endTerm_go l Z a0 hw H2 (i := 1) (k := 2) (by decide) rfl) rfl rfl (by decide) (leB rfl) (by decide) (by decide) at_275 rfl ?_
    rintro _ _ ⟨rfl, rfl⟩
    refine Go.iload 280 at_278 rfl rfl ?_
    refine Go.iload 282 at_280 rfl rfl ?_
    refine Go.iadd 283 (3 : Int32) at_282 rfl (by decide) ?_
    refine Go.icmpF 286 at_283 rfl (show (3 : Int) = (3 : Int) from by decide) ?_
    refine Go.iconst 287 (1 : Int32) at_286 rfl (by decide) ?_
    refine Go.goto 291 at_287 (by decide) (by decide) ?_
    refine Go.istore 293 #[.val (.int k), .val (.int s0), .val (.int s1), .val (.int p0), .val (.int m0), .val (.int ia0), .val (.int il0), .val (.int ib0), .val (.int p1), .val (.int q1), .val (.int ia1), .val (.double a0_), .second, .val (.double l0), .second, .val (.double b0), .second, .val (.double b1), .second, .val (.double a1), .second, .val (.ref a), .val (.int (0 : Int32)), .val (.int (1 : Int32)), .val (.int (2 : Int32)), .val (.int (1 : Int32)), .val (.int (1 : Int32))] at_291 rfl rfl ?_
    refine Go.iload 295 at_293 rfl rfl ?_
    refine Go.ifCT 367 at_295 (by decide) (by decide) (show (0 : Int) = 0 from by decide) ?_
    refine Go.iload 369 at_367 rfl rfl ?_
    refine Go.ifCF 372 at_369 rfl (show (1 : Int) ≠ 0 from by decide) ?_
    refine Go.aload 374 at_372 rfl rfl rfl ?_
    refine Go.iconst 375 (0 : Int32) at_374 rfl (by decide) ?_
    refine Go.callV 378 [(.int (0 : Int32))] [] (hw _ (List.mem_of_getElem? (i := 73) rfl)) (hw _ (List.mem_of_getElem? (i := 74) rfl)) (hw _ (List.mem_of_getElem? (i := 76) rfl)) (hw _ (List.mem_of_getElem? (i := 75) rfl)) (hw _ (List.mem_of_getElem? (i := 77) rfl)) (hw _ (List.mem_of_getElem? (i := 3) rfl)) (by decide) pn_1 pd_8 rfl H2.1.1 (ef_12_AI a (0 : Int32)) (constant_go l Z a0 hw H2 (i := 0) (k := 0) (by decide) rfl) rfl rfl (by decide) (leB rfl) (by decide) (by decide) at_375 rfl ?_
    rintro _ _ ⟨rfl, rfl⟩
    refine Go.iloadN 379 at_378 rfl rfl ?_
    refine Go.i2d 380 (FP.i2d k) at_379 rfl rfl ?_
    refine Go.dcmp 381 (0 : Int32) at_380 rfl (cmpQ0 dk_ (dq_of_int (FP.Core.i2d_int k)) (Int.mul_one _) .l) ?_
    refine Go.ifCF 384 at_381 rfl (show (0 : Int) = 0 from by decide) ?_
    refine Go.aload 386 at_384 rfl rfl rfl ?_
    refine Go.iconst 387 (0 : Int32) at_386 rfl (by decide) ?_
    refine Go.callV 390 [(.int (0 : Int32))] [] (hw _ (List.mem_of_getElem? (i := 78) rfl)) (hw _ (List.mem_of_getElem? (i := 79) rfl)) (hw _ (List.mem_of_getElem? (i := 81) rfl)) (hw _ (List.mem_of_getElem? (i := 80) rfl)) (hw _ (List.mem_of_getElem? (i := 82) rfl)) (hw _ (List.mem_of_getElem? (i := 3) rfl)) (by decide) pn_1 pd_8 rfl H2.1.1 (ef_13_AI a (0 : Int32)) (leaving_go l Z a0 hw H2 (i := 0) (k := 0) (by decide) rfl) rfl rfl (by decide) (leB rfl) (by decide) (by decide) at_387 rfl ?_
    rintro _ _ ⟨rfl, rfl⟩
    refine Go.dload 392 at_390 rfl rfl ?_
    refine Go.dcmp 393 (0 : Int32) at_392 rfl (cmpQ0 dv_ dL0 (Int.mul_one _) .l) ?_
    refine Go.ifCF 396 at_393 rfl (show (0 : Int) = 0 from by decide) ?_
    refine Go.aload 398 at_396 rfl rfl rfl ?_
    refine Go.iconst 399 (0 : Int32) at_398 rfl (by decide) ?_
    refine Go.iconst 400 (0 : Int32) at_399 rfl (by decide) ?_
    refine Go.dload 402 at_400 rfl rfl ?_
    refine Go.callS 405 [(.ref a), (.int (0 : Int32)), (.int (0 : Int32)), (.double a0_)] [] (hw _ (List.mem_of_getElem? (i := 83) rfl)) (hw _ (List.mem_of_getElem? (i := 84) rfl)) (hw _ (List.mem_of_getElem? (i := 86) rfl)) (hw _ (List.mem_of_getElem? (i := 85) rfl)) (by decide) pn_15 pd_16 rfl (ef_14_AIID a (0 : Int32) (0 : Int32) a0_) (term_go l Z a0 hw H2 (k := 0) (by decide) (hc := rfl) (hx := rfl) (cmpQ0 dfa dA0 (Int.mul_one _) .l)) rfl rfl (by decide) (leB rfl) (by decide) (by decide) at_402 rfl ?_
    rintro _ _ ⟨rfl, rfl⟩
    refine Go.ifCF 408 at_405 rfl (show (1 : Int) ≠ 0 from by decide) ?_
    refine Go.aload 410 at_408 rfl rfl rfl ?_
    refine Go.iconst 411 (1 : Int32) at_410 rfl (by decide) ?_
    refine Go.iconst 412 (1 : Int32) at_411 rfl (by decide) ?_
    refine Go.dload 414 at_412 rfl rfl ?_
    refine Go.callS 417 [(.ref a), (.int (1 : Int32)), (.int (1 : Int32)), (.double b0)] [] (hw _ (List.mem_of_getElem? (i := 83) rfl)) (hw _ (List.mem_of_getElem? (i := 84) rfl)) (hw _ (List.mem_of_getElem? (i := 86) rfl)) (hw _ (List.mem_of_getElem? (i := 85) rfl)) (by decide) pn_15 pd_16 rfl (ef_14_AIID a (1 : Int32) (1 : Int32) b0) (term_go l Z a0 hw H2 (k := 1) (by decide) (hc := rfl) (hx := rfl) (cmpQ0 dfb dB0 (Int.mul_one _) .l)) rfl rfl (by decide) (leB rfl) (by decide) (by decide) at_414 rfl ?_
    rintro _ _ ⟨rfl, rfl⟩
    refine Go.ifCF 420 at_417 rfl (show (1 : Int) ≠ 0 from by decide) ?_
    refine Go.iconst 421 (1 : Int32) at_420 rfl (by decide) ?_
    refine Go.goto 425 at_421 (by decide) (by decide) ?_
    refine Go.istore 427 #[.val (.int k), .val (.int s0), .val (.int s1), .val (.int p0), .val (.int m0), .val (.int ia0), .val (.int il0), .val (.int ib0), .val (.int p1), .val (.int q1), .val (.int ia1), .val (.double a0_), .second, .val (.double l0), .second, .val (.double b0), .second, .val (.double b1), .second, .val (.double a1), .second, .val (.ref a), .val (.int (0 : Int32)), .val (.int (1 : Int32)), .val (.int (2 : Int32)), .val (.int (1 : Int32)), .val (.int (1 : Int32))] at_425 rfl rfl ?_
    refine Go.iload 429 at_427 rfl rfl ?_
    refine Go.ifCF 432 at_429 rfl (show (1 : Int) ≠ 0 from by decide) ?_
    refine Go.iload 434 at_432 rfl rfl ?_
    refine Go.ifCF 437 at_434 rfl (show (1 : Int) ≠ 0 from by decide) ?_
    refine Go.aload 439 at_437 rfl rfl rfl ?_
    refine Go.iload 441 at_439 rfl rfl ?_
    refine Go.iconst 442 (0 : Int32) at_441 rfl (by decide) ?_
    refine Go.dconst1 443 (4607182418800017408 : UInt64) at_442 rfl rfl ?_
    refine Go.callS 446 [(.ref a), (.int (2 : Int32)), (.int (0 : Int32)), (.double (4607182418800017408 : UInt64))] [] (hw _ (List.mem_of_getElem? (i := 83) rfl)) (hw _ (List.mem_of_getElem? (i := 84) rfl)) (hw _ (List.mem_of_getElem? (i := 86) rfl)) (hw _ (List.mem_of_getElem? (i := 85) rfl)) (by decide) pn_15 pd_16 rfl (ef_14_AIID a (2 : Int32) (0 : Int32) (4607182418800017408 : UInt64)) (term_go l Z a0 hw H2 (k := 2) (by decide) (hc := rfl) (hx := rfl) (cmpQ0 dfb1 (dq_up 4 (dq_of_int FP.Core.dint_one)) (by rw [Int.mul_comm, ← hS1]; decide) .l)) rfl rfl (by decide) (leB rfl) (by decide) (by decide) at_443 rfl ?_
    rintro _ _ ⟨rfl, rfl⟩
    refine Go.ifCF 449 at_446 rfl (show (1 : Int) ≠ 0 from by decide) ?_
    refine Go.iconst 450 (1 : Int32) at_449 rfl (by decide) ?_
    refine Go.goto 454 at_450 (by decide) (by decide) ?_
    refine Go.istore 456 #[.val (.int k), .val (.int s0), .val (.int s1), .val (.int p0), .val (.int m0), .val (.int ia0), .val (.int il0), .val (.int ib0), .val (.int p1), .val (.int q1), .val (.int ia1), .val (.double a0_), .second, .val (.double l0), .second, .val (.double b0), .second, .val (.double b1), .second, .val (.double a1), .second, .val (.ref a), .val (.int (0 : Int32)), .val (.int (1 : Int32)), .val (.int (2 : Int32)), .val (.int (1 : Int32)), .val (.int (1 : Int32))] at_454 rfl rfl ?_
    refine Go.goto 499 at_456 (by decide) (by decide) ?_
    refine Go.iload 501 at_499 rfl rfl ?_
    exact Go.zret at_501 rfl (Or.inr rfl) (by decide) (by decide) rfl
  refine Go.ifCB 217 208 at_205 (by decide) (by decide) rfl (fun (hc : (ia0).toInt ≤ 0) => ?_) (fun (hc : 0 < (ia0).toInt) => ?_)
  · refine Go.iconst 218 (0 : Int32) at_217 rfl (by decide) ?_
    exact g218
  · refine Go.iload 210 at_208 rfl rfl ?_
    refine Go.ifCT 217 at_210 (by decide) (by decide) (show (m0).toInt ≤ 0 from by omega) ?_
    refine Go.iconst 218 (0 : Int32) at_217 rfl (by decide) ?_
    exact g218
set_option maxRecDepth 65536 in
set_option maxHeartbeats 40000000 in
theorem tail_10 (l : Launch) (Z : State) (a0 : Array Value) (hw : ∀ d ∈ tables_1, d.before a0 Z = true) {n0 : Nat} {h : Heap} {a ra ca ka la fa va : Nat} {tI : List Int32} {tD : List UInt64} (hTI : tI.length = 1020) (hTD : tD.length = 1020) {rs3 cs3 : Int32} {ks0 ks2 ks3 vs0 vs2 vs3 a0_ l0 b0 b1 a1 : UInt64} {k s0 s1 p0 m0 ia0 il0 ib0 p1 q1 ia1 : Int32} (H : BS Z n0 h a ra ca ka la fa va (2 : Int32) (2 : Int32) (4 : Int32) (0 : Int32) ([(0 : Int32), (1 : Int32), (2 : Int32), rs3] ++ tI) ([(0 : Int32), (2 : Int32), (4 : Int32), cs3] ++ tI) ([ks0, (0 : UInt64), ks2, ks3] ++ tD) ([(0 : Int32), (1 : Int32), (0 : Int32), (1 : Int32)] ++ tI) ([a0_, b0, b1, a1] ++ tD) ([vs0, (0 : UInt64), vs2, vs3] ++ tD))
    (dK : FP.Core.DInt k.toInt ks0) (dA0 : DQ 4 ia0.toInt a0_) (dB0 : DQ 4 ib0.toInt b0) (dV0 : DQ 4 il0.toInt vs0) (dL0 : DQ 4 il0.toInt l0) (dB1 : DQ 4 q1.toInt b1) (dA1 : DQ 4 ia1.toInt a1) (bK : -2147483648 ≤ k.toInt ∧ k.toInt ≤ 2147483647) (b1_ : 0 ≤ ia0.toInt ∧ ia0.toInt ≤ 16) (b2_ : 0 ≤ ib0.toInt ∧ ib0.toInt ≤ 16) (b3_ : 0 ≤ il0.toInt ∧ il0.toInt ≤ 16) (b4_ : 0 ≤ q1.toInt ∧ q1.toInt ≤ 16) (b5_ : 0 ≤ ia1.toInt ∧ ia1.toInt ≤ 16) (ev0 : il0.toInt + ib0.toInt = m0.toInt) (h0 : 0 < ia0.toInt ∧ 0 < m0.toInt) (h1 : ¬ (0 < ia1.toInt ∧ 0 < q1.toInt)) (hp0 : ∃ S : Int, 16 = S * m0.toInt ∧ 0 ≤ S ∧ S ≤ 16) :
    Go l Z room_1 (x, code, maxLocals, ret) n0 Q1 h 7 6154 198 #[.val (.int k), .val (.int s0), .val (.int s1), .val (.int p0), .val (.int m0), .val (.int ia0), .val (.int il0), .val (.int ib0), .val (.int p1), .val (.int q1), .val (.int ia1), .val (.double a0_), .second, .val (.double l0), .second, .val (.double b0), .second, .val (.double b1), .second, .val (.double a1), .second, .val (.ref a), .unset, .unset, .unset, .unset, .unset] [] := by
  refine Go.aload 200 at_198 rfl rfl rfl ?_
  obtain ⟨S0, hS0, bS0⟩ := hp0
  refine Go.callV 203 [] [] (hw _ (List.mem_of_getElem? (i := 61) rfl)) (hw _ (List.mem_of_getElem? (i := 62) rfl)) (hw _ (List.mem_of_getElem? (i := 64) rfl)) (hw _ (List.mem_of_getElem? (i := 63) rfl)) (hw _ (List.mem_of_getElem? (i := 65) rfl)) (hw _ (List.mem_of_getElem? (i := 3) rfl)) (by decide) pn_1 pd_10 rfl H.1.1 (ef_10_A a) (fold_10 l Z a0 hw hTI hTD H dK bK dA0 dB0 dV0 dB1 dA1 (by omega) (by omega) (by omega) (by omega) (by omega) (by omega) (by omega) (by rw [ev0]; exact hS0) bS0) rfl rfl (by decide) (leB rfl) (by decide) (by decide) at_200 rfl ?_
  rintro _ h2 ⟨rfl, k_, v_, fa_, fb, fb1, fa1, k1, v1, dk_, dv_, dfa, dfb, dfb1, dfa1, H2⟩
  refine Go.iload 205 at_203 rfl rfl ?_
  refine Go.ifCF 208 at_205 rfl (show 0 < (ia0).toInt from by omega) ?_
  refine Go.iload 210 at_208 rfl rfl ?_
  refine Go.ifCF 213 at_210 rfl (show 0 < (m0).toInt from by omega) ?_
  refine Go.iconst 214 (1 : Int32) at_213 rfl (by decide) ?_
  refine Go.goto 218 at_214 (by decide) (by decide) ?_
  refine Go.istore 220 #[.val (.int k), .val (.int s0), .val (.int s1), .val (.int p0), .val (.int m0), .val (.int ia0), .val (.int il0), .val (.int ib0), .val (.int p1), .val (.int q1), .val (.int ia1), .val (.double a0_), .second, .val (.double l0), .second, .val (.double b0), .second, .val (.double b1), .second, .val (.double a1), .second, .val (.ref a), .val (.int (1 : Int32)), .unset, .unset, .unset, .unset] at_218 rfl rfl ?_
  refine Go.iload 222 at_220 rfl rfl ?_
  have g235 : Go l Z room_1 (x, code, maxLocals, ret) n0 Q1 h2 7 6154 235 #[.val (.int k), .val (.int s0), .val (.int s1), .val (.int p0), .val (.int m0), .val (.int ia0), .val (.int il0), .val (.int ib0), .val (.int p1), .val (.int q1), .val (.int ia1), .val (.double a0_), .second, .val (.double l0), .second, .val (.double b0), .second, .val (.double b1), .second, .val (.double a1), .second, .val (.ref a), .val (.int (1 : Int32)), .unset, .unset, .unset, .unset] [.int 0] := by
    refine Go.istore 237 #[.val (.int k), .val (.int s0), .val (.int s1), .val (.int p0), .val (.int m0), .val (.int ia0), .val (.int il0), .val (.int ib0), .val (.int p1), .val (.int q1), .val (.int ia1), .val (.double a0_), .second, .val (.double l0), .second, .val (.double b0), .second, .val (.double b1), .second, .val (.double a1), .second, .val (.ref a), .val (.int (1 : Int32)), .val (.int (0 : Int32)), .unset, .unset, .unset] at_235 rfl rfl ?_
    refine Go.iload 239 at_237 rfl rfl ?_
    refine Go.ifCF 242 at_239 rfl (show (1 : Int) ≠ 0 from by decide) ?_
    refine Go.iconst 243 (1 : Int32) at_242 rfl (by decide) ?_
    refine Go.goto 247 at_243 (by decide) (by decide) ?_
    refine Go.istore 249 #[.val (.int k), .val (.int s0), .val (.int s1), .val (.int p0), .val (.int m0), .val (.int ia0), .val (.int il0), .val (.int ib0), .val (.int p1), .val (.int q1), .val (.int ia1), .val (.double a0_), .second, .val (.double l0), .second, .val (.double b0), .second, .val (.double b1), .second, .val (.double a1), .second, .val (.ref a), .val (.int (1 : Int32)), .val (.int (0 : Int32)), .val (.int (1 : Int32)), .unset, .unset] at_247 rfl rfl ?_
    refine Go.iload 251 at_249 rfl rfl ?_
    refine Go.ifCT 258 at_251 (by decide) (by decide) (show (0 : Int) = 0 from by decide) ?_
    refine Go.iconst 259 (2 : Int32) at_258 rfl (by decide) ?_
    refine Go.istore 261 #[.val (.int k), .val (.int s0), .val (.int s1), .val (.int p0), .val (.int m0), .val (.int ia0), .val (.int il0), .val (.int ib0), .val (.int p1), .val (.int q1), .val (.int ia1), .val (.double a0_), .second, .val (.double l0), .second, .val (.double b0), .second, .val (.double b1), .second, .val (.double a1), .second, .val (.ref a), .val (.int (1 : Int32)), .val (.int (0 : Int32)), .val (.int (1 : Int32)), .val (.int (2 : Int32)), .unset] at_259 rfl rfl ?_
    refine Go.aload 263 at_261 rfl rfl rfl ?_
    refine Go.iconst 264 (0 : Int32) at_263 rfl (by decide) ?_
    refine Go.callV 267 [(.int (0 : Int32))] [] (hw _ (List.mem_of_getElem? (i := 68) rfl)) (hw _ (List.mem_of_getElem? (i := 69) rfl)) (hw _ (List.mem_of_getElem? (i := 71) rfl)) (hw _ (List.mem_of_getElem? (i := 70) rfl)) (hw _ (List.mem_of_getElem? (i := 72) rfl)) (hw _ (List.mem_of_getElem? (i := 3) rfl)) (by decide) pn_1 pd_6 rfl H2.1.1 (ef_11_AI a (0 : Int32)) (endTerm_go l Z a0 hw H2 (i := 0) (k := 1) (by decide) rfl) rfl rfl (by decide) (leB rfl) (by decide) (by decide) at_264 rfl ?_
    rintro _ _ ⟨rfl, rfl⟩
    refine Go.iload 269 at_267 rfl rfl ?_
    refine Go.icmpF 272 at_269 rfl (show (1 : Int) = (1 : Int) from by decide) ?_
    refine Go.aload 274 at_272 rfl rfl rfl ?_
    refine Go.iconst 275 (1 : Int32) at_274 rfl (by decide) ?_
    refine Go.callV 278 [(.int (1 : Int32))] [] (hw _ (List.mem_of_getElem? (i := 68) rfl)) (hw _ (List.mem_of_getElem? (i := 69) rfl)) (hw _ (List.mem_of_getElem? (i := 71) rfl)) (hw _ (List.mem_of_getElem? (i := 70) rfl)) (hw _ (List.mem_of_getElem? (i := 72) rfl)) (hw _ (List.mem_of_getElem? (i := 3) rfl)) (by decide) pn_1 pd_6 rfl H2.1.1 (ef_11_AI a (1 : Int32)) (endTerm_go l Z a0 hw H2 (i := 1) (k := 2) (by decide) rfl) rfl rfl (by decide) (leB rfl) (by decide) (by decide) at_275 rfl ?_
    rintro _ _ ⟨rfl, rfl⟩
    refine Go.iload 280 at_278 rfl rfl ?_
    refine Go.iload 282 at_280 rfl rfl ?_
    refine Go.iadd 283 (3 : Int32) at_282 rfl (by decide) ?_
    refine Go.icmpF 286 at_283 rfl (show (3 : Int) = (3 : Int) from by decide) ?_
    refine Go.iconst 287 (1 : Int32) at_286 rfl (by decide) ?_
    refine Go.goto 291 at_287 (by decide) (by decide) ?_
    refine Go.istore 293 #[.val (.int k), .val (.int s0), .val (.int s1), .val (.int p0), .val (.int m0), .val (.int ia0), .val (.int il0), .val (.int ib0), .val (.int p1), .val (.int q1), .val (.int ia1), .val (.double a0_), .second, .val (.double l0), .second, .val (.double b0), .second, .val (.double b1), .second, .val (.double a1), .second, .val (.ref a), .val (.int (1 : Int32)), .val (.int (0 : Int32)), .val (.int (1 : Int32)), .val (.int (2 : Int32)), .val (.int (1 : Int32))] at_291 rfl rfl ?_
    refine Go.iload 295 at_293 rfl rfl ?_
    refine Go.ifCF 298 at_295 rfl (show (1 : Int) ≠ 0 from by decide) ?_
    refine Go.iload 300 at_298 rfl rfl ?_
    refine Go.ifCF 303 at_300 rfl (show (1 : Int) ≠ 0 from by decide) ?_
    have em : (16 : Int) = S0 * m0.toInt := hS0
    obtain ⟨x1, qx1, dx1⟩ := mulQ (dq_of_int (FP.Core.i2d_int k)) (dq_of_int d16) (by omega) (by decide)
    obtain ⟨x2, qx2, dx2⟩ := divQ (n := 0) (t := k.toInt * S0) dx1 (dq_of_int (FP.Core.i2d_int m0)) (by omega) (by rw [Int.mul_assoc k.toInt S0, ← em] <;> simp) (by rw [Int.natAbs_mul]; exact Nat.lt_of_le_of_lt (Nat.mul_le_mul (show _ ≤ 2147483648 by omega) (show _ ≤ 16 by omega)) (by decide)) (by decide)
    obtain ⟨x3, qx3, dx3⟩ := divQ (n := 4) (t := il0.toInt * S0) (dq_of_int (FP.Core.i2d_int il0)) (dq_of_int (FP.Core.i2d_int m0)) (by omega) (by rw [Int.mul_assoc il0.toInt S0, ← em]; simp) (by rw [Int.natAbs_mul]; exact Nat.lt_of_le_of_lt (Nat.mul_le_mul (show _ ≤ 16 by omega) (show _ ≤ 16 by omega)) (by decide)) (by decide)
    obtain ⟨x4, qx4, dx4⟩ := divQ (n := 4) (t := ib0.toInt * S0) (dq_of_int (FP.Core.i2d_int ib0)) (dq_of_int (FP.Core.i2d_int m0)) (by omega) (by rw [Int.mul_assoc ib0.toInt S0, ← em]; simp) (by rw [Int.natAbs_mul]; exact Nat.lt_of_le_of_lt (Nat.mul_le_mul (show _ ≤ 16 by omega) (show _ ≤ 16 by omega)) (by decide)) (by decide)
    refine Go.aload 305 at_303 rfl rfl rfl ?_
    refine Go.iconst 306 (0 : Int32) at_305 rfl (by decide) ?_
    refine Go.callV 309 [(.int (0 : Int32))] [] (hw _ (List.mem_of_getElem? (i := 73) rfl)) (hw _ (List.mem_of_getElem? (i := 74) rfl)) (hw _ (List.mem_of_getElem? (i := 76) rfl)) (hw _ (List.mem_of_getElem? (i := 75) rfl)) (hw _ (List.mem_of_getElem? (i := 77) rfl)) (hw _ (List.mem_of_getElem? (i := 3) rfl)) (by decide) pn_1 pd_8 rfl H2.1.1 (ef_12_AI a (0 : Int32)) (constant_go l Z a0 hw H2 (i := 0) (k := 0) (by decide) rfl) rfl rfl (by decide) (leB rfl) (by decide) (by decide) at_306 rfl ?_
    rintro _ _ ⟨rfl, rfl⟩
    refine Go.iloadN 310 at_309 rfl rfl ?_
    refine Go.i2d 311 (FP.i2d k) at_310 rfl rfl ?_
    refine Go.ldc2D 314 (4625196817309499392 : UInt64) (hw _ (List.mem_of_getElem? (i := 0) rfl)) at_311 rfl ?_
    refine Go.dmul 315 x1 at_314 rfl qx1.1 qx1.2 ?_
    refine Go.iload 317 at_315 rfl rfl ?_
    refine Go.i2d 318 (FP.i2d m0) at_317 rfl rfl ?_
    refine Go.ddiv 319 x2 at_318 rfl qx2.1 qx2.2 ?_
    refine Go.dcmp 320 (0 : Int32) at_319 rfl (cmpQ0 dk_ dx2 rfl .l) ?_
    refine Go.ifCF 323 at_320 rfl (show (0 : Int) = 0 from by decide) ?_
    refine Go.aload 325 at_323 rfl rfl rfl ?_
    refine Go.iconst 326 (0 : Int32) at_325 rfl (by decide) ?_
    refine Go.callV 329 [(.int (0 : Int32))] [] (hw _ (List.mem_of_getElem? (i := 78) rfl)) (hw _ (List.mem_of_getElem? (i := 79) rfl)) (hw _ (List.mem_of_getElem? (i := 81) rfl)) (hw _ (List.mem_of_getElem? (i := 80) rfl)) (hw _ (List.mem_of_getElem? (i := 82) rfl)) (hw _ (List.mem_of_getElem? (i := 3) rfl)) (by decide) pn_1 pd_8 rfl H2.1.1 (ef_13_AI a (0 : Int32)) (leaving_go l Z a0 hw H2 (i := 0) (k := 0) (by decide) rfl) rfl rfl (by decide) (leB rfl) (by decide) (by decide) at_326 rfl ?_
    rintro _ _ ⟨rfl, rfl⟩
    refine Go.iload 331 at_329 rfl rfl ?_
    refine Go.i2d 332 (FP.i2d il0) at_331 rfl rfl ?_
    refine Go.iload 334 at_332 rfl rfl ?_
    refine Go.i2d 335 (FP.i2d m0) at_334 rfl rfl ?_
    refine Go.ddiv 336 x3 at_335 rfl qx3.1 qx3.2 ?_
    refine Go.dcmp 337 (0 : Int32) at_336 rfl (cmpQ0 dv_ dx3 rfl .l) ?_
    refine Go.ifCF 340 at_337 rfl (show (0 : Int) = 0 from by decide) ?_
    refine Go.aload 342 at_340 rfl rfl rfl ?_
    refine Go.iconst 343 (0 : Int32) at_342 rfl (by decide) ?_
    refine Go.iconst 344 (1 : Int32) at_343 rfl (by decide) ?_
    refine Go.iload 346 at_344 rfl rfl ?_
    refine Go.i2d 347 (FP.i2d ib0) at_346 rfl rfl ?_
    refine Go.iload 349 at_347 rfl rfl ?_
    refine Go.i2d 350 (FP.i2d m0) at_349 rfl rfl ?_
    refine Go.ddiv 351 x4 at_350 rfl qx4.1 qx4.2 ?_
    refine Go.callS 354 [(.ref a), (.int (0 : Int32)), (.int (1 : Int32)), (.double x4)] [] (hw _ (List.mem_of_getElem? (i := 83) rfl)) (hw _ (List.mem_of_getElem? (i := 84) rfl)) (hw _ (List.mem_of_getElem? (i := 86) rfl)) (hw _ (List.mem_of_getElem? (i := 85) rfl)) (by decide) pn_15 pd_16 rfl (ef_14_AIID a (0 : Int32) (1 : Int32) x4) (term_go l Z a0 hw H2 (k := 0) (by decide) (hc := rfl) (hx := rfl) (cmpQ0 dfb dx4 rfl .l)) rfl rfl (by decide) (leB rfl) (by decide) (by decide) at_351 rfl ?_
    rintro _ _ ⟨rfl, rfl⟩
    refine Go.ifCF 357 at_354 rfl (show (1 : Int) ≠ 0 from by decide) ?_
    refine Go.iconst 358 (1 : Int32) at_357 rfl (by decide) ?_
    refine Go.goto 362 at_358 (by decide) (by decide) ?_
    refine Go.istore 364 #[.val (.int k), .val (.int s0), .val (.int s1), .val (.int p0), .val (.int m0), .val (.int ia0), .val (.int il0), .val (.int ib0), .val (.int p1), .val (.int q1), .val (.int ia1), .val (.double a0_), .second, .val (.double l0), .second, .val (.double b0), .second, .val (.double b1), .second, .val (.double a1), .second, .val (.ref a), .val (.int (1 : Int32)), .val (.int (0 : Int32)), .val (.int (1 : Int32)), .val (.int (2 : Int32)), .val (.int (1 : Int32))] at_362 rfl rfl ?_
    refine Go.goto 427 at_364 (by decide) (by decide) ?_
    refine Go.iload 429 at_427 rfl rfl ?_
    refine Go.ifCT 459 at_429 (by decide) (by decide) (show (0 : Int) = 0 from by decide) ?_
    refine Go.iload 461 at_459 rfl rfl ?_
    refine Go.ifCF 464 at_461 rfl (show (1 : Int) ≠ 0 from by decide) ?_
    refine Go.aload 466 at_464 rfl rfl rfl ?_
    refine Go.iload 468 at_466 rfl rfl ?_
    refine Go.iconst 469 (0 : Int32) at_468 rfl (by decide) ?_
    refine Go.dload 471 at_469 rfl rfl ?_
    refine Go.callS 474 [(.ref a), (.int (1 : Int32)), (.int (0 : Int32)), (.double b1)] [] (hw _ (List.mem_of_getElem? (i := 83) rfl)) (hw _ (List.mem_of_getElem? (i := 84) rfl)) (hw _ (List.mem_of_getElem? (i := 86) rfl)) (hw _ (List.mem_of_getElem? (i := 85) rfl)) (by decide) pn_15 pd_16 rfl (ef_14_AIID a (1 : Int32) (0 : Int32) b1) (term_go l Z a0 hw H2 (k := 1) (by decide) (hc := rfl) (hx := rfl) (cmpQ0 dfb1 dB1 (Int.mul_one _) .l)) rfl rfl (by decide) (leB rfl) (by decide) (by decide) at_471 rfl ?_
    rintro _ _ ⟨rfl, rfl⟩
    refine Go.ifCF 477 at_474 rfl (show (1 : Int) ≠ 0 from by decide) ?_
    refine Go.aload 479 at_477 rfl rfl rfl ?_
    refine Go.iload 481 at_479 rfl rfl ?_
    refine Go.iconst 482 (1 : Int32) at_481 rfl (by decide) ?_
    refine Go.iadd 483 (2 : Int32) at_482 rfl (by decide) ?_
    refine Go.iconst 484 (1 : Int32) at_483 rfl (by decide) ?_
    refine Go.dload 486 at_484 rfl rfl ?_
    refine Go.callS 489 [(.ref a), (.int (2 : Int32)), (.int (1 : Int32)), (.double a1)] [] (hw _ (List.mem_of_getElem? (i := 83) rfl)) (hw _ (List.mem_of_getElem? (i := 84) rfl)) (hw _ (List.mem_of_getElem? (i := 86) rfl)) (hw _ (List.mem_of_getElem? (i := 85) rfl)) (by decide) pn_15 pd_16 rfl (ef_14_AIID a (2 : Int32) (1 : Int32) a1) (term_go l Z a0 hw H2 (k := 2) (by decide) (hc := rfl) (hx := rfl) (cmpQ0 dfa1 dA1 (Int.mul_one _) .l)) rfl rfl (by decide) (leB rfl) (by decide) (by decide) at_486 rfl ?_
    rintro _ _ ⟨rfl, rfl⟩
    refine Go.ifCF 492 at_489 rfl (show (1 : Int) ≠ 0 from by decide) ?_
    refine Go.iconst 493 (1 : Int32) at_492 rfl (by decide) ?_
    refine Go.goto 497 at_493 (by decide) (by decide) ?_
    refine Go.istore 499 #[.val (.int k), .val (.int s0), .val (.int s1), .val (.int p0), .val (.int m0), .val (.int ia0), .val (.int il0), .val (.int ib0), .val (.int p1), .val (.int q1), .val (.int ia1), .val (.double a0_), .second, .val (.double l0), .second, .val (.double b0), .second, .val (.double b1), .second, .val (.double a1), .second, .val (.ref a), .val (.int (1 : Int32)), .val (.int (0 : Int32)), .val (.int (1 : Int32)), .val (.int (2 : Int32)), .val (.int (1 : Int32))] at_497 rfl rfl ?_
    refine Go.iload 501 at_499 rfl rfl ?_
    exact Go.zret at_501 rfl (Or.inr rfl) (by decide) (by decide) rfl
  refine Go.ifCB 234 225 at_222 (by decide) (by decide) rfl (fun (hc : (ia1).toInt ≤ 0) => ?_) (fun (hc : 0 < (ia1).toInt) => ?_)
  · refine Go.iconst 235 (0 : Int32) at_234 rfl (by decide) ?_
    exact g235
  · refine Go.iload 227 at_225 rfl rfl ?_
    refine Go.ifCT 234 at_227 (by decide) (by decide) (show (q1).toInt ≤ 0 from by omega) ?_
    refine Go.iconst 235 (0 : Int32) at_234 rfl (by decide) ?_
    exact g235
set_option maxRecDepth 65536 in
set_option maxHeartbeats 40000000 in
theorem tail_11 (l : Launch) (Z : State) (a0 : Array Value) (hw : ∀ d ∈ tables_1, d.before a0 Z = true) {n0 : Nat} {h : Heap} {a ra ca ka la fa va : Nat} {tI : List Int32} {tD : List UInt64} (hTI : tI.length = 1020) (hTD : tD.length = 1020) {rs3 cs3 : Int32} {ks0 ks2 ks3 vs0 vs2 vs3 a0_ l0 b0 b1 a1 : UInt64} {k s0 s1 p0 m0 ia0 il0 ib0 p1 q1 ia1 : Int32} (H : BS Z n0 h a ra ca ka la fa va (2 : Int32) (2 : Int32) (4 : Int32) (0 : Int32) ([(0 : Int32), (1 : Int32), (2 : Int32), rs3] ++ tI) ([(0 : Int32), (2 : Int32), (4 : Int32), cs3] ++ tI) ([ks0, (0 : UInt64), ks2, ks3] ++ tD) ([(0 : Int32), (1 : Int32), (0 : Int32), (1 : Int32)] ++ tI) ([a0_, b0, b1, a1] ++ tD) ([vs0, (0 : UInt64), vs2, vs3] ++ tD))
    (dK : FP.Core.DInt k.toInt ks0) (dA0 : DQ 4 ia0.toInt a0_) (dB0 : DQ 4 ib0.toInt b0) (dV0 : DQ 4 il0.toInt vs0) (dL0 : DQ 4 il0.toInt l0) (dB1 : DQ 4 q1.toInt b1) (dA1 : DQ 4 ia1.toInt a1) (bK : -2147483648 ≤ k.toInt ∧ k.toInt ≤ 2147483647) (b1_ : 0 ≤ ia0.toInt ∧ ia0.toInt ≤ 16) (b2_ : 0 ≤ ib0.toInt ∧ ib0.toInt ≤ 16) (b3_ : 0 ≤ il0.toInt ∧ il0.toInt ≤ 16) (b4_ : 0 ≤ q1.toInt ∧ q1.toInt ≤ 16) (b5_ : 0 ≤ ia1.toInt ∧ ia1.toInt ≤ 16) (ev0 : il0.toInt + ib0.toInt = m0.toInt) (h0 : 0 < ia0.toInt ∧ 0 < m0.toInt) (h1 : 0 < ia1.toInt ∧ 0 < q1.toInt) (hp0 : ∃ S : Int, 16 = S * m0.toInt ∧ 0 ≤ S ∧ S ≤ 16) (hp1 : ∃ S : Int, 16 = S * q1.toInt ∧ 0 ≤ S ∧ S ≤ 16) :
    Go l Z room_1 (x, code, maxLocals, ret) n0 Q1 h 7 6154 198 #[.val (.int k), .val (.int s0), .val (.int s1), .val (.int p0), .val (.int m0), .val (.int ia0), .val (.int il0), .val (.int ib0), .val (.int p1), .val (.int q1), .val (.int ia1), .val (.double a0_), .second, .val (.double l0), .second, .val (.double b0), .second, .val (.double b1), .second, .val (.double a1), .second, .val (.ref a), .unset, .unset, .unset, .unset, .unset] [] := by
  refine Go.aload 200 at_198 rfl rfl rfl ?_
  obtain ⟨S0, hS0, bS0⟩ := hp0
  obtain ⟨S1, hS1, bS1⟩ := hp1
  refine Go.callV 203 [] [] (hw _ (List.mem_of_getElem? (i := 61) rfl)) (hw _ (List.mem_of_getElem? (i := 62) rfl)) (hw _ (List.mem_of_getElem? (i := 64) rfl)) (hw _ (List.mem_of_getElem? (i := 63) rfl)) (hw _ (List.mem_of_getElem? (i := 65) rfl)) (hw _ (List.mem_of_getElem? (i := 3) rfl)) (by decide) pn_1 pd_10 rfl H.1.1 (ef_10_A a) (fold_11 l Z a0 hw hTI hTD H dK bK dA0 dB0 dV0 dB1 dA1 (by omega) (by omega) (by omega) (by omega) (by omega) (by omega) (by omega) (by rw [ev0]; exact hS0) bS0 (by rw [Int.zero_add]; exact hS1) bS1) rfl rfl (by decide) (leB rfl) (by decide) (by decide) at_200 rfl ?_
  rintro _ h2 ⟨rfl, k_, v_, fa_, fb, fb1, fa1, k1, v1, dk_, dv_, dfa, dfb, dfb1, dfa1, H2⟩
  refine Go.iload 205 at_203 rfl rfl ?_
  refine Go.ifCF 208 at_205 rfl (show 0 < (ia0).toInt from by omega) ?_
  refine Go.iload 210 at_208 rfl rfl ?_
  refine Go.ifCF 213 at_210 rfl (show 0 < (m0).toInt from by omega) ?_
  refine Go.iconst 214 (1 : Int32) at_213 rfl (by decide) ?_
  refine Go.goto 218 at_214 (by decide) (by decide) ?_
  refine Go.istore 220 #[.val (.int k), .val (.int s0), .val (.int s1), .val (.int p0), .val (.int m0), .val (.int ia0), .val (.int il0), .val (.int ib0), .val (.int p1), .val (.int q1), .val (.int ia1), .val (.double a0_), .second, .val (.double l0), .second, .val (.double b0), .second, .val (.double b1), .second, .val (.double a1), .second, .val (.ref a), .val (.int (1 : Int32)), .unset, .unset, .unset, .unset] at_218 rfl rfl ?_
  refine Go.iload 222 at_220 rfl rfl ?_
  refine Go.ifCF 225 at_222 rfl (show 0 < (ia1).toInt from by omega) ?_
  refine Go.iload 227 at_225 rfl rfl ?_
  refine Go.ifCF 230 at_227 rfl (show 0 < (q1).toInt from by omega) ?_
  refine Go.iconst 231 (1 : Int32) at_230 rfl (by decide) ?_
  refine Go.goto 235 at_231 (by decide) (by decide) ?_
  refine Go.istore 237 #[.val (.int k), .val (.int s0), .val (.int s1), .val (.int p0), .val (.int m0), .val (.int ia0), .val (.int il0), .val (.int ib0), .val (.int p1), .val (.int q1), .val (.int ia1), .val (.double a0_), .second, .val (.double l0), .second, .val (.double b0), .second, .val (.double b1), .second, .val (.double a1), .second, .val (.ref a), .val (.int (1 : Int32)), .val (.int (1 : Int32)), .unset, .unset, .unset] at_235 rfl rfl ?_
  refine Go.iload 239 at_237 rfl rfl ?_
  refine Go.ifCF 242 at_239 rfl (show (1 : Int) ≠ 0 from by decide) ?_
  refine Go.iconst 243 (1 : Int32) at_242 rfl (by decide) ?_
  refine Go.goto 247 at_243 (by decide) (by decide) ?_
  refine Go.istore 249 #[.val (.int k), .val (.int s0), .val (.int s1), .val (.int p0), .val (.int m0), .val (.int ia0), .val (.int il0), .val (.int ib0), .val (.int p1), .val (.int q1), .val (.int ia1), .val (.double a0_), .second, .val (.double l0), .second, .val (.double b0), .second, .val (.double b1), .second, .val (.double a1), .second, .val (.ref a), .val (.int (1 : Int32)), .val (.int (1 : Int32)), .val (.int (1 : Int32)), .unset, .unset] at_247 rfl rfl ?_
  refine Go.iload 251 at_249 rfl rfl ?_
  refine Go.ifCF 254 at_251 rfl (show (1 : Int) ≠ 0 from by decide) ?_
  refine Go.iconst 255 (1 : Int32) at_254 rfl (by decide) ?_
  refine Go.goto 259 at_255 (by decide) (by decide) ?_
  refine Go.istore 261 #[.val (.int k), .val (.int s0), .val (.int s1), .val (.int p0), .val (.int m0), .val (.int ia0), .val (.int il0), .val (.int ib0), .val (.int p1), .val (.int q1), .val (.int ia1), .val (.double a0_), .second, .val (.double l0), .second, .val (.double b0), .second, .val (.double b1), .second, .val (.double a1), .second, .val (.ref a), .val (.int (1 : Int32)), .val (.int (1 : Int32)), .val (.int (1 : Int32)), .val (.int (1 : Int32)), .unset] at_259 rfl rfl ?_
  refine Go.aload 263 at_261 rfl rfl rfl ?_
  refine Go.iconst 264 (0 : Int32) at_263 rfl (by decide) ?_
  refine Go.callV 267 [(.int (0 : Int32))] [] (hw _ (List.mem_of_getElem? (i := 68) rfl)) (hw _ (List.mem_of_getElem? (i := 69) rfl)) (hw _ (List.mem_of_getElem? (i := 71) rfl)) (hw _ (List.mem_of_getElem? (i := 70) rfl)) (hw _ (List.mem_of_getElem? (i := 72) rfl)) (hw _ (List.mem_of_getElem? (i := 3) rfl)) (by decide) pn_1 pd_6 rfl H2.1.1 (ef_11_AI a (0 : Int32)) (endTerm_go l Z a0 hw H2 (i := 0) (k := 1) (by decide) rfl) rfl rfl (by decide) (leB rfl) (by decide) (by decide) at_264 rfl ?_
  rintro _ _ ⟨rfl, rfl⟩
  refine Go.iload 269 at_267 rfl rfl ?_
  refine Go.icmpF 272 at_269 rfl (show (1 : Int) = (1 : Int) from by decide) ?_
  refine Go.aload 274 at_272 rfl rfl rfl ?_
  refine Go.iconst 275 (1 : Int32) at_274 rfl (by decide) ?_
  refine Go.callV 278 [(.int (1 : Int32))] [] (hw _ (List.mem_of_getElem? (i := 68) rfl)) (hw _ (List.mem_of_getElem? (i := 69) rfl)) (hw _ (List.mem_of_getElem? (i := 71) rfl)) (hw _ (List.mem_of_getElem? (i := 70) rfl)) (hw _ (List.mem_of_getElem? (i := 72) rfl)) (hw _ (List.mem_of_getElem? (i := 3) rfl)) (by decide) pn_1 pd_6 rfl H2.1.1 (ef_11_AI a (1 : Int32)) (endTerm_go l Z a0 hw H2 (i := 1) (k := 2) (by decide) rfl) rfl rfl (by decide) (leB rfl) (by decide) (by decide) at_275 rfl ?_
  rintro _ _ ⟨rfl, rfl⟩
  refine Go.iload 280 at_278 rfl rfl ?_
  refine Go.iload 282 at_280 rfl rfl ?_
  refine Go.iadd 283 (2 : Int32) at_282 rfl (by decide) ?_
  refine Go.icmpF 286 at_283 rfl (show (2 : Int) = (2 : Int) from by decide) ?_
  refine Go.iconst 287 (1 : Int32) at_286 rfl (by decide) ?_
  refine Go.goto 291 at_287 (by decide) (by decide) ?_
  refine Go.istore 293 #[.val (.int k), .val (.int s0), .val (.int s1), .val (.int p0), .val (.int m0), .val (.int ia0), .val (.int il0), .val (.int ib0), .val (.int p1), .val (.int q1), .val (.int ia1), .val (.double a0_), .second, .val (.double l0), .second, .val (.double b0), .second, .val (.double b1), .second, .val (.double a1), .second, .val (.ref a), .val (.int (1 : Int32)), .val (.int (1 : Int32)), .val (.int (1 : Int32)), .val (.int (1 : Int32)), .val (.int (1 : Int32))] at_291 rfl rfl ?_
  refine Go.iload 295 at_293 rfl rfl ?_
  refine Go.ifCF 298 at_295 rfl (show (1 : Int) ≠ 0 from by decide) ?_
  refine Go.iload 300 at_298 rfl rfl ?_
  refine Go.ifCF 303 at_300 rfl (show (1 : Int) ≠ 0 from by decide) ?_
  have em : (16 : Int) = S0 * m0.toInt := hS0
  obtain ⟨x1, qx1, dx1⟩ := mulQ (dq_of_int (FP.Core.i2d_int k)) (dq_of_int d16) (by omega) (by decide)
  obtain ⟨x2, qx2, dx2⟩ := divQ (n := 0) (t := k.toInt * S0) dx1 (dq_of_int (FP.Core.i2d_int m0)) (by omega) (by rw [Int.mul_assoc k.toInt S0, ← em] <;> simp) (by rw [Int.natAbs_mul]; exact Nat.lt_of_le_of_lt (Nat.mul_le_mul (show _ ≤ 2147483648 by omega) (show _ ≤ 16 by omega)) (by decide)) (by decide)
  obtain ⟨x3, qx3, dx3⟩ := divQ (n := 4) (t := il0.toInt * S0) (dq_of_int (FP.Core.i2d_int il0)) (dq_of_int (FP.Core.i2d_int m0)) (by omega) (by rw [Int.mul_assoc il0.toInt S0, ← em]; simp) (by rw [Int.natAbs_mul]; exact Nat.lt_of_le_of_lt (Nat.mul_le_mul (show _ ≤ 16 by omega) (show _ ≤ 16 by omega)) (by decide)) (by decide)
  obtain ⟨x4, qx4, dx4⟩ := divQ (n := 4) (t := ib0.toInt * S0) (dq_of_int (FP.Core.i2d_int ib0)) (dq_of_int (FP.Core.i2d_int m0)) (by omega) (by rw [Int.mul_assoc ib0.toInt S0, ← em]; simp) (by rw [Int.natAbs_mul]; exact Nat.lt_of_le_of_lt (Nat.mul_le_mul (show _ ≤ 16 by omega) (show _ ≤ 16 by omega)) (by decide)) (by decide)
  refine Go.aload 305 at_303 rfl rfl rfl ?_
  refine Go.iconst 306 (0 : Int32) at_305 rfl (by decide) ?_
  refine Go.callV 309 [(.int (0 : Int32))] [] (hw _ (List.mem_of_getElem? (i := 73) rfl)) (hw _ (List.mem_of_getElem? (i := 74) rfl)) (hw _ (List.mem_of_getElem? (i := 76) rfl)) (hw _ (List.mem_of_getElem? (i := 75) rfl)) (hw _ (List.mem_of_getElem? (i := 77) rfl)) (hw _ (List.mem_of_getElem? (i := 3) rfl)) (by decide) pn_1 pd_8 rfl H2.1.1 (ef_12_AI a (0 : Int32)) (constant_go l Z a0 hw H2 (i := 0) (k := 0) (by decide) rfl) rfl rfl (by decide) (leB rfl) (by decide) (by decide) at_306 rfl ?_
  rintro _ _ ⟨rfl, rfl⟩
  refine Go.iloadN 310 at_309 rfl rfl ?_
  refine Go.i2d 311 (FP.i2d k) at_310 rfl rfl ?_
  refine Go.ldc2D 314 (4625196817309499392 : UInt64) (hw _ (List.mem_of_getElem? (i := 0) rfl)) at_311 rfl ?_
  refine Go.dmul 315 x1 at_314 rfl qx1.1 qx1.2 ?_
  refine Go.iload 317 at_315 rfl rfl ?_
  refine Go.i2d 318 (FP.i2d m0) at_317 rfl rfl ?_
  refine Go.ddiv 319 x2 at_318 rfl qx2.1 qx2.2 ?_
  refine Go.dcmp 320 (0 : Int32) at_319 rfl (cmpQ0 dk_ dx2 rfl .l) ?_
  refine Go.ifCF 323 at_320 rfl (show (0 : Int) = 0 from by decide) ?_
  refine Go.aload 325 at_323 rfl rfl rfl ?_
  refine Go.iconst 326 (0 : Int32) at_325 rfl (by decide) ?_
  refine Go.callV 329 [(.int (0 : Int32))] [] (hw _ (List.mem_of_getElem? (i := 78) rfl)) (hw _ (List.mem_of_getElem? (i := 79) rfl)) (hw _ (List.mem_of_getElem? (i := 81) rfl)) (hw _ (List.mem_of_getElem? (i := 80) rfl)) (hw _ (List.mem_of_getElem? (i := 82) rfl)) (hw _ (List.mem_of_getElem? (i := 3) rfl)) (by decide) pn_1 pd_8 rfl H2.1.1 (ef_13_AI a (0 : Int32)) (leaving_go l Z a0 hw H2 (i := 0) (k := 0) (by decide) rfl) rfl rfl (by decide) (leB rfl) (by decide) (by decide) at_326 rfl ?_
  rintro _ _ ⟨rfl, rfl⟩
  refine Go.iload 331 at_329 rfl rfl ?_
  refine Go.i2d 332 (FP.i2d il0) at_331 rfl rfl ?_
  refine Go.iload 334 at_332 rfl rfl ?_
  refine Go.i2d 335 (FP.i2d m0) at_334 rfl rfl ?_
  refine Go.ddiv 336 x3 at_335 rfl qx3.1 qx3.2 ?_
  refine Go.dcmp 337 (0 : Int32) at_336 rfl (cmpQ0 dv_ dx3 rfl .l) ?_
  refine Go.ifCF 340 at_337 rfl (show (0 : Int) = 0 from by decide) ?_
  refine Go.aload 342 at_340 rfl rfl rfl ?_
  refine Go.iconst 343 (0 : Int32) at_342 rfl (by decide) ?_
  refine Go.iconst 344 (1 : Int32) at_343 rfl (by decide) ?_
  refine Go.iload 346 at_344 rfl rfl ?_
  refine Go.i2d 347 (FP.i2d ib0) at_346 rfl rfl ?_
  refine Go.iload 349 at_347 rfl rfl ?_
  refine Go.i2d 350 (FP.i2d m0) at_349 rfl rfl ?_
  refine Go.ddiv 351 x4 at_350 rfl qx4.1 qx4.2 ?_
  refine Go.callS 354 [(.ref a), (.int (0 : Int32)), (.int (1 : Int32)), (.double x4)] [] (hw _ (List.mem_of_getElem? (i := 83) rfl)) (hw _ (List.mem_of_getElem? (i := 84) rfl)) (hw _ (List.mem_of_getElem? (i := 86) rfl)) (hw _ (List.mem_of_getElem? (i := 85) rfl)) (by decide) pn_15 pd_16 rfl (ef_14_AIID a (0 : Int32) (1 : Int32) x4) (term_go l Z a0 hw H2 (k := 0) (by decide) (hc := rfl) (hx := rfl) (cmpQ0 dfb dx4 rfl .l)) rfl rfl (by decide) (leB rfl) (by decide) (by decide) at_351 rfl ?_
  rintro _ _ ⟨rfl, rfl⟩
  refine Go.ifCF 357 at_354 rfl (show (1 : Int) ≠ 0 from by decide) ?_
  refine Go.iconst 358 (1 : Int32) at_357 rfl (by decide) ?_
  refine Go.goto 362 at_358 (by decide) (by decide) ?_
  refine Go.istore 364 #[.val (.int k), .val (.int s0), .val (.int s1), .val (.int p0), .val (.int m0), .val (.int ia0), .val (.int il0), .val (.int ib0), .val (.int p1), .val (.int q1), .val (.int ia1), .val (.double a0_), .second, .val (.double l0), .second, .val (.double b0), .second, .val (.double b1), .second, .val (.double a1), .second, .val (.ref a), .val (.int (1 : Int32)), .val (.int (1 : Int32)), .val (.int (1 : Int32)), .val (.int (1 : Int32)), .val (.int (1 : Int32))] at_362 rfl rfl ?_
  refine Go.goto 427 at_364 (by decide) (by decide) ?_
  refine Go.iload 429 at_427 rfl rfl ?_
  refine Go.ifCF 432 at_429 rfl (show (1 : Int) ≠ 0 from by decide) ?_
  refine Go.iload 434 at_432 rfl rfl ?_
  refine Go.ifCF 437 at_434 rfl (show (1 : Int) ≠ 0 from by decide) ?_
  refine Go.aload 439 at_437 rfl rfl rfl ?_
  refine Go.iload 441 at_439 rfl rfl ?_
  refine Go.iconst 442 (0 : Int32) at_441 rfl (by decide) ?_
  refine Go.dconst1 443 (4607182418800017408 : UInt64) at_442 rfl rfl ?_
  refine Go.callS 446 [(.ref a), (.int (1 : Int32)), (.int (0 : Int32)), (.double (4607182418800017408 : UInt64))] [] (hw _ (List.mem_of_getElem? (i := 83) rfl)) (hw _ (List.mem_of_getElem? (i := 84) rfl)) (hw _ (List.mem_of_getElem? (i := 86) rfl)) (hw _ (List.mem_of_getElem? (i := 85) rfl)) (by decide) pn_15 pd_16 rfl (ef_14_AIID a (1 : Int32) (0 : Int32) (4607182418800017408 : UInt64)) (term_go l Z a0 hw H2 (k := 1) (by decide) (hc := rfl) (hx := rfl) (cmpQ0 dfb1 (dq_up 4 (dq_of_int FP.Core.dint_one)) (by rw [Int.mul_comm, ← hS1]; decide) .l)) rfl rfl (by decide) (leB rfl) (by decide) (by decide) at_443 rfl ?_
  rintro _ _ ⟨rfl, rfl⟩
  refine Go.ifCF 449 at_446 rfl (show (1 : Int) ≠ 0 from by decide) ?_
  refine Go.iconst 450 (1 : Int32) at_449 rfl (by decide) ?_
  refine Go.goto 454 at_450 (by decide) (by decide) ?_
  refine Go.istore 456 #[.val (.int k), .val (.int s0), .val (.int s1), .val (.int p0), .val (.int m0), .val (.int ia0), .val (.int il0), .val (.int ib0), .val (.int p1), .val (.int q1), .val (.int ia1), .val (.double a0_), .second, .val (.double l0), .second, .val (.double b0), .second, .val (.double b1), .second, .val (.double a1), .second, .val (.ref a), .val (.int (1 : Int32)), .val (.int (1 : Int32)), .val (.int (1 : Int32)), .val (.int (1 : Int32)), .val (.int (1 : Int32))] at_454 rfl rfl ?_
  refine Go.goto 499 at_456 (by decide) (by decide) ?_
  refine Go.iload 501 at_499 rfl rfl ?_
  exact Go.zret at_501 rfl (Or.inr rfl) (by decide) (by decide) rfl
set_option maxRecDepth 65536 in
set_option maxHeartbeats 40000000 in
theorem law_go (l : Launch) (Z : State) (a0 : Array Value) (hw : ∀ d ∈ tables_1, d.before a0 Z = true) (k s0 s1 : Int32) {h : Heap} {n0 : Nat} : Go l Z room_1 (x, code, maxLocals, ret) n0 Q1 h 0 0 0 #[.val (.int k), .val (.int s0), .val (.int s1), .unset, .unset, .unset, .unset, .unset, .unset, .unset, .unset, .unset, .unset, .unset, .unset, .unset, .unset, .unset, .unset, .unset, .unset, .unset, .unset, .unset, .unset, .unset, .unset] [] := by
  have B_k := b32 k
  obtain ⟨p0, hp0⟩ : ∃ z : Int32, s0 &&& 7 = z := ⟨_, rfl⟩
  obtain ⟨j0, hj0, ij0⟩ := and_nat s0 7 (by decide)
  replace ij0 : p0.toInt = (j0 : Int) := by rw [← hp0]; exact ij0
  obtain ⟨p1, hp1⟩ : ∃ z : Int32, s1 &&& 7 = z := ⟨_, rfl⟩
  obtain ⟨j1, hj1, ij1⟩ := and_nat s1 7 (by decide)
  replace ij1 : p1.toInt = (j1 : Int) := by rw [← hp1]; exact ij1
  obtain ⟨ia0, hia0⟩ : ∃ z : Int32, XT.ushr s0 3 &&& 15 = z := ⟨_, rfl⟩
  obtain ⟨ja, hja, ija⟩ := and_nat (XT.ushr s0 3) 15 (by decide)
  replace ija : ia0.toInt = (ja : Int) := by rw [← hia0]; exact ija
  obtain ⟨ia1, hia1⟩ : ∃ z : Int32, XT.ushr s1 3 &&& 15 = z := ⟨_, rfl⟩
  obtain ⟨jb, hjb, ijb⟩ := and_nat (XT.ushr s1 3) 15 (by decide)
  replace ijb : ia1.toInt = (jb : Int) := by rw [← hia1]; exact ijb
  obtain ⟨jl, hjl, ijl⟩ := and_nat (XT.ushr s0 7) 31 (by decide)
  replace ijl : (XT.ushr s0 7 &&& 31).toInt = (jl : Int) := ijl
  have g68 : ∀ m0 il0 ib0 q1 : Int32, Pw m0.toInt → Pw q1.toInt → 0 ≤ il0.toInt → 0 ≤ ib0.toInt → il0.toInt + ib0.toInt = m0.toInt → Go l Z room_1 (x, code, maxLocals, ret) n0 Q1 h 0 0 68 #[.val (.int k), .val (.int s0), .val (.int s1), .val (.int p0), .val (.int m0), .val (.int ia0), .val (.int il0), .val (.int ib0), .val (.int p1), .unset, .unset, .unset, .unset, .unset, .unset, .unset, .unset, .unset, .unset, .unset, .unset, .unset, .unset, .unset, .unset, .unset, .unset] [(.int q1)] := by
    intro m0 il0 ib0 q1 P0 P1 u1 u2 u3
    have bm : 0 ≤ m0.toInt ∧ m0.toInt ≤ 16 := by rcases P0 with q | q; omega; exact ⟨by omega, q.2.1⟩
    have bq : 0 ≤ q1.toInt ∧ q1.toInt ≤ 16 := by rcases P1 with q | q; omega; exact ⟨by omega, q.2.1⟩
    obtain ⟨a0_, q_a0_, d_a0_⟩ := divQ (n := 4) (t := ia0.toInt) (dq_of_int (FP.Core.i2d_int ia0)) (dq_of_int d16) (by decide) (by omega) (by omega) (by decide)
    obtain ⟨l0, q_l0, d_l0⟩ := divQ (n := 4) (t := il0.toInt) (dq_of_int (FP.Core.i2d_int il0)) (dq_of_int d16) (by decide) (by omega) (by omega) (by decide)
    obtain ⟨b0, q_b0, d_b0⟩ := divQ (n := 4) (t := ib0.toInt) (dq_of_int (FP.Core.i2d_int ib0)) (dq_of_int d16) (by decide) (by omega) (by omega) (by decide)
    obtain ⟨b1, q_b1, d_b1⟩ := divQ (n := 4) (t := q1.toInt) (dq_of_int (FP.Core.i2d_int q1)) (dq_of_int d16) (by decide) (by omega) (by omega) (by decide)
    obtain ⟨a1, q_a1, d_a1⟩ := divQ (n := 4) (t := ia1.toInt) (dq_of_int (FP.Core.i2d_int ia1)) (dq_of_int d16) (by decide) (by omega) (by omega) (by decide)
    obtain ⟨kv, q_kv, d_kv⟩ := addI dint_zero (FP.Core.i2d_int k) (by omega) (by omega)
    obtain ⟨lv, q_lv, d_lv⟩ := addQ (dq_zero 4) d_l0 (by omega) (by decide)
    refine Go.istore 70 #[.val (.int k), .val (.int s0), .val (.int s1), .val (.int p0), .val (.int m0), .val (.int ia0), .val (.int il0), .val (.int ib0), .val (.int p1), .val (.int q1), .unset, .unset, .unset, .unset, .unset, .unset, .unset, .unset, .unset, .unset, .unset, .unset, .unset, .unset, .unset, .unset, .unset] at_68 rfl rfl ?_
    refine Go.iloadN 71 at_70 rfl rfl ?_
    refine Go.iconst 72 (3 : Int32) at_71 rfl (by decide) ?_
    refine Go.iushr 73 (XT.ushr s1 (3 : Int32)) at_72 rfl rfl ?_
    refine Go.bipush 75 (15 : Int32) at_73 rfl (by decide) ?_
    refine Go.iand 76 ia1 at_75 rfl hia1 ?_
    refine Go.istore 78 #[.val (.int k), .val (.int s0), .val (.int s1), .val (.int p0), .val (.int m0), .val (.int ia0), .val (.int il0), .val (.int ib0), .val (.int p1), .val (.int q1), .val (.int ia1), .unset, .unset, .unset, .unset, .unset, .unset, .unset, .unset, .unset, .unset, .unset, .unset, .unset, .unset, .unset, .unset] at_76 rfl rfl ?_
    refine Go.iload 80 at_78 rfl rfl ?_
    refine Go.i2d 81 (FP.i2d ia0) at_80 rfl rfl ?_
    refine Go.ldc2D 84 (4625196817309499392 : UInt64) (hw _ (List.mem_of_getElem? (i := 0) rfl)) at_81 rfl ?_
    refine Go.ddiv 85 a0_ at_84 rfl q_a0_.1 q_a0_.2 ?_
    refine Go.dstore 87 #[.val (.int k), .val (.int s0), .val (.int s1), .val (.int p0), .val (.int m0), .val (.int ia0), .val (.int il0), .val (.int ib0), .val (.int p1), .val (.int q1), .val (.int ia1), .val (.double a0_), .second, .unset, .unset, .unset, .unset, .unset, .unset, .unset, .unset, .unset, .unset, .unset, .unset, .unset, .unset] at_85 rfl rfl ?_
    refine Go.iload 89 at_87 rfl rfl ?_
    refine Go.i2d 90 (FP.i2d il0) at_89 rfl rfl ?_
    refine Go.ldc2D 93 (4625196817309499392 : UInt64) (hw _ (List.mem_of_getElem? (i := 0) rfl)) at_90 rfl ?_
    refine Go.ddiv 94 l0 at_93 rfl q_l0.1 q_l0.2 ?_
    refine Go.dstore 96 #[.val (.int k), .val (.int s0), .val (.int s1), .val (.int p0), .val (.int m0), .val (.int ia0), .val (.int il0), .val (.int ib0), .val (.int p1), .val (.int q1), .val (.int ia1), .val (.double a0_), .second, .val (.double l0), .second, .unset, .unset, .unset, .unset, .unset, .unset, .unset, .unset, .unset, .unset, .unset, .unset] at_94 rfl rfl ?_
    refine Go.iload 98 at_96 rfl rfl ?_
    refine Go.i2d 99 (FP.i2d ib0) at_98 rfl rfl ?_
    refine Go.ldc2D 102 (4625196817309499392 : UInt64) (hw _ (List.mem_of_getElem? (i := 0) rfl)) at_99 rfl ?_
    refine Go.ddiv 103 b0 at_102 rfl q_b0.1 q_b0.2 ?_
    refine Go.dstore 105 #[.val (.int k), .val (.int s0), .val (.int s1), .val (.int p0), .val (.int m0), .val (.int ia0), .val (.int il0), .val (.int ib0), .val (.int p1), .val (.int q1), .val (.int ia1), .val (.double a0_), .second, .val (.double l0), .second, .val (.double b0), .second, .unset, .unset, .unset, .unset, .unset, .unset, .unset, .unset, .unset, .unset] at_103 rfl rfl ?_
    refine Go.iload 107 at_105 rfl rfl ?_
    refine Go.i2d 108 (FP.i2d q1) at_107 rfl rfl ?_
    refine Go.ldc2D 111 (4625196817309499392 : UInt64) (hw _ (List.mem_of_getElem? (i := 0) rfl)) at_108 rfl ?_
    refine Go.ddiv 112 b1 at_111 rfl q_b1.1 q_b1.2 ?_
    refine Go.dstore 114 #[.val (.int k), .val (.int s0), .val (.int s1), .val (.int p0), .val (.int m0), .val (.int ia0), .val (.int il0), .val (.int ib0), .val (.int p1), .val (.int q1), .val (.int ia1), .val (.double a0_), .second, .val (.double l0), .second, .val (.double b0), .second, .val (.double b1), .second, .unset, .unset, .unset, .unset, .unset, .unset, .unset, .unset] at_112 rfl rfl ?_
    refine Go.iload 116 at_114 rfl rfl ?_
    refine Go.i2d 117 (FP.i2d ia1) at_116 rfl rfl ?_
    refine Go.ldc2D 120 (4625196817309499392 : UInt64) (hw _ (List.mem_of_getElem? (i := 0) rfl)) at_117 rfl ?_
    refine Go.ddiv 121 a1 at_120 rfl q_a1.1 q_a1.2 ?_
    refine Go.dstore 123 #[.val (.int k), .val (.int s0), .val (.int s1), .val (.int p0), .val (.int m0), .val (.int ia0), .val (.int il0), .val (.int ib0), .val (.int p1), .val (.int q1), .val (.int ia1), .val (.double a0_), .second, .val (.double l0), .second, .val (.double b0), .second, .val (.double b1), .second, .val (.double a1), .second, .unset, .unset, .unset, .unset, .unset, .unset] at_121 rfl rfl ?_
    refine Go.new 126 (hw _ (List.mem_of_getElem? (i := 1) rfl)) (hw _ (List.mem_of_getElem? (i := 2) rfl)) (hw _ (List.mem_of_getElem? (i := 3) rfl)) at_123 rfl (by decide) (by decide) ?_
    intro h1 o E1 g1 g2 no X1 D1
    have B1 : BN Z h1 o .null .null .null .null .null .null 0 0 0 0 := ⟨X1, D1 (Or.inl (hw _ (List.mem_of_getElem? (i := 12) rfl))) (ty := (.array .int)) (by decide), D1 (Or.inl (hw _ (List.mem_of_getElem? (i := 14) rfl))) (ty := (.array .int)) (by decide), D1 (Or.inl (hw _ (List.mem_of_getElem? (i := 17) rfl))) (ty := (.array .double)) (by decide), D1 (Or.inl (hw _ (List.mem_of_getElem? (i := 19) rfl))) (ty := (.array .int)) (by decide), D1 (Or.inl (hw _ (List.mem_of_getElem? (i := 21) rfl))) (ty := (.array .double)) (by decide), D1 (Or.inl (hw _ (List.mem_of_getElem? (i := 23) rfl))) (ty := (.array .double)) (by decide), D1 (Or.inl (hw _ (List.mem_of_getElem? (i := 30) rfl))) (ty := .int) (by decide), D1 (Or.inl (hw _ (List.mem_of_getElem? (i := 35) rfl))) (ty := .int) (by decide), D1 (Or.inl (hw _ (List.mem_of_getElem? (i := 45) rfl))) (ty := .int) (by decide), D1 (Or.inl (hw _ (List.mem_of_getElem? (i := 67) rfl))) (ty := .boolean) (by decide)⟩
    refine Go.dup 127 at_126 rfl rfl ?_
    refine Go.callN 130 [] [(.ref o)] rfl (hw _ (List.mem_of_getElem? (i := 4) rfl)) (hw _ (List.mem_of_getElem? (i := 5) rfl)) (hw _ (List.mem_of_getElem? (i := 6) rfl)) (hw _ (List.mem_of_getElem? (i := 3) rfl)) (by decide) pn_1 pd_10 rfl (ef_1_A o) (init_go l Z a0 hw B1 no) rfl rfl (by decide) (leB rfl) (by decide) (by decide) at_127 rfl ?_
    rintro _ h2 ⟨rfl, ra, ca, ka, la, fa, va, tI, tD, hTI, hTD, H2⟩
    refine Go.astore 132 #[.val (.int k), .val (.int s0), .val (.int s1), .val (.int p0), .val (.int m0), .val (.int ia0), .val (.int il0), .val (.int ib0), .val (.int p1), .val (.int q1), .val (.int ia1), .val (.double a0_), .second, .val (.double l0), .second, .val (.double b0), .second, .val (.double b1), .second, .val (.double a1), .second, .val (.ref o), .unset, .unset, .unset, .unset, .unset] at_130 rfl rfl rfl ?_
    refine Go.aload 134 at_132 rfl rfl rfl ?_
    refine Go.callV 137 [] [] (hw _ (List.mem_of_getElem? (i := 24) rfl)) (hw _ (List.mem_of_getElem? (i := 25) rfl)) (hw _ (List.mem_of_getElem? (i := 27) rfl)) (hw _ (List.mem_of_getElem? (i := 26) rfl)) (hw _ (List.mem_of_getElem? (i := 28) rfl)) (hw _ (List.mem_of_getElem? (i := 3) rfl)) (by decide) pn_1 pd_10 rfl H2.1.1 (ef_3_A o) (startRow_0 l Z a0 hw hTI hTD  H2) rfl rfl (by decide) (leB rfl) (by decide) (by decide) at_134 rfl ?_
    rintro _ h3 ⟨rfl, H3⟩
    refine Go.aload 139 at_137 rfl rfl rfl ?_
    refine Go.callV 142 [] [] (hw _ (List.mem_of_getElem? (i := 36) rfl)) (hw _ (List.mem_of_getElem? (i := 37) rfl)) (hw _ (List.mem_of_getElem? (i := 39) rfl)) (hw _ (List.mem_of_getElem? (i := 38) rfl)) (hw _ (List.mem_of_getElem? (i := 40) rfl)) (hw _ (List.mem_of_getElem? (i := 3) rfl)) (by decide) pn_1 pd_10 rfl H3.1.1 (ef_5_A o) (startChoice_1 l Z a0 hw hTI hTD  H3) rfl rfl (by decide) (leB rfl) (by decide) (by decide) at_139 rfl ?_
    rintro _ h4 ⟨rfl, H4⟩
    refine Go.aload 144 at_142 rfl rfl rfl ?_
    refine Go.iloadN 145 at_144 rfl rfl ?_
    refine Go.i2d 146 (FP.i2d k) at_145 rfl rfl ?_
    refine Go.callV 149 [(.double (FP.i2d k))] [] (hw _ (List.mem_of_getElem? (i := 46) rfl)) (hw _ (List.mem_of_getElem? (i := 47) rfl)) (hw _ (List.mem_of_getElem? (i := 49) rfl)) (hw _ (List.mem_of_getElem? (i := 48) rfl)) (hw _ (List.mem_of_getElem? (i := 50) rfl)) (hw _ (List.mem_of_getElem? (i := 3) rfl)) (by decide) pn_1 pd_21 rfl H4.1.1 (ef_7_AD o (FP.i2d k)) (addConstant_1 l Z a0 hw hTI hTD q_kv H4) rfl rfl (by decide) (leB rfl) (by decide) (by decide) at_146 rfl ?_
    rintro _ h5 ⟨rfl, H5⟩
    refine Go.aload 151 at_149 rfl rfl rfl ?_
    refine Go.dload 153 at_151 rfl rfl ?_
    refine Go.callV 156 [(.double l0)] [] (hw _ (List.mem_of_getElem? (i := 51) rfl)) (hw _ (List.mem_of_getElem? (i := 52) rfl)) (hw _ (List.mem_of_getElem? (i := 54) rfl)) (hw _ (List.mem_of_getElem? (i := 53) rfl)) (hw _ (List.mem_of_getElem? (i := 55) rfl)) (hw _ (List.mem_of_getElem? (i := 3) rfl)) (by decide) pn_1 pd_21 rfl H5.1.1 (ef_8_AD o l0) (addLeaving_1 l Z a0 hw hTI hTD q_lv H5) rfl rfl (by decide) (leB rfl) (by decide) (by decide) at_153 rfl ?_
    rintro _ h6 ⟨rfl, H6⟩
    refine Go.aload 158 at_156 rfl rfl rfl ?_
    refine Go.iconst 159 (0 : Int32) at_158 rfl (by decide) ?_
    refine Go.dload 161 at_159 rfl rfl ?_
    refine Go.callV 164 [(.int (0 : Int32)), (.double a0_)] [] (hw _ (List.mem_of_getElem? (i := 56) rfl)) (hw _ (List.mem_of_getElem? (i := 57) rfl)) (hw _ (List.mem_of_getElem? (i := 59) rfl)) (hw _ (List.mem_of_getElem? (i := 58) rfl)) (hw _ (List.mem_of_getElem? (i := 60) rfl)) (hw _ (List.mem_of_getElem? (i := 3) rfl)) (by decide) pn_1 pd_24 rfl H6.1.1 (ef_9_AID o (0 : Int32) a0_) (addTerm_0 l Z a0 hw hTI hTD  H6) rfl rfl (by decide) (leB rfl) (by decide) (by decide) at_161 rfl ?_
    rintro _ h7 ⟨rfl, H7⟩
    refine Go.aload 166 at_164 rfl rfl rfl ?_
    refine Go.iconst 167 (1 : Int32) at_166 rfl (by decide) ?_
    refine Go.dload 169 at_167 rfl rfl ?_
    refine Go.callV 172 [(.int (1 : Int32)), (.double b0)] [] (hw _ (List.mem_of_getElem? (i := 56) rfl)) (hw _ (List.mem_of_getElem? (i := 57) rfl)) (hw _ (List.mem_of_getElem? (i := 59) rfl)) (hw _ (List.mem_of_getElem? (i := 58) rfl)) (hw _ (List.mem_of_getElem? (i := 60) rfl)) (hw _ (List.mem_of_getElem? (i := 3) rfl)) (by decide) pn_1 pd_24 rfl H7.1.1 (ef_9_AID o (1 : Int32) b0) (addTerm_1 l Z a0 hw hTI hTD  H7) rfl rfl (by decide) (leB rfl) (by decide) (by decide) at_169 rfl ?_
    rintro _ h8 ⟨rfl, H8⟩
    refine Go.aload 174 at_172 rfl rfl rfl ?_
    refine Go.callV 177 [] [] (hw _ (List.mem_of_getElem? (i := 24) rfl)) (hw _ (List.mem_of_getElem? (i := 25) rfl)) (hw _ (List.mem_of_getElem? (i := 27) rfl)) (hw _ (List.mem_of_getElem? (i := 26) rfl)) (hw _ (List.mem_of_getElem? (i := 28) rfl)) (hw _ (List.mem_of_getElem? (i := 3) rfl)) (by decide) pn_1 pd_10 rfl H8.1.1 (ef_3_A o) (startRow_1 l Z a0 hw hTI hTD  H8) rfl rfl (by decide) (leB rfl) (by decide) (by decide) at_174 rfl ?_
    rintro _ h9 ⟨rfl, H9⟩
    refine Go.aload 179 at_177 rfl rfl rfl ?_
    refine Go.callV 182 [] [] (hw _ (List.mem_of_getElem? (i := 36) rfl)) (hw _ (List.mem_of_getElem? (i := 37) rfl)) (hw _ (List.mem_of_getElem? (i := 39) rfl)) (hw _ (List.mem_of_getElem? (i := 38) rfl)) (hw _ (List.mem_of_getElem? (i := 40) rfl)) (hw _ (List.mem_of_getElem? (i := 3) rfl)) (by decide) pn_1 pd_10 rfl H9.1.1 (ef_5_A o) (startChoice_2 l Z a0 hw hTI hTD  H9) rfl rfl (by decide) (leB rfl) (by decide) (by decide) at_179 rfl ?_
    rintro _ h10 ⟨rfl, H10⟩
    refine Go.aload 184 at_182 rfl rfl rfl ?_
    refine Go.iconst 185 (0 : Int32) at_184 rfl (by decide) ?_
    refine Go.dload 187 at_185 rfl rfl ?_
    refine Go.callV 190 [(.int (0 : Int32)), (.double b1)] [] (hw _ (List.mem_of_getElem? (i := 56) rfl)) (hw _ (List.mem_of_getElem? (i := 57) rfl)) (hw _ (List.mem_of_getElem? (i := 59) rfl)) (hw _ (List.mem_of_getElem? (i := 58) rfl)) (hw _ (List.mem_of_getElem? (i := 60) rfl)) (hw _ (List.mem_of_getElem? (i := 3) rfl)) (by decide) pn_1 pd_24 rfl H10.1.1 (ef_9_AID o (0 : Int32) b1) (addTerm_2 l Z a0 hw hTI hTD  H10) rfl rfl (by decide) (leB rfl) (by decide) (by decide) at_187 rfl ?_
    rintro _ h11 ⟨rfl, H11⟩
    refine Go.aload 192 at_190 rfl rfl rfl ?_
    refine Go.iconst 193 (1 : Int32) at_192 rfl (by decide) ?_
    refine Go.dload 195 at_193 rfl rfl ?_
    refine Go.callV 198 [(.int (1 : Int32)), (.double a1)] [] (hw _ (List.mem_of_getElem? (i := 56) rfl)) (hw _ (List.mem_of_getElem? (i := 57) rfl)) (hw _ (List.mem_of_getElem? (i := 59) rfl)) (hw _ (List.mem_of_getElem? (i := 58) rfl)) (hw _ (List.mem_of_getElem? (i := 60) rfl)) (hw _ (List.mem_of_getElem? (i := 3) rfl)) (by decide) pn_1 pd_24 rfl H11.1.1 (ef_9_AID o (1 : Int32) a1) (addTerm_3 l Z a0 hw hTI hTD  H11) rfl rfl (by decide) (leB rfl) (by decide) (by decide) at_195 rfl ?_
    rintro _ h12 ⟨rfl, H12⟩
    have dK := dint_cast d_kv (Int.zero_add _)
    have dV := dq_cast d_lv rfl (Int.zero_add _)
    by_cases F0 : 0 < ia0.toInt ∧ 0 < m0.toInt <;> by_cases F1 : 0 < ia1.toInt ∧ 0 < q1.toInt
    · exact tail_11 l Z a0 hw hTI hTD H12 dK d_a0_ d_b0 dV d_l0 d_b1 d_a1 (by omega) (by omega) (by omega) (by omega) (by omega) (by omega) u3 F0 F1 (by rcases P0 with q | q; omega; exact q.2.2) (by rcases P1 with q | q; omega; exact q.2.2)
    · exact tail_10 l Z a0 hw hTI hTD H12 dK d_a0_ d_b0 dV d_l0 d_b1 d_a1 (by omega) (by omega) (by omega) (by omega) (by omega) (by omega) u3 F0 F1 (by rcases P0 with q | q; omega; exact q.2.2)
    · exact tail_01 l Z a0 hw hTI hTD H12 dK d_a0_ d_b0 dV d_l0 d_b1 d_a1 (by omega) (by omega) (by omega) (by omega) (by omega) (by omega) u3 F0 F1 (by rcases P1 with q | q; omega; exact q.2.2)
    · exact tail_00 l Z a0 hw hTI hTD H12 dK d_a0_ d_b0 dV d_l0 d_b1 d_a1 (by omega) (by omega) (by omega) (by omega) (by omega) (by omega) u3 F0 F1
  have g17 : ∀ m0 : Int32, Pw m0.toInt → Go l Z room_1 (x, code, maxLocals, ret) n0 Q1 h 0 0 17 #[.val (.int k), .val (.int s0), .val (.int s1), .val (.int p0), .unset, .unset, .unset, .unset, .unset, .unset, .unset, .unset, .unset, .unset, .unset, .unset, .unset, .unset, .unset, .unset, .unset, .unset, .unset, .unset, .unset, .unset, .unset] [(.int m0)] := by
    intro m0 P0
    have bm : 0 ≤ m0.toInt ∧ m0.toInt ≤ 16 := by rcases P0 with q | q; omega; exact ⟨by omega, q.2.1⟩
    obtain ⟨m1, hm1⟩ : ∃ z : Int32, m0 + (1 : Int32) = z := ⟨_, rfl⟩
    have im1 : m1.toInt = ((m0.toInt + 1).toNat : Int) := by rw [← hm1]; exact toInt_add rfl (show (1 : Int32).toInt = 1 by decide) (by omega) (by omega) (by omega)
    have hm0 : m1 ≠ 0 := fun q => by rw [q] at im1; have : (0 : Int32).toInt = 0 := (by decide); omega
    obtain ⟨il0, hil0⟩ : ∃ z : Int32, (XT.ushr s0 7 &&& 31) % m1 = z := ⟨_, rfl⟩
    have iil : il0.toInt = ((jl % (m0.toInt + 1).toNat : Nat) : Int) := by rw [← hil0]; exact rem_nat ijl im1 (by omega)
    have hil : jl % (m0.toInt + 1).toNat < (m0.toInt + 1).toNat := Nat.mod_lt _ (by omega)
    obtain ⟨ib0, hib0⟩ : ∃ z : Int32, m0 - il0 = z := ⟨_, rfl⟩
    have iib : ib0.toInt = m0.toInt - il0.toInt := by rw [← hib0]; exact toInt_sub rfl rfl (by omega) (by omega) rfl
    refine Go.istore 19 #[.val (.int k), .val (.int s0), .val (.int s1), .val (.int p0), .val (.int m0), .unset, .unset, .unset, .unset, .unset, .unset, .unset, .unset, .unset, .unset, .unset, .unset, .unset, .unset, .unset, .unset, .unset, .unset, .unset, .unset, .unset, .unset] at_17 rfl rfl ?_
    refine Go.iloadN 20 at_19 rfl rfl ?_
    refine Go.iconst 21 (3 : Int32) at_20 rfl (by decide) ?_
    refine Go.iushr 22 (XT.ushr s0 (3 : Int32)) at_21 rfl rfl ?_
    refine Go.bipush 24 (15 : Int32) at_22 rfl (by decide) ?_
    refine Go.iand 25 ia0 at_24 rfl hia0 ?_
    refine Go.istore 27 #[.val (.int k), .val (.int s0), .val (.int s1), .val (.int p0), .val (.int m0), .val (.int ia0), .unset, .unset, .unset, .unset, .unset, .unset, .unset, .unset, .unset, .unset, .unset, .unset, .unset, .unset, .unset, .unset, .unset, .unset, .unset, .unset, .unset] at_25 rfl rfl ?_
    refine Go.iloadN 28 at_27 rfl rfl ?_
    refine Go.bipush 30 (7 : Int32) at_28 rfl (by decide) ?_
    refine Go.iushr 31 (XT.ushr s0 (7 : Int32)) at_30 rfl rfl ?_
    refine Go.bipush 33 (31 : Int32) at_31 rfl (by decide) ?_
    refine Go.iand 34 ((XT.ushr s0 (7 : Int32)) &&& (31 : Int32)) at_33 rfl rfl ?_
    refine Go.iload 36 at_34 rfl rfl ?_
    refine Go.iconst 37 (1 : Int32) at_36 rfl (by decide) ?_
    refine Go.iadd 38 m1 at_37 rfl hm1 ?_
    refine Go.irem 39 il0 at_38 rfl hm0 hil0 ?_
    refine Go.istore 41 #[.val (.int k), .val (.int s0), .val (.int s1), .val (.int p0), .val (.int m0), .val (.int ia0), .val (.int il0), .unset, .unset, .unset, .unset, .unset, .unset, .unset, .unset, .unset, .unset, .unset, .unset, .unset, .unset, .unset, .unset, .unset, .unset, .unset, .unset] at_39 rfl rfl ?_
    refine Go.iload 43 at_41 rfl rfl ?_
    refine Go.iload 45 at_43 rfl rfl ?_
    refine Go.isub 46 ib0 at_45 rfl hib0 ?_
    refine Go.istore 48 #[.val (.int k), .val (.int s0), .val (.int s1), .val (.int p0), .val (.int m0), .val (.int ia0), .val (.int il0), .val (.int ib0), .unset, .unset, .unset, .unset, .unset, .unset, .unset, .unset, .unset, .unset, .unset, .unset, .unset, .unset, .unset, .unset, .unset, .unset, .unset] at_46 rfl rfl ?_
    refine Go.iloadN 49 at_48 rfl rfl ?_
    refine Go.bipush 51 (7 : Int32) at_49 rfl (by decide) ?_
    refine Go.iand 52 p1 at_51 rfl hp1 ?_
    refine Go.istore 54 #[.val (.int k), .val (.int s0), .val (.int s1), .val (.int p0), .val (.int m0), .val (.int ia0), .val (.int il0), .val (.int ib0), .val (.int p1), .unset, .unset, .unset, .unset, .unset, .unset, .unset, .unset, .unset, .unset, .unset, .unset, .unset, .unset, .unset, .unset, .unset, .unset] at_52 rfl rfl ?_
    refine Go.iload 56 at_54 rfl rfl ?_
    refine Go.iconst 57 (5 : Int32) at_56 rfl (by decide) ?_
    refine Go.icmpB 64 60 at_57 (by decide) (by decide) rfl (fun (hc : (p1).toInt < (5 : Int)) => ?_) (fun (hc : (5 : Int) ≤ (p1).toInt) => ?_)
    · refine Go.iconst 65 (1 : Int32) at_64 rfl (by decide) ?_
      refine Go.iload 67 at_65 rfl rfl ?_
      refine Go.ishl 68 ((1 : Int32) <<< (p1 &&& 31)) at_67 rfl rfl ?_
      exact g68 m0 il0 ib0 _ P0 (shl_pw ij1 (by omega)) (by omega) (by omega) (by omega)
    · refine Go.iconst 61 (0 : Int32) at_60 rfl (by decide) ?_
      refine Go.goto 68 at_61 (by decide) (by decide) ?_
      exact g68 m0 il0 ib0 _ P0 (Or.inl (by decide)) (by omega) (by omega) (by omega)
  refine Go.iloadN 1 at_0 rfl rfl ?_
  refine Go.bipush 3 (7 : Int32) at_1 rfl (by decide) ?_
  refine Go.iand 4 p0 at_3 rfl hp0 ?_
  refine Go.istoreN 5 #[.val (.int k), .val (.int s0), .val (.int s1), .val (.int p0), .unset, .unset, .unset, .unset, .unset, .unset, .unset, .unset, .unset, .unset, .unset, .unset, .unset, .unset, .unset, .unset, .unset, .unset, .unset, .unset, .unset, .unset, .unset] at_4 rfl rfl ?_
  refine Go.iloadN 6 at_5 rfl rfl ?_
  refine Go.iconst 7 (5 : Int32) at_6 rfl (by decide) ?_
  refine Go.icmpB 14 10 at_7 (by decide) (by decide) rfl (fun (hc : (p0).toInt < (5 : Int)) => ?_) (fun (hc : (5 : Int) ≤ (p0).toInt) => ?_)
  · refine Go.iconst 15 (1 : Int32) at_14 rfl (by decide) ?_
    refine Go.iloadN 16 at_15 rfl rfl ?_
    refine Go.ishl 17 ((1 : Int32) <<< (p0 &&& 31)) at_16 rfl rfl ?_
    exact g17 _ (shl_pw ij0 (by omega))
  · refine Go.iconst 11 (0 : Int32) at_10 rfl (by decide) ?_
    refine Go.goto 17 at_11 (by decide) (by decide) ?_
    exact g17 _ (Or.inl (by decide))
set_option maxRecDepth 65536 in
set_option maxHeartbeats 40000000 in
theorem comes_1 {Post : Tables → Env → Array Value → State → Outcome → State → Prop} (hpost : ∀ tb e args s v u, (limb_1_1.after args s (.returned v) u = true ∧ limb_1_2.after args s (.returned v) u = true ∧ True) → FrameEnd s (.returned v) u (Jvm.fieldLocs frame_1_writes args s ++ Jvm.arrayLocs frame_1_arrays args s ++ Jvm.staticLocs frame_1_statics s) 24 12416 → Post tb e args s (.returned v) u) :
    ArmFor flags0 classFile x code maxLocals ret World_1 tables_1 room_1 Calls_1 rest_1 Pre_1 Post := by
  intro l hfl _ _ p e ha hc hk s m args below hf hA hF happ hP
  obtain ⟨hcalls, hrest, hpre⟩ := hP
  obtain ⟨-, -, -, hnamed, -, -, -, hat⟩ := (Spec.applies_iff hf).mp happ
  obtain ⟨hg, hn⟩ := and_e (Cond.before_iff.mp (show (Jvm.Cond.and given_1 narrow_1).before args s = true from hpre))
  obtain ⟨h1, g0⟩ := and_e hg
  obtain ⟨k0, g1⟩ := and_e g0
  obtain ⟨k1, g2⟩ := and_e g1
  obtain ⟨w0, w1, w2, rfl⟩ : ∃ w0 w1 w2 : Value, args = #[w0, w1, w2] := by
    have hs : args.size = 3 := by simpa [Cond.value, given_1] using h1
    obtain ⟨L⟩ := args
    match L, hs with
    | [w0, w1, w2], _ => exact ⟨w0, w1, w2, rfl⟩
  have hw := fun d (hd : d ∈ tables_1) => atoms_spec (ws := Jvm.Cond.code x code maxLocals ret :: tables_1) hat d (List.mem_cons_of_mem _ hd)
  obtain ⟨i0, e0⟩ := is_v k0
  obtain rfl : w0 = (.int i0) := Option.some.inj e0
  obtain ⟨i1, e1⟩ := is_v k1
  obtain rfl : w1 = (.int i1) := Option.some.inj e1
  obtain ⟨i2, e2⟩ := is_v g2
  obtain rfl : w2 = (.int i2) := Option.some.inj e2
  obtain ⟨n, o, h1, h2, h3, _, L, rfl, ⟨rfl, -, N⟩, hq⟩ := (law_go l s _ hw i0 i1 i2 (h := s.heap) (n0 := s.heap.size)).met (ws := tables_1) (Q := Q1) law_pn (Nat.le_refl s.heap.size) (ef_0_III i0 i1 i2) p e ha hc hk s m _ below hf ((Spec.applies_iff_loose hf).mp happ).1 ⟨rfl, State.WarmedH.refl s, rfl⟩ trivial
  refine ⟨n, _, h1, h2, h3, hpost _ _ _ _ _ _ ⟨Cond.after_iff.mpr rfl, Cond.after_iff.mpr (eq_i res_at (Term.int_eval (1)) rfl), trivial⟩ ⟨hq.1, hq.2.1, (hq.2.2.sift fun y hy => Or.inr (N y hy)).mono (by decide) (by decide)⟩⟩
theorem main_1_1 : Claimed_1_1 := comes_1 fun _ _ _ _ _ _ h hF => ⟨h.1, hF⟩
theorem main_1_2 : Claimed_1_2 := comes_1 fun _ _ _ _ _ _ h hF => ⟨h.2.1, hF⟩
end Jvm.Pilot.@@N@@
namespace Jvm.Pilot.@@N@@
open Jvm Jvm.ClassFile Sem Op Lib Jvm.Free Jvm.Stand Jvm.Pilot.@@N@@.Jvm.D
/-! MADE BY PROGRAM (witnessworld.py) out of the Statement's table words and the real class files: 11 classes; the members and pool entries that the words name. The judged class is class 1, her method 1. -/
namespace start1
open Jvm.ClassFile
def u (s : String) : CpInfo := .utf8 (stringToUtf16 s)
/-- a pool by its gaps: so many unusable entries, then the entry; so many at the end -/
def gap : Nat → List CpInfo → List CpInfo
  | 0, r => r
  | n + 1, r => .unusable :: gap n r
def poolList (es : List (Nat × CpInfo)) (last : Nat) : List CpInfo := es.foldr (fun e r => gap e.1 (e.2 :: r)) (gap last [])
def pool (es : List (Nat × CpInfo)) (last : Nat) : Array CpInfo := ⟨poolList es last⟩
def fileOf (pool : Array CpInfo) (this : Nat) (attrs : Array Attribute := #[]) (ms : Array MethodInfo := #[]) (fl : Nat := 33) (sup : Nat := 0) (ifs : Array Nat := #[]) (fds : Array FieldInfo := #[]) : ClassFile where
  minorVersion := 0
  majorVersion := 65
  constantPool := pool
  accessFlags := fl
  thisClass := this
  superClass := sup
  interfaces := ifs
  fields := fds
  methods := ms
  attributes := attrs
def plain (name : String) (sup : Option ClassId) : Class where
  name := name
  kind := .ordinary
  loader := none
  accessFlags := 33
  super := sup
  interfaces := #[]
  cf := none
  fields := #[]
  methods := #[]
  instanceTypes := #[]
  staticTypes := #[]
  resolved := #[]
  callSites := []
  init := .initialized
  statics := none
  mirror := none

def pool0 : Array CpInfo := pool [(5, u "<init>"), (0, u "()V"), (1, .class_ 10), (1, u "java/lang/Object")] 113

def k0c0 : Code := { maxStack := 0, maxLocals := 1, code := object_method_1_code, exceptionTable := #[], attributes := #[] }
def k0m0 : Method := { name := "<init>", desc := "()V", sig := { parameters := [], returnType := none }, accessFlags := 1, code := some k0c0 }
/-- java/lang/Object -/
def k0 : Class := { plain "java/lang/Object" none with
  accessFlags := 33
  interfaces := #[]
  cf := some (fileOf pool0 8 #[] #[{ accessFlags := 1, nameIndex := 5, descriptorIndex := 6, attributes := #[] }] 33 0 #[] #[])
  fields := #[]
  methods := #[k0m0]
  instanceTypes := #[]
  staticTypes := #[]
  resolved := Array.replicate 124 none
  statics := none }

def pool1 : Array CpInfo := pool [(2, .class_ 4), (0, .nameAndType 5 6), (0, u "java/lang/Object"), (0, u "<init>"), (0, u "()V"), (0, .double 4625196817309499392), (1, .class_ 10), (0, u "com/example/orbifold/orbifold/solvers/BellmanSystem"), (0, .methodref 9 3), (0, .methodref 9 13), (0, .nameAndType 14 6), (0, u "startRow"), (0, .methodref 9 16), (0, .nameAndType 17 6), (0, u "startChoice"), (0, .methodref 9 19), (0, .nameAndType 20 21), (0, u "addConstant"), (0, u "(D)V"), (0, .methodref 9 23), (0, .nameAndType 24 21), (0, u "addLeaving"), (0, .methodref 9 26), (0, .nameAndType 27 28), (0, u "addTerm"), (0, u "(ID)V"), (0, .methodref 9 30), (0, .nameAndType 31 6), (0, u "foldReturns"), (0, .methodref 9 33), (0, .nameAndType 34 35), (0, u "endTerm"), (0, u "(I)I"), (0, .methodref 9 37), (0, .nameAndType 38 39), (0, u "constant"), (0, u "(I)D"), (0, .methodref 9 41), (0, .nameAndType 42 39), (0, u "leaving"), (0, .methodref 44 45), (0, .class_ 46), (0, .nameAndType 47 48), (0, u "com/example/orbifold/orbifold/solvers/BellmanSystemFoldReturnsPinLaw"), (0, u "term"), (0, u "(Lcom/example/orbifold/orbifold/solvers/BellmanSystem;IID)Z"), (0, .methodref 9 50), (0, .nameAndType 51 35), (0, u "column"), (0, .methodref 9 53), (0, .nameAndType 54 39), (0, u "coefficient"), (2, u "law"), (0, u "(III)Z")] 3

def k1m0 : Method := { name := "<init>", desc := "()V", sig := { parameters := [], returnType := none }, accessFlags := 1, code := none }
def k1c1 : Code := { maxStack := 7, maxLocals := 27, code := code, exceptionTable := #[], attributes := #[] }
def k1m1 : Method := { name := "law", desc := "(III)Z", sig := { parameters := [.int, .int, .int], returnType := some .boolean }, accessFlags := 9, code := some k1c1 }
def k1c2 : Code := { maxStack := 4, maxLocals := 5, code := method_3_code, exceptionTable := #[], attributes := #[] }
def k1m2 : Method := { name := "term", desc := "(Lcom/example/orbifold/orbifold/solvers/BellmanSystem;IID)Z", sig := { parameters := [(.object "com/example/orbifold/orbifold/solvers/BellmanSystem"), .int, .int, .double], returnType := some .boolean }, accessFlags := 10, code := some k1c2 }
/-- com/example/orbifold/orbifold/solvers/BellmanSystemFoldReturnsPinLaw -/
def k1 : Class := { plain "com/example/orbifold/orbifold/solvers/BellmanSystemFoldReturnsPinLaw" (some 0) with
  accessFlags := 49
  interfaces := #[]
  cf := some (fileOf pool1 44 #[] #[{ accessFlags := 1, nameIndex := 5, descriptorIndex := 6, attributes := #[] }, { accessFlags := 9, nameIndex := 57, descriptorIndex := 58, attributes := #[] }, { accessFlags := 10, nameIndex := 47, descriptorIndex := 48, attributes := #[] }] 49 2 #[] #[])
  fields := #[]
  methods := #[k1m0, k1m1, k1m2]
  instanceTypes := #[]
  staticTypes := #[]
  resolved := Array.replicate 62 none
  statics := none }

def pool2 : Array CpInfo := pool [(1, .methodref 2 3), (0, .class_ 4), (0, .nameAndType 5 6), (0, u "java/lang/Object"), (0, u "<init>"), (0, u "()V"), (0, .fieldref 8 9), (0, .class_ 10), (0, .nameAndType 11 12), (0, u "com/example/orbifold/orbifold/solvers/BellmanSystem"), (0, u "rowStart"), (0, u "[I"), (0, .fieldref 8 14), (0, .nameAndType 15 12), (0, u "choiceStart"), (0, .fieldref 8 17), (0, .nameAndType 18 19), (0, u "constants"), (0, u "[D"), (0, .fieldref 8 21), (0, .nameAndType 22 12), (0, u "columns"), (0, .fieldref 8 24), (0, .nameAndType 25 19), (0, u "coefficients"), (0, .fieldref 8 27), (0, .nameAndType 28 19), (0, u "leaving"), (0, .fieldref 8 30), (0, .nameAndType 31 32), (0, u "rows"), (0, u "I"), (0, .methodref 8 34), (0, .nameAndType 35 36), (0, u "ensure"), (0, u "([II)[I"), (0, .fieldref 8 38), (0, .nameAndType 39 32), (0, u "choices"), (0, .methodref 8 41), (0, .nameAndType 35 42), (0, u "([DI)[D"), (0, .fieldref 8 44), (0, .nameAndType 45 32), (0, u "terms"), (5, u "foldReturns"), (81, u "(I)I"), (42, u "endTerm"), (2, u "column"), (19, .fieldref 8 200), (0, .nameAndType 201 202), (0, u "folded"), (0, u "Z"), (9, .class_ 213), (0, u "com/example/orbifold/orbifold/solvers/BellmanSystem$OutOfRange"), (14, u "startRow"), (0, u "startChoice"), (0, u "addConstant"), (0, u "(D)V"), (0, u "addLeaving"), (0, u "addTerm"), (0, u "(ID)V"), (7, u "constant"), (0, u "(I)D"), (0, u "coefficient")] 29

def k2c0 : Code := { maxStack := 2, maxLocals := 1, code := prog_167_method_1_code, exceptionTable := #[], attributes := #[] }
def k2m0 : Method := { name := "<init>", desc := "()V", sig := { parameters := [], returnType := none }, accessFlags := 0, code := some k2c0 }
def k2c1 : Code := { maxStack := 4, maxLocals := 1, code := prog_167_method_2_code, exceptionTable := #[], attributes := #[] }
def k2m1 : Method := { name := "startRow", desc := "()V", sig := { parameters := [], returnType := none }, accessFlags := 0, code := some k2c1 }
def k2c2 : Code := { maxStack := 4, maxLocals := 1, code := prog_167_method_3_code, exceptionTable := #[], attributes := #[] }
def k2m2 : Method := { name := "startChoice", desc := "()V", sig := { parameters := [], returnType := none }, accessFlags := 0, code := some k2c2 }
def k2c3 : Code := { maxStack := 6, maxLocals := 3, code := prog_167_method_4_code, exceptionTable := #[], attributes := #[] }
def k2m3 : Method := { name := "addConstant", desc := "(D)V", sig := { parameters := [.double], returnType := none }, accessFlags := 0, code := some k2c3 }
def k2c4 : Code := { maxStack := 6, maxLocals := 3, code := prog_167_method_5_code, exceptionTable := #[], attributes := #[] }
def k2m4 : Method := { name := "addLeaving", desc := "(D)V", sig := { parameters := [.double], returnType := none }, accessFlags := 0, code := some k2c4 }
def k2c5 : Code := { maxStack := 4, maxLocals := 4, code := prog_167_method_6_code, exceptionTable := #[], attributes := #[] }
def k2m5 : Method := { name := "addTerm", desc := "(ID)V", sig := { parameters := [.int, .double], returnType := none }, accessFlags := 0, code := some k2c5 }
def k2c6 : Code := { maxStack := 3, maxLocals := 2, code := prog_167_method_15_code, exceptionTable := #[], attributes := #[] }
def k2m6 : Method := { name := "endTerm", desc := "(I)I", sig := { parameters := [.int], returnType := some .int }, accessFlags := 0, code := some k2c6 }
def k2c7 : Code := { maxStack := 2, maxLocals := 2, code := prog_167_method_16_code, exceptionTable := #[], attributes := #[] }
def k2m7 : Method := { name := "constant", desc := "(I)D", sig := { parameters := [.int], returnType := some .double }, accessFlags := 0, code := some k2c7 }
def k2c8 : Code := { maxStack := 2, maxLocals := 2, code := prog_167_method_17_code, exceptionTable := #[], attributes := #[] }
def k2m8 : Method := { name := "leaving", desc := "(I)D", sig := { parameters := [.int], returnType := some .double }, accessFlags := 0, code := some k2c8 }
def k2c9 : Code := { maxStack := 2, maxLocals := 2, code := prog_167_method_18_code, exceptionTable := #[], attributes := #[] }
def k2m9 : Method := { name := "column", desc := "(I)I", sig := { parameters := [.int], returnType := some .int }, accessFlags := 0, code := some k2c9 }
def k2c10 : Code := { maxStack := 2, maxLocals := 2, code := prog_167_method_19_code, exceptionTable := #[], attributes := #[] }
def k2m10 : Method := { name := "coefficient", desc := "(I)D", sig := { parameters := [.int], returnType := some .double }, accessFlags := 0, code := some k2c10 }
def k2c11 : Code := { maxStack := 6, maxLocals := 13, code := prog_167_method_28_code, exceptionTable := #[], attributes := #[] }
def k2m11 : Method := { name := "foldReturns", desc := "()V", sig := { parameters := [], returnType := none }, accessFlags := 0, code := some k2c11 }
def k2c12 : Code := { maxStack := 4, maxLocals := 2, code := prog_167_method_33_code, exceptionTable := #[], attributes := #[] }
def k2m12 : Method := { name := "ensure", desc := "([II)[I", sig := { parameters := [(.array .int), .int], returnType := some (.array .int) }, accessFlags := 10, code := some k2c12 }
def k2c13 : Code := { maxStack := 4, maxLocals := 2, code := prog_167_method_34_code, exceptionTable := #[], attributes := #[] }
def k2m13 : Method := { name := "ensure", desc := "([DI)[D", sig := { parameters := [(.array .double), .int], returnType := some (.array .double) }, accessFlags := 10, code := some k2c13 }
/-- com/example/orbifold/orbifold/solvers/BellmanSystem -/
def k2 : Class := { plain "com/example/orbifold/orbifold/solvers/BellmanSystem" (some 0) with
  accessFlags := 48
  interfaces := #[]
  cf := some (fileOf pool2 8 #[.nestMembers #[212]] #[{ accessFlags := 0, nameIndex := 5, descriptorIndex := 6, attributes := #[] }, { accessFlags := 0, nameIndex := 228, descriptorIndex := 6, attributes := #[] }, { accessFlags := 0, nameIndex := 229, descriptorIndex := 6, attributes := #[] }, { accessFlags := 0, nameIndex := 230, descriptorIndex := 231, attributes := #[] }, { accessFlags := 0, nameIndex := 232, descriptorIndex := 231, attributes := #[] }, { accessFlags := 0, nameIndex := 233, descriptorIndex := 234, attributes := #[] }, { accessFlags := 0, nameIndex := 176, descriptorIndex := 133, attributes := #[] }, { accessFlags := 0, nameIndex := 242, descriptorIndex := 243, attributes := #[] }, { accessFlags := 0, nameIndex := 28, descriptorIndex := 243, attributes := #[] }, { accessFlags := 0, nameIndex := 179, descriptorIndex := 133, attributes := #[] }, { accessFlags := 0, nameIndex := 244, descriptorIndex := 243, attributes := #[] }, { accessFlags := 0, nameIndex := 51, descriptorIndex := 6, attributes := #[] }, { accessFlags := 10, nameIndex := 35, descriptorIndex := 36, attributes := #[] }, { accessFlags := 10, nameIndex := 35, descriptorIndex := 42, attributes := #[] }] 48 2 #[] #[{ accessFlags := 2, nameIndex := 11, descriptorIndex := 12, attributes := #[] }, { accessFlags := 2, nameIndex := 15, descriptorIndex := 12, attributes := #[] }, { accessFlags := 2, nameIndex := 18, descriptorIndex := 19, attributes := #[] }, { accessFlags := 2, nameIndex := 22, descriptorIndex := 12, attributes := #[] }, { accessFlags := 2, nameIndex := 25, descriptorIndex := 19, attributes := #[] }, { accessFlags := 2, nameIndex := 28, descriptorIndex := 19, attributes := #[] }, { accessFlags := 2, nameIndex := 31, descriptorIndex := 32, attributes := #[] }, { accessFlags := 2, nameIndex := 39, descriptorIndex := 32, attributes := #[] }, { accessFlags := 2, nameIndex := 45, descriptorIndex := 32, attributes := #[] }, { accessFlags := 2, nameIndex := 201, descriptorIndex := 202, attributes := #[] }])
  fields := #[{ name := "rowStart", type := (.array .int), accessFlags := 2, slot := 0, constantValue := 0 }, { name := "choiceStart", type := (.array .int), accessFlags := 2, slot := 1, constantValue := 0 }, { name := "constants", type := (.array .double), accessFlags := 2, slot := 2, constantValue := 0 }, { name := "columns", type := (.array .int), accessFlags := 2, slot := 3, constantValue := 0 }, { name := "coefficients", type := (.array .double), accessFlags := 2, slot := 4, constantValue := 0 }, { name := "leaving", type := (.array .double), accessFlags := 2, slot := 5, constantValue := 0 }, { name := "rows", type := .int, accessFlags := 2, slot := 6, constantValue := 0 }, { name := "choices", type := .int, accessFlags := 2, slot := 7, constantValue := 0 }, { name := "terms", type := .int, accessFlags := 2, slot := 8, constantValue := 0 }, { name := "folded", type := .boolean, accessFlags := 2, slot := 9, constantValue := 0 }]
  methods := #[k2m0, k2m1, k2m2, k2m3, k2m4, k2m5, k2m6, k2m7, k2m8, k2m9, k2m10, k2m11, k2m12, k2m13]
  instanceTypes := #[(.array .int), (.array .int), (.array .double), (.array .int), (.array .double), (.array .double), .int, .int, .int, .boolean]
  staticTypes := #[]
  resolved := Array.replicate 274 none
  statics := none }

def pool3 : Array CpInfo := pool [(1, u "java/lang/Cloneable"), (0, .class_ 1), (0, u "java/lang/Object"), (0, .class_ 3)] 3

/-- java/lang/Cloneable -/
def k3 : Class := { plain "java/lang/Cloneable" (some 0) with
  accessFlags := 1537
  interfaces := #[]
  cf := some (fileOf pool3 2 #[] #[] 1537 4 #[] #[])
  fields := #[]
  methods := #[]
  instanceTypes := #[]
  staticTypes := #[]
  resolved := Array.replicate 8 none
  statics := none }

def pool4 : Array CpInfo := pool [(1, u "java/io/Serializable"), (0, .class_ 1), (0, u "java/lang/Object"), (0, .class_ 3)] 3

/-- java/io/Serializable -/
def k4 : Class := { plain "java/io/Serializable" (some 0) with
  accessFlags := 1537
  interfaces := #[]
  cf := some (fileOf pool4 2 #[] #[] 1537 4 #[] #[])
  fields := #[]
  methods := #[]
  instanceTypes := #[]
  staticTypes := #[]
  resolved := Array.replicate 8 none
  statics := none }

/-- the primitive byte -/
def k5 : Class := { plain "byte" none with kind := .primitive 'B', accessFlags := 0x411 }
/-- [B -/
def k6 : Class := { plain "[B" (some 0) with kind := .array 5 .byte, interfaces := #[3, 4], accessFlags := 1041 }

/-- the primitive double -/
def k7 : Class := { plain "double" none with kind := .primitive 'D', accessFlags := 0x411 }
/-- [D -/
def k8 : Class := { plain "[D" (some 0) with kind := .array 7 .double, interfaces := #[3, 4], accessFlags := 1041 }

/-- the primitive int -/
def k9 : Class := { plain "int" none with kind := .primitive 'I', accessFlags := 0x411 }
/-- [I -/
def k10 : Class := { plain "[I" (some 0) with kind := .array 9 .int, interfaces := #[3, 4], accessFlags := 1041 }

def heap : Heap := #[]
def classes : Array Class := #[k0, k1, k2, k3, k4, k5, k6, k7, k8, k9, k10]
def interned : List (Array UInt16 × Addr) := []
def slotsUsed : Nat := 0
def theMethod : MethodId := ⟨1, 1⟩
def args0 : Array Value := #[.int 7, .int 3, .int 4]
def aboutOver (below : List Frame) : State where
  vm := { classes := classes, interned := interned.toArray }
  heap := heap
  slotsUsed := slotsUsed
  threads := #[{ frames := .invoking theMethod args0 :: below }]
def below0 : List Frame := [.native { method := ⟨0, 0⟩, args := #[] }]
def about1 : State := aboutOver below0
def p0 : Program := .bare "" "" ""
def e0 : Env := launch0.env 0 0 0
theorem w_frames : about1.frames = Frame.invoking theMethod args0 :: below0 := rfl
set_option maxRecDepth 65536 in
theorem w_args : argsFit about1.vm theMethod args0 = true := by decide +kernel
set_option maxRecDepth 65536 in
theorem w_heap : heapFits about1 = true := by decide +kernel
set_option maxRecDepth 65536 in
theorem w_runnable : about1.curStatus? = some .runnable := by decide +kernel
set_option maxRecDepth 65536 in
theorem w_alone : about1.alone = true := by decide +kernel
set_option maxRecDepth 65536 in
theorem w_named : about1.methodNamed? x = some theMethod := by decide +kernel
set_option maxRecDepth 65536 in
theorem w_hears : about1.hears theMethod below0 = true := by decide +kernel
set_option maxRecDepth 65536 in
theorem w_ripe : about1.ripe theMethod args0 below0 = true := by decide +kernel
theorem w_running : about1.status = .running := rfl
set_option maxRecDepth 65536 in
theorem w_room : about1.hasRoom e0.platform room_1 = true :=
  launch0.hasRoom_least _ room_1 (by decide +kernel) (by decide +kernel) (by decide +kernel) (by decide +kernel) (by decide +kernel) (by decide +kernel)
theorem allAtoms_all (ts : List Jvm.Cond) (a : Array Jvm.Value) (st : Jvm.State) : (allAtoms ts).before a st = ts.all (fun c => c.before a st) := by
  induction ts with
  | nil => rfl
  | cons c t ih =>
    show (Jvm.Cond.and c (allAtoms t)).before a st = _
    rw [Jvm.Cond.before_and, ih, List.all_cons]
def words1 : List Jvm.Cond := Jvm.Cond.code x code maxLocals ret :: tables_1
/-- a 'code' word, met by the world's own term for the bytes: nothing is compared byte by byte -/
theorem code_word {y : MethodName} {bytes : ByteArray} {mx : Nat} {rt : Option FieldType} {a : Array Value} {s : State} {m : MethodId} {meth : Method} {c : Code} (h1 : s.methodNamed? y = some m) (h2 : s.vm.method? m = some meth) (h3 : meth.code = some c) (h4 : c.code = bytes)
    (h5 : (c.maxLocals == mx && c.exceptionTable.isEmpty && decide (c.maxStack ≤ mostOperands) && decide (meth.sig.returnType = rt) && !meth.locks && decide (parseMethodDescriptor y.desc = some meth.sig)) = true) : (Jvm.Cond.code y bytes mx rt).before a s = true := by
  simp only [Bool.and_eq_true, beq_iff_eq, Bool.not_eq_true', decide_eq_true_eq] at h5
  obtain ⟨⟨⟨⟨⟨g1, g2⟩, g3⟩, g4⟩, g5⟩, g6⟩ := h5
  simp [Cond.before, Cond.holds, Cond.value, h1, h2, h3, h4, g1, g2, g3, g4, g5, g6]
def isCode : Jvm.Cond → Bool
  | .code _ _ _ _ => true
  | _ => false
theorem all_split {L : List Jvm.Cond} {P : Jvm.Cond → Bool} (h1 : L.all (fun c => isCode c || P c) = true) (h2 : ∀ c ∈ L.filter isCode, P c = true) : L.all P = true := by
  refine List.all_eq_true.mpr fun c hc => ?_
  have h := List.all_eq_true.mp h1 c hc
  rcases Bool.eq_false_or_eq_true (isCode c) with hi | hi
  · exact h2 c (List.mem_filter.mpr ⟨hc, hi⟩)
  · simpa [hi] using h
set_option maxRecDepth 65536 in
theorem w_c0 : (Jvm.Cond.code x code maxLocals ret).before args0 about1 = true := code_word (m := ⟨1, 1⟩) (meth := k1m1) (c := k1c1) (by decide +kernel) rfl rfl rfl (by decide +kernel)
set_option maxRecDepth 65536 in
theorem w_c1 : (Jvm.Cond.code ({ cls := "com/example/orbifold/orbifold/solvers/BellmanSystem", name := "<init>", desc := "()V" } : Jvm.MethodName) prog_167_method_1_code (1 : Nat) (Option.none : Option Jvm.ClassFile.FieldType)).before args0 about1 = true := code_word (m := ⟨2, 0⟩) (meth := k2m0) (c := k2c0) (by decide +kernel) rfl rfl rfl (by decide +kernel)
set_option maxRecDepth 65536 in
theorem w_c2 : (Jvm.Cond.code ({ cls := "java/lang/Object", name := "<init>", desc := "()V" } : Jvm.MethodName) object_method_1_code (1 : Nat) (Option.none : Option Jvm.ClassFile.FieldType)).before args0 about1 = true := code_word (m := ⟨0, 0⟩) (meth := k0m0) (c := k0c0) (by decide +kernel) rfl rfl rfl (by decide +kernel)
set_option maxRecDepth 65536 in
theorem w_c3 : (Jvm.Cond.code ({ cls := "com/example/orbifold/orbifold/solvers/BellmanSystem", name := "startRow", desc := "()V" } : Jvm.MethodName) prog_167_method_2_code (1 : Nat) (Option.none : Option Jvm.ClassFile.FieldType)).before args0 about1 = true := code_word (m := ⟨2, 1⟩) (meth := k2m1) (c := k2c1) (by decide +kernel) rfl rfl rfl (by decide +kernel)
set_option maxRecDepth 65536 in
theorem w_c4 : (Jvm.Cond.code ({ cls := "com/example/orbifold/orbifold/solvers/BellmanSystem", name := "ensure", desc := "([II)[I" } : Jvm.MethodName) prog_167_method_33_code (2 : Nat) (Option.some (Jvm.ClassFile.FieldType.array Jvm.ClassFile.FieldType.int))).before args0 about1 = true := code_word (m := ⟨2, 12⟩) (meth := k2m12) (c := k2c12) (by decide +kernel) rfl rfl rfl (by decide +kernel)
set_option maxRecDepth 65536 in
theorem w_c5 : (Jvm.Cond.code ({ cls := "com/example/orbifold/orbifold/solvers/BellmanSystem", name := "startChoice", desc := "()V" } : Jvm.MethodName) prog_167_method_3_code (1 : Nat) (Option.none : Option Jvm.ClassFile.FieldType)).before args0 about1 = true := code_word (m := ⟨2, 2⟩) (meth := k2m2) (c := k2c2) (by decide +kernel) rfl rfl rfl (by decide +kernel)
set_option maxRecDepth 65536 in
theorem w_c6 : (Jvm.Cond.code ({ cls := "com/example/orbifold/orbifold/solvers/BellmanSystem", name := "ensure", desc := "([DI)[D" } : Jvm.MethodName) prog_167_method_34_code (2 : Nat) (Option.some (Jvm.ClassFile.FieldType.array Jvm.ClassFile.FieldType.double))).before args0 about1 = true := code_word (m := ⟨2, 13⟩) (meth := k2m13) (c := k2c13) (by decide +kernel) rfl rfl rfl (by decide +kernel)
set_option maxRecDepth 65536 in
theorem w_c7 : (Jvm.Cond.code ({ cls := "com/example/orbifold/orbifold/solvers/BellmanSystem", name := "addConstant", desc := "(D)V" } : Jvm.MethodName) prog_167_method_4_code (3 : Nat) (Option.none : Option Jvm.ClassFile.FieldType)).before args0 about1 = true := code_word (m := ⟨2, 3⟩) (meth := k2m3) (c := k2c3) (by decide +kernel) rfl rfl rfl (by decide +kernel)
set_option maxRecDepth 65536 in
theorem w_c8 : (Jvm.Cond.code ({ cls := "com/example/orbifold/orbifold/solvers/BellmanSystem", name := "addLeaving", desc := "(D)V" } : Jvm.MethodName) prog_167_method_5_code (3 : Nat) (Option.none : Option Jvm.ClassFile.FieldType)).before args0 about1 = true := code_word (m := ⟨2, 4⟩) (meth := k2m4) (c := k2c4) (by decide +kernel) rfl rfl rfl (by decide +kernel)
set_option maxRecDepth 65536 in
theorem w_c9 : (Jvm.Cond.code ({ cls := "com/example/orbifold/orbifold/solvers/BellmanSystem", name := "addTerm", desc := "(ID)V" } : Jvm.MethodName) prog_167_method_6_code (4 : Nat) (Option.none : Option Jvm.ClassFile.FieldType)).before args0 about1 = true := code_word (m := ⟨2, 5⟩) (meth := k2m5) (c := k2c5) (by decide +kernel) rfl rfl rfl (by decide +kernel)
set_option maxRecDepth 65536 in
theorem w_c10 : (Jvm.Cond.code ({ cls := "com/example/orbifold/orbifold/solvers/BellmanSystem", name := "foldReturns", desc := "()V" } : Jvm.MethodName) prog_167_method_28_code (13 : Nat) (Option.none : Option Jvm.ClassFile.FieldType)).before args0 about1 = true := code_word (m := ⟨2, 11⟩) (meth := k2m11) (c := k2c11) (by decide +kernel) rfl rfl rfl (by decide +kernel)
set_option maxRecDepth 65536 in
theorem w_c11 : (Jvm.Cond.code ({ cls := "com/example/orbifold/orbifold/solvers/BellmanSystem", name := "endTerm", desc := "(I)I" } : Jvm.MethodName) prog_167_method_15_code (2 : Nat) (Option.some Jvm.ClassFile.FieldType.int)).before args0 about1 = true := code_word (m := ⟨2, 6⟩) (meth := k2m6) (c := k2c6) (by decide +kernel) rfl rfl rfl (by decide +kernel)
set_option maxRecDepth 65536 in
theorem w_c12 : (Jvm.Cond.code ({ cls := "com/example/orbifold/orbifold/solvers/BellmanSystem", name := "constant", desc := "(I)D" } : Jvm.MethodName) prog_167_method_16_code (2 : Nat) (Option.some Jvm.ClassFile.FieldType.double)).before args0 about1 = true := code_word (m := ⟨2, 7⟩) (meth := k2m7) (c := k2c7) (by decide +kernel) rfl rfl rfl (by decide +kernel)
set_option maxRecDepth 65536 in
theorem w_c13 : (Jvm.Cond.code ({ cls := "com/example/orbifold/orbifold/solvers/BellmanSystem", name := "leaving", desc := "(I)D" } : Jvm.MethodName) prog_167_method_17_code (2 : Nat) (Option.some Jvm.ClassFile.FieldType.double)).before args0 about1 = true := code_word (m := ⟨2, 8⟩) (meth := k2m8) (c := k2c8) (by decide +kernel) rfl rfl rfl (by decide +kernel)
set_option maxRecDepth 65536 in
theorem w_c14 : (Jvm.Cond.code ({ cls := "com/example/orbifold/orbifold/solvers/BellmanSystemFoldReturnsPinLaw", name := "term", desc := "(Lcom/example/orbifold/orbifold/solvers/BellmanSystem;IID)Z" } : Jvm.MethodName) method_3_code (5 : Nat) (Option.some Jvm.ClassFile.FieldType.boolean)).before args0 about1 = true := code_word (m := ⟨1, 2⟩) (meth := k1m2) (c := k1c2) (by decide +kernel) rfl rfl rfl (by decide +kernel)
set_option maxRecDepth 65536 in
theorem w_c15 : (Jvm.Cond.code ({ cls := "com/example/orbifold/orbifold/solvers/BellmanSystem", name := "column", desc := "(I)I" } : Jvm.MethodName) prog_167_method_18_code (2 : Nat) (Option.some Jvm.ClassFile.FieldType.int)).before args0 about1 = true := code_word (m := ⟨2, 9⟩) (meth := k2m9) (c := k2c9) (by decide +kernel) rfl rfl rfl (by decide +kernel)
set_option maxRecDepth 65536 in
theorem w_c16 : (Jvm.Cond.code ({ cls := "com/example/orbifold/orbifold/solvers/BellmanSystem", name := "coefficient", desc := "(I)D" } : Jvm.MethodName) prog_167_method_19_code (2 : Nat) (Option.some Jvm.ClassFile.FieldType.double)).before args0 about1 = true := code_word (m := ⟨2, 10⟩) (meth := k2m10) (c := k2c10) (by decide +kernel) rfl rfl rfl (by decide +kernel)
def codes1 : List Jvm.Cond := [Jvm.Cond.code x code maxLocals ret, Jvm.Cond.code ({ cls := "com/example/orbifold/orbifold/solvers/BellmanSystem", name := "<init>", desc := "()V" } : Jvm.MethodName) prog_167_method_1_code (1 : Nat) (Option.none : Option Jvm.ClassFile.FieldType), Jvm.Cond.code ({ cls := "java/lang/Object", name := "<init>", desc := "()V" } : Jvm.MethodName) object_method_1_code (1 : Nat) (Option.none : Option Jvm.ClassFile.FieldType), Jvm.Cond.code ({ cls := "com/example/orbifold/orbifold/solvers/BellmanSystem", name := "startRow", desc := "()V" } : Jvm.MethodName) prog_167_method_2_code (1 : Nat) (Option.none : Option Jvm.ClassFile.FieldType), Jvm.Cond.code ({ cls := "com/example/orbifold/orbifold/solvers/BellmanSystem", name := "ensure", desc := "([II)[I" } : Jvm.MethodName) prog_167_method_33_code (2 : Nat) (Option.some (Jvm.ClassFile.FieldType.array Jvm.ClassFile.FieldType.int)), Jvm.Cond.code ({ cls := "com/example/orbifold/orbifold/solvers/BellmanSystem", name := "startChoice", desc := "()V" } : Jvm.MethodName) prog_167_method_3_code (1 : Nat) (Option.none : Option Jvm.ClassFile.FieldType), Jvm.Cond.code ({ cls := "com/example/orbifold/orbifold/solvers/BellmanSystem", name := "ensure", desc := "([DI)[D" } : Jvm.MethodName) prog_167_method_34_code (2 : Nat) (Option.some (Jvm.ClassFile.FieldType.array Jvm.ClassFile.FieldType.double)), Jvm.Cond.code ({ cls := "com/example/orbifold/orbifold/solvers/BellmanSystem", name := "addConstant", desc := "(D)V" } : Jvm.MethodName) prog_167_method_4_code (3 : Nat) (Option.none : Option Jvm.ClassFile.FieldType), Jvm.Cond.code ({ cls := "com/example/orbifold/orbifold/solvers/BellmanSystem", name := "addLeaving", desc := "(D)V" } : Jvm.MethodName) prog_167_method_5_code (3 : Nat) (Option.none : Option Jvm.ClassFile.FieldType), Jvm.Cond.code ({ cls := "com/example/orbifold/orbifold/solvers/BellmanSystem", name := "addTerm", desc := "(ID)V" } : Jvm.MethodName) prog_167_method_6_code (4 : Nat) (Option.none : Option Jvm.ClassFile.FieldType), Jvm.Cond.code ({ cls := "com/example/orbifold/orbifold/solvers/BellmanSystem", name := "foldReturns", desc := "()V" } : Jvm.MethodName) prog_167_method_28_code (13 : Nat) (Option.none : Option Jvm.ClassFile.FieldType), Jvm.Cond.code ({ cls := "com/example/orbifold/orbifold/solvers/BellmanSystem", name := "endTerm", desc := "(I)I" } : Jvm.MethodName) prog_167_method_15_code (2 : Nat) (Option.some Jvm.ClassFile.FieldType.int), Jvm.Cond.code ({ cls := "com/example/orbifold/orbifold/solvers/BellmanSystem", name := "constant", desc := "(I)D" } : Jvm.MethodName) prog_167_method_16_code (2 : Nat) (Option.some Jvm.ClassFile.FieldType.double), Jvm.Cond.code ({ cls := "com/example/orbifold/orbifold/solvers/BellmanSystem", name := "leaving", desc := "(I)D" } : Jvm.MethodName) prog_167_method_17_code (2 : Nat) (Option.some Jvm.ClassFile.FieldType.double), Jvm.Cond.code ({ cls := "com/example/orbifold/orbifold/solvers/BellmanSystemFoldReturnsPinLaw", name := "term", desc := "(Lcom/example/orbifold/orbifold/solvers/BellmanSystem;IID)Z" } : Jvm.MethodName) method_3_code (5 : Nat) (Option.some Jvm.ClassFile.FieldType.boolean), Jvm.Cond.code ({ cls := "com/example/orbifold/orbifold/solvers/BellmanSystem", name := "column", desc := "(I)I" } : Jvm.MethodName) prog_167_method_18_code (2 : Nat) (Option.some Jvm.ClassFile.FieldType.int), Jvm.Cond.code ({ cls := "com/example/orbifold/orbifold/solvers/BellmanSystem", name := "coefficient", desc := "(I)D" } : Jvm.MethodName) prog_167_method_19_code (2 : Nat) (Option.some Jvm.ClassFile.FieldType.double)]
set_option maxRecDepth 65536 in
theorem codes_eq : words1.filter isCode = codes1 := rfl
theorem w_codes : ∀ c ∈ words1.filter isCode, c.before args0 about1 = true := by
  rw [codes_eq]
  intro c hc
  simp only [codes1, List.mem_cons, List.not_mem_nil, or_false] at hc
  rcases hc with rfl | rfl | rfl | rfl | rfl | rfl | rfl | rfl | rfl | rfl | rfl | rfl | rfl | rfl | rfl | rfl | rfl
  · exact w_c0
  · exact w_c1
  · exact w_c2
  · exact w_c3
  · exact w_c4
  · exact w_c5
  · exact w_c6
  · exact w_c7
  · exact w_c8
  · exact w_c9
  · exact w_c10
  · exact w_c11
  · exact w_c12
  · exact w_c13
  · exact w_c14
  · exact w_c15
  · exact w_c16
set_option maxRecDepth 65536 in
theorem w_t1 : (words1.take 24).all (fun c => isCode c || c.before args0 about1) = true := by decide +kernel
set_option maxRecDepth 65536 in
theorem w_t2 : ((words1.drop 24).take 24).all (fun c => isCode c || c.before args0 about1) = true := by decide +kernel
set_option maxRecDepth 65536 in
theorem w_t3 : (((words1.drop 24).drop 24).take 24).all (fun c => isCode c || c.before args0 about1) = true := by decide +kernel
set_option maxRecDepth 65536 in
theorem w_t4 : ((((words1.drop 24).drop 24).drop 24).take 24).all (fun c => isCode c || c.before args0 about1) = true := by decide +kernel
set_option maxRecDepth 65536 in
theorem w_t5 : ((((words1.drop 24).drop 24).drop 24).drop 24).all (fun c => isCode c || c.before args0 about1) = true := by decide +kernel
theorem w_tables : (allAtoms (Jvm.Cond.code x code maxLocals ret :: tables_1)).before args0 about1 = true := by
  rw [allAtoms_all]
  show words1.all (fun c => c.before args0 about1) = true
  refine all_split ?_ w_codes
  rw [← List.take_append_drop 24 words1, List.all_append, w_t1, ← List.take_append_drop 24 (words1.drop 24), List.all_append, w_t2, ← List.take_append_drop 24 ((words1.drop 24).drop 24), List.all_append, w_t3, ← List.take_append_drop 24 (((words1.drop 24).drop 24).drop 24), List.all_append, w_t4, w_t5]
  rfl
set_option maxRecDepth 65536 in
theorem w_case : (Jvm.Cond.and given_1 narrow_1).before args0 about1 = true := by decide +kernel
theorem w_applies : (headSpec (Jvm.Cond.code x code maxLocals ret :: tables_1) room_1).applies x e0.platform about1 = true :=
  (Spec.applies_iff w_frames).mpr ⟨w_running, w_runnable, w_alone, w_named, w_hears, w_ripe, w_room, w_tables⟩
theorem atStart : AtStart classFile x code maxLocals ret World_1 tables_1 room_1 Calls_1 rest_1 Pre_1 launch0 p0 e0 about1 theMethod args0 below0 :=
  ⟨lists_1, trivial, launch0.admits_env _ _ _, launch0.least_env, fairChoices_fair.cas, fairChoices_fair.clock, w_frames, w_args, w_heap, w_applies, trivial, trivial, w_case⟩
end start1
theorem witness_1 : WitnessClaimed_1 := ⟨start1.p0, start1.e0, start1.about1, start1.theMethod, start1.args0, start1.below0, start1.atStart⟩
end Jvm.Pilot.@@N@@
