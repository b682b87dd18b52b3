import JvmDerived
import JvmDerived.Pilot.@@N@@Statement
import JvmDerived.Pilot.@@N@@Code
set_option linter.unusedVariables false
set_option linter.unusedSimpArgs false
namespace Jvm.GoK
open Sem ClassFile Op Lib Jvm.Stand Jvm.Free Jvm.LawKit Jvm.RoadKit
/-- a body: its method, its bytes, how many locals, what it returns -/
abbrev Bdy : Type := MethodName × ByteArray × Nat × Option FieldType
/-- what is known all over the walk of one body -/
def Cx (p : Program) (s : State) (m : MethodId) (meth : Method) (c : Code) (Z : State) (B : Bdy) : Prop :=
  p.tables.exec = Jvm.exec ∧ Z.Warmed39 s.vm ∧ s.vm.findClass B.1.cls = some m.cls ∧ c.code = B.2.1 ∧ c.maxLocals = B.2.2.1 ∧ meth.sig.returnType = B.2.2.2 ∧ meth.locks = false ∧ meth.name = B.1.name ∧ Z.WarmedH s.vm ∧ s.methodNamed? B.1 = some m
/-- from pc, with these locals and this operand stack, over the heap h, the body B returns, and Q holds of what it returns and of the heap then; only cells from n0 on are written -/
def Go (l : Launch) (Z : State) (R : Room) (B : Bdy) (n0 : Nat) (Q : Option Value → Heap → Prop) (h : Heap) (cl sl pc : Nat) (Ls : Array Slot) (st : List Value) : Prop :=
  ∀ (p : Program) (e : Env) (s : State) (m : MethodId) (args : Array Value) (below : List Frame) (meth : Method) (c : Code) (T : State) (locs : List Loc),
    Stand p l e R s m args below meth c T locs cl sl → Cx p s m meth c Z B → Fr n0 locs → T.heap = h → n0 ≤ h.size →
    ∃ s₂ o, Steps p.tables e below (T.setTop (mkF m pc Ls st)) s₂ ∧ s₂.status = .running ∧ Ended s₂ below o ∧
      ∃ v L, o = .returned v ∧ (Q v s₂.heap ∧ n0 ≤ s₂.heap.size ∧ Fr n0 L) ∧ FrameEnd s o s₂ L R.cells R.slots
section Rules
variable {l : Launch} {Z : State} {R : Room} {B : Bdy} {n0 : Nat} {Q : Option Value → Heap → Prop} {h : Heap} {cl sl pc : Nat} {Ls : Array Slot} {st : List Value} {a0 : Array Value}
theorem Go.lift {pc' : Nat} {Ls' : Array Slot} {st' : List Value}
    (f : ∀ {p : Program} {e : Env} {below : List Frame} {T target : State} {m : MethodId} {c : Code}, At T m c below → p.tables.exec = Jvm.exec → c.code = B.2.1 → Steps p.tables e below (T.setTop (mkF m pc' Ls' st')) target → Steps p.tables e below (T.setTop (mkF m pc Ls st)) target)
    (k : Go l Z R B n0 Q h cl sl pc' Ls' st') : Go l Z R B n0 Q h cl sl pc Ls st := by
  intro p e s m args below meth c T locs X cx fr eT hn
  obtain ⟨s₂, o, h1, r⟩ := k _ _ _ _ _ _ _ _ _ _ X cx fr eT hn
  exact ⟨s₂, o, f X.here cx.1 cx.2.2.2.1 h1, r⟩
theorem Go.conseq {Q' : Option Value → Heap → Prop} (k : Go l Z R B n0 Q' h cl sl pc Ls st) (q : ∀ v h', Q' v h' → Q v h') : Go l Z R B n0 Q h cl sl pc Ls st := by
  intro p e s m args below meth c T locs X cx fr eT hn
  obtain ⟨s₂, o, h1, h2, h3, v, L, h4, h5, h6⟩ := k _ _ _ _ _ _ _ _ _ _ X cx fr eT hn
  exact ⟨s₂, o, h1, h2, h3, v, L, h4, ⟨q _ _ h5.1, h5.2⟩, h6⟩
/-! ### plain steps; each rule names the next pc first -/
theorem Go.aloadN (pc' : Nat) {i : Fin 4} {v : Value} (hd : decode B.2.1 pc = .ok (.aload_n i, 1)) (hp : pc + 1 = pc') (hl : Ls[i.val]? = some (.val v)) (hv : v.isRef = true) (k : Go l Z R B n0 Q h cl sl pc' Ls (v :: st)) : Go l Z R B n0 Q h cl sl pc Ls st := by
  subst hp; exact Go.lift (fun at_ hx hc q => XS.aloadN at_ hx rfl (hb hc hd) hl hv q) k
theorem Go.aload (pc' : Nat) {i : Nat} {v : Value} (hd : decode B.2.1 pc = .ok (.aload i, 2)) (hp : pc + 2 = pc') (hl : Ls[i]? = some (.val v)) (hv : v.isRef = true) (k : Go l Z R B n0 Q h cl sl pc' Ls (v :: st)) : Go l Z R B n0 Q h cl sl pc Ls st := by
  subst hp; exact Go.lift (fun at_ hx hc q => XS.aload at_ hx rfl (hb hc hd) hl hv q) k
theorem Go.iloadN (pc' : Nat) {i : Fin 4} {v : Int32} (hd : decode B.2.1 pc = .ok (.iload_n i, 1)) (hp : pc + 1 = pc') (hl : Ls[i.val]? = some (.val (.int v))) (k : Go l Z R B n0 Q h cl sl pc' Ls (.int v :: st)) : Go l Z R B n0 Q h cl sl pc Ls st := by
  subst hp; exact Go.lift (fun at_ hx hc q => XS.iloadN at_ hx rfl (hb hc hd) hl q) k
theorem Go.iload (pc' : Nat) {i : Nat} {v : Int32} (hd : decode B.2.1 pc = .ok (.iload i, 2)) (hp : pc + 2 = pc') (hl : Ls[i]? = some (.val (.int v))) (k : Go l Z R B n0 Q h cl sl pc' Ls (.int v :: st)) : Go l Z R B n0 Q h cl sl pc Ls st := by
  subst hp; exact Go.lift (fun at_ hx hc q => XS.iload at_ hx rfl (hb hc hd) hl q) k
theorem Go.lloadN (pc' : Nat) {i : Fin 4} {v : Int64} (hd : decode B.2.1 pc = .ok (.lload_n i, 1)) (hp : pc + 1 = pc') (hl : Ls[i.val]? = some (.val (.long v))) (k : Go l Z R B n0 Q h cl sl pc' Ls (.long v :: st)) : Go l Z R B n0 Q h cl sl pc Ls st := by
  subst hp; exact Go.lift (fun at_ hx hc q => XT.lloadN at_ hx rfl (hb hc hd) hl q) k
theorem Go.lload (pc' : Nat) {i : Nat} {v : Int64} (hd : decode B.2.1 pc = .ok (.lload i, 2)) (hp : pc + 2 = pc') (hl : Ls[i]? = some (.val (.long v))) (k : Go l Z R B n0 Q h cl sl pc' Ls (.long v :: st)) : Go l Z R B n0 Q h cl sl pc Ls st := by
  subst hp; exact Go.lift (fun at_ hx hc q => XT.lload at_ hx rfl (hb hc hd) hl q) k
theorem Go.dloadN (pc' : Nat) {i : Fin 4} {v : UInt64} (hd : decode B.2.1 pc = .ok (.dload_n i, 1)) (hp : pc + 1 = pc') (hl : Ls[i.val]? = some (.val (.double v))) (k : Go l Z R B n0 Q h cl sl pc' Ls (.double v :: st)) : Go l Z R B n0 Q h cl sl pc Ls st := by
  subst hp; exact Go.lift (fun at_ hx hc q => XS.dloadN at_ hx rfl (hb hc hd) hl q) k
theorem Go.dload (pc' : Nat) {i : Nat} {v : UInt64} (hd : decode B.2.1 pc = .ok (.dload i, 2)) (hp : pc + 2 = pc') (hl : Ls[i]? = some (.val (.double v))) (k : Go l Z R B n0 Q h cl sl pc' Ls (.double v :: st)) : Go l Z R B n0 Q h cl sl pc Ls st := by
  subst hp; exact Go.lift (fun at_ hx hc q => XS.dload at_ hx rfl (hb hc hd) hl q) k
theorem Go.istoreN (pc' : Nat) (Ls' : Array Slot) {i : Fin 4} {x : Int32} (hd : decode B.2.1 pc = .ok (.istore_n i, 1)) (hp : pc + 1 = pc') (hl : storeLocals Ls i.val (.int x) = some Ls') (k : Go l Z R B n0 Q h cl sl pc' Ls' st) : Go l Z R B n0 Q h cl sl pc Ls (.int x :: st) := by
  subst hp; exact Go.lift (fun at_ hx hc q => XS.istoreN at_ hx rfl (hb hc hd) rfl hl q) k
theorem Go.istore (pc' : Nat) (Ls' : Array Slot) {i : Nat} {x : Int32} (hd : decode B.2.1 pc = .ok (.istore i, 2)) (hp : pc + 2 = pc') (hl : storeLocals Ls i (.int x) = some Ls') (k : Go l Z R B n0 Q h cl sl pc' Ls' st) : Go l Z R B n0 Q h cl sl pc Ls (.int x :: st) := by
  subst hp; exact Go.lift (fun at_ hx hc q => XS.istore at_ hx rfl (hb hc hd) rfl hl q) k
theorem Go.lstoreN (pc' : Nat) (Ls' : Array Slot) {i : Fin 4} {x : Int64} (hd : decode B.2.1 pc = .ok (.lstore_n i, 1)) (hp : pc + 1 = pc') (hl : storeLocals Ls i.val (.long x) = some Ls') (k : Go l Z R B n0 Q h cl sl pc' Ls' st) : Go l Z R B n0 Q h cl sl pc Ls (.long x :: st) := by
  subst hp; exact Go.lift (fun at_ hx hc q => XT.lstoreN at_ hx rfl (hb hc hd) rfl hl q) k
theorem Go.lstore (pc' : Nat) (Ls' : Array Slot) {i : Nat} {x : Int64} (hd : decode B.2.1 pc = .ok (.lstore i, 2)) (hp : pc + 2 = pc') (hl : storeLocals Ls i (.long x) = some Ls') (k : Go l Z R B n0 Q h cl sl pc' Ls' st) : Go l Z R B n0 Q h cl sl pc Ls (.long x :: st) := by
  subst hp; exact Go.lift (fun at_ hx hc q => XT.lstore at_ hx rfl (hb hc hd) rfl hl q) k
theorem Go.dstoreN (pc' : Nat) (Ls' : Array Slot) {i : Fin 4} {x : UInt64} (hd : decode B.2.1 pc = .ok (.dstore_n i, 1)) (hp : pc + 1 = pc') (hl : storeLocals Ls i.val (.double x) = some Ls') (k : Go l Z R B n0 Q h cl sl pc' Ls' st) : Go l Z R B n0 Q h cl sl pc Ls (.double x :: st) := by
  subst hp; exact Go.lift (fun at_ hx hc q => XS.dstoreN at_ hx rfl (hb hc hd) rfl hl q) k
theorem Go.dstore (pc' : Nat) (Ls' : Array Slot) {i : Nat} {x : UInt64} (hd : decode B.2.1 pc = .ok (.dstore i, 2)) (hp : pc + 2 = pc') (hl : storeLocals Ls i (.double x) = some Ls') (k : Go l Z R B n0 Q h cl sl pc' Ls' st) : Go l Z R B n0 Q h cl sl pc Ls (.double x :: st) := by
  subst hp; exact Go.lift (fun at_ hx hc q => XS.dstore at_ hx rfl (hb hc hd) rfl hl q) k
theorem Go.astoreN (pc' : Nat) (Ls' : Array Slot) {i : Fin 4} {x : Value} (hd : decode B.2.1 pc = .ok (.astore_n i, 1)) (hp : pc + 1 = pc') (hv : x.isRef = true) (hl : storeLocals Ls i.val x = some Ls') (k : Go l Z R B n0 Q h cl sl pc' Ls' st) : Go l Z R B n0 Q h cl sl pc Ls (x :: st) := by
  subst hp; exact Go.lift (fun at_ hx hc q => XS.astoreN at_ hx rfl (hb hc hd) rfl hv hl q) k
theorem Go.astore (pc' : Nat) (Ls' : Array Slot) {i : Nat} {x : Value} (hd : decode B.2.1 pc = .ok (.astore i, 2)) (hp : pc + 2 = pc') (hv : x.isRef = true) (hl : storeLocals Ls i x = some Ls') (k : Go l Z R B n0 Q h cl sl pc' Ls' st) : Go l Z R B n0 Q h cl sl pc Ls (x :: st) := by
  subst hp; exact Go.lift (fun at_ hx hc q => XS.astore at_ hx rfl (hb hc hd) rfl hv hl q) k
theorem Go.iinc (pc' : Nat) (Ls' : Array Slot) (v : Int32) {i : Nat} {cst : Int} {x : Int32} (hd : decode B.2.1 pc = .ok (.iinc i cst, 3)) (hp : pc + 3 = pc') (hl : Ls[i]? = some (.val (.int x))) (hv : x + Int32.ofInt cst = v) (hl' : storeLocals Ls i (.int v) = some Ls') (k : Go l Z R B n0 Q h cl sl pc' Ls' st) : Go l Z R B n0 Q h cl sl pc Ls st := by
  subst hp; subst hv; exact Go.lift (fun at_ hx hc q => XS.iinc at_ hx rfl (hb hc hd) hl hl' q) k
theorem Go.iconst (pc' : Nat) (v : Int32) {i : Int} (hd : decode B.2.1 pc = .ok (.iconst i, 1)) (hp : pc + 1 = pc') (hv : Int32.ofInt i = v) (k : Go l Z R B n0 Q h cl sl pc' Ls (.int v :: st)) : Go l Z R B n0 Q h cl sl pc Ls st := by
  subst hp; exact Go.lift (fun at_ hx hc q => XT.iconstV at_ hx rfl v (hb hc hd) hv q) k
theorem Go.bipush (pc' : Nat) (v : Int32) {i : Int} (hd : decode B.2.1 pc = .ok (.bipush i, 2)) (hp : pc + 2 = pc') (hv : (Int8.ofInt i).toInt32 = v) (k : Go l Z R B n0 Q h cl sl pc' Ls (.int v :: st)) : Go l Z R B n0 Q h cl sl pc Ls st := by
  subst hp; exact Go.lift (fun at_ hx hc q => XT.bipushV at_ hx rfl v (hb hc hd) hv q) k
theorem Go.sipush (pc' : Nat) (v : Int32) {i : Int} (hd : decode B.2.1 pc = .ok (.sipush i, 3)) (hp : pc + 3 = pc') (hv : (Int16.ofInt i).toInt32 = v) (k : Go l Z R B n0 Q h cl sl pc' Ls (.int v :: st)) : Go l Z R B n0 Q h cl sl pc Ls st := by
  subst hp; exact Go.lift (fun at_ hx hc q => XT.sipushV at_ hx rfl v (hb hc hd) hv q) k
theorem Go.lconst (pc' : Nat) (v : Int64) {i : Fin 2} (hd : decode B.2.1 pc = .ok (.lconst i, 1)) (hp : pc + 1 = pc') (hv : Int64.ofNat i = v) (k : Go l Z R B n0 Q h cl sl pc' Ls (.long v :: st)) : Go l Z R B n0 Q h cl sl pc Ls st := by
  subst hp; exact Go.lift (fun at_ hx hc q => XT.lconstV at_ hx rfl v (hb hc hd) hv q) k
theorem Go.dconst0 (pc' : Nat) (v : UInt64) (hd : decode B.2.1 pc = .ok (.dconst 0, 1)) (hp : pc + 1 = pc') (hv : FP.dconst0 = v) (k : Go l Z R B n0 Q h cl sl pc' Ls (.double v :: st)) : Go l Z R B n0 Q h cl sl pc Ls st := by
  subst hp; exact Go.lift (fun at_ hx hc q => XS.dconst0 at_ hx rfl (hb hc hd) hv q) k
theorem Go.dconst1 (pc' : Nat) (v : UInt64) (hd : decode B.2.1 pc = .ok (.dconst 1, 1)) (hp : pc + 1 = pc') (hv : FP.dconst1 = v) (k : Go l Z R B n0 Q h cl sl pc' Ls (.double v :: st)) : Go l Z R B n0 Q h cl sl pc Ls st := by
  subst hp; exact Go.lift (fun at_ hx hc q => XS.dconst1 at_ hx rfl (hb hc hd) hv q) k
theorem Go.aconstNull (pc' : Nat) (hd : decode B.2.1 pc = .ok (.aconst_null, 1)) (hp : pc + 1 = pc') (k : Go l Z R B n0 Q h cl sl pc' Ls (.null :: st)) : Go l Z R B n0 Q h cl sl pc Ls st := by
  subst hp; exact Go.lift (fun at_ hx hc q => XS.aconstNull at_ hx rfl (hb hc hd) q) k
/-! arithmetic; the value is named: v, by an equation -/
theorem Go.iadd (pc' : Nat) (v : Int32) {x y : Int32} (hd : decode B.2.1 pc = .ok (.iadd, 1)) (hp : pc + 1 = pc') (hv : x + y = v) (k : Go l Z R B n0 Q h cl sl pc' Ls (.int v :: st)) : Go l Z R B n0 Q h cl sl pc Ls (.int y :: .int x :: st) := by
  subst hp; subst hv; exact Go.lift (fun at_ hx hc q => XS.iadd at_ hx rfl (hb hc hd) rfl q) k
theorem Go.isub (pc' : Nat) (v : Int32) {x y : Int32} (hd : decode B.2.1 pc = .ok (.isub, 1)) (hp : pc + 1 = pc') (hv : x - y = v) (k : Go l Z R B n0 Q h cl sl pc' Ls (.int v :: st)) : Go l Z R B n0 Q h cl sl pc Ls (.int y :: .int x :: st) := by
  subst hp; subst hv; exact Go.lift (fun at_ hx hc q => XS.isub at_ hx rfl (hb hc hd) rfl q) k
theorem Go.imul (pc' : Nat) (v : Int32) {x y : Int32} (hd : decode B.2.1 pc = .ok (.imul, 1)) (hp : pc + 1 = pc') (hv : x * y = v) (k : Go l Z R B n0 Q h cl sl pc' Ls (.int v :: st)) : Go l Z R B n0 Q h cl sl pc Ls (.int y :: .int x :: st) := by
  subst hp; subst hv; exact Go.lift (fun at_ hx hc q => XS.imul at_ hx rfl (hb hc hd) rfl q) k
theorem Go.idiv (pc' : Nat) (v : Int32) {x y : Int32} (hd : decode B.2.1 pc = .ok (.idiv, 1)) (hp : pc + 1 = pc') (hy : y ≠ 0) (hv : x / y = v) (k : Go l Z R B n0 Q h cl sl pc' Ls (.int v :: st)) : Go l Z R B n0 Q h cl sl pc Ls (.int y :: .int x :: st) := by
  subst hp; subst hv; exact Go.lift (fun at_ hx hc q => XS.idiv at_ hx rfl (hb hc hd) rfl hy q) k
theorem Go.irem (pc' : Nat) (v : Int32) {x y : Int32} (hd : decode B.2.1 pc = .ok (.irem, 1)) (hp : pc + 1 = pc') (hy : y ≠ 0) (hv : x % y = v) (k : Go l Z R B n0 Q h cl sl pc' Ls (.int v :: st)) : Go l Z R B n0 Q h cl sl pc Ls (.int y :: .int x :: st) := by
  subst hp; subst hv
  have q0 : x - x / y * y = x % y := irem_eq_mod x y
  have k' : Go l Z R B n0 Q h cl sl (pc + 1) Ls (.int (x - x / y * y) :: st) := by rw [q0]; exact k
  intro p e s m args below meth c T locs X cx fr eT hn
  obtain ⟨s₂, o, h1, r⟩ := k' _ _ _ _ _ _ _ _ _ _ X cx fr eT hn
  exact ⟨s₂, o, XS.irem X.here cx.1 (g := mkF m pc Ls (.int y :: .int x :: st)) rfl (hb cx.2.2.2.1 hd) rfl hy h1, r⟩
theorem Go.iand (pc' : Nat) (v : Int32) {x y : Int32} (hd : decode B.2.1 pc = .ok (.iand, 1)) (hp : pc + 1 = pc') (hv : x &&& y = v) (k : Go l Z R B n0 Q h cl sl pc' Ls (.int v :: st)) : Go l Z R B n0 Q h cl sl pc Ls (.int y :: .int x :: st) := by
  subst hp; subst hv; exact Go.lift (fun at_ hx hc q => XS.iand at_ hx rfl (hb hc hd) rfl q) k
theorem Go.ixor (pc' : Nat) (v : Int32) {x y : Int32} (hd : decode B.2.1 pc = .ok (.ixor, 1)) (hp : pc + 1 = pc') (hv : x ^^^ y = v) (k : Go l Z R B n0 Q h cl sl pc' Ls (.int v :: st)) : Go l Z R B n0 Q h cl sl pc Ls (.int y :: .int x :: st) := by
  subst hp; subst hv; exact Go.lift (fun at_ hx hc q => XT.ixor at_ hx rfl (hb hc hd) rfl q) k
theorem Go.ishl (pc' : Nat) (v : Int32) {x y : Int32} (hd : decode B.2.1 pc = .ok (.ishl, 1)) (hp : pc + 1 = pc') (hv : x <<< (y &&& 31) = v) (k : Go l Z R B n0 Q h cl sl pc' Ls (.int v :: st)) : Go l Z R B n0 Q h cl sl pc Ls (.int y :: .int x :: st) := by
  subst hp; subst hv; exact Go.lift (fun at_ hx hc q => XT.ishl at_ hx rfl (hb hc hd) rfl q) k
theorem Go.iushr (pc' : Nat) (v : Int32) {x y : Int32} (hd : decode B.2.1 pc = .ok (.iushr, 1)) (hp : pc + 1 = pc') (hv : XT.ushr x y = v) (k : Go l Z R B n0 Q h cl sl pc' Ls (.int v :: st)) : Go l Z R B n0 Q h cl sl pc Ls (.int y :: .int x :: st) := by
  subst hp; subst hv; exact Go.lift (fun at_ hx hc q => XT.iushr at_ hx rfl (hb hc hd) rfl q) k
theorem Go.ineg (pc' : Nat) (v : Int32) {x : Int32} (hd : decode B.2.1 pc = .ok (.ineg, 1)) (hp : pc + 1 = pc') (hv : -x = v) (k : Go l Z R B n0 Q h cl sl pc' Ls (.int v :: st)) : Go l Z R B n0 Q h cl sl pc Ls (.int x :: st) := by
  subst hp; subst hv; exact Go.lift (fun at_ hx hc q => XS.ineg at_ hx rfl (hb hc hd) rfl q) k
theorem Go.ladd (pc' : Nat) (v : Int64) {x y : Int64} (hd : decode B.2.1 pc = .ok (.ladd, 1)) (hp : pc + 1 = pc') (hv : x + y = v) (k : Go l Z R B n0 Q h cl sl pc' Ls (.long v :: st)) : Go l Z R B n0 Q h cl sl pc Ls (.long y :: .long x :: st) := by
  subst hp; subst hv; exact Go.lift (fun at_ hx hc q => XT.ladd at_ hx rfl (hb hc hd) rfl q) k
theorem Go.lsub (pc' : Nat) (v : Int64) {x y : Int64} (hd : decode B.2.1 pc = .ok (.lsub, 1)) (hp : pc + 1 = pc') (hv : x - y = v) (k : Go l Z R B n0 Q h cl sl pc' Ls (.long v :: st)) : Go l Z R B n0 Q h cl sl pc Ls (.long y :: .long x :: st) := by
  subst hp; subst hv; exact Go.lift (fun at_ hx hc q => XT.lsub at_ hx rfl (hb hc hd) rfl q) k
theorem Go.lmul (pc' : Nat) (v : Int64) {x y : Int64} (hd : decode B.2.1 pc = .ok (.lmul, 1)) (hp : pc + 1 = pc') (hv : x * y = v) (k : Go l Z R B n0 Q h cl sl pc' Ls (.long v :: st)) : Go l Z R B n0 Q h cl sl pc Ls (.long y :: .long x :: st) := by
  subst hp; subst hv; exact Go.lift (fun at_ hx hc q => XT.lmul at_ hx rfl (hb hc hd) rfl q) k
theorem Go.land (pc' : Nat) (v : Int64) {x y : Int64} (hd : decode B.2.1 pc = .ok (.land, 1)) (hp : pc + 1 = pc') (hv : x &&& y = v) (k : Go l Z R B n0 Q h cl sl pc' Ls (.long v :: st)) : Go l Z R B n0 Q h cl sl pc Ls (.long y :: .long x :: st) := by
  subst hp; subst hv; exact Go.lift (fun at_ hx hc q => XT.land at_ hx rfl (hb hc hd) rfl q) k
theorem Go.lshl (pc' : Nat) (v : Int64) {x : Int64} {y : Int32} (hd : decode B.2.1 pc = .ok (.lshl, 1)) (hp : pc + 1 = pc') (hv : x <<< (y.toInt64 &&& 63) = v) (k : Go l Z R B n0 Q h cl sl pc' Ls (.long v :: st)) : Go l Z R B n0 Q h cl sl pc Ls (.int y :: .long x :: st) := by
  subst hp; subst hv; exact Go.lift (fun at_ hx hc q => XT.lshl at_ hx rfl (hb hc hd) rfl q) k
theorem Go.lshr (pc' : Nat) (v : Int64) {x : Int64} {y : Int32} (hd : decode B.2.1 pc = .ok (.lshr, 1)) (hp : pc + 1 = pc') (hv : x >>> (y.toInt64 &&& 63) = v) (k : Go l Z R B n0 Q h cl sl pc' Ls (.long v :: st)) : Go l Z R B n0 Q h cl sl pc Ls (.int y :: .long x :: st) := by
  subst hp; subst hv; exact Go.lift (fun at_ hx hc q => XT.lshr at_ hx rfl (hb hc hd) rfl q) k
theorem Go.lushr (pc' : Nat) (v : Int64) {x : Int64} {y : Int32} (hd : decode B.2.1 pc = .ok (.lushr, 1)) (hp : pc + 1 = pc') (hv : XT.ushrL x y = v) (k : Go l Z R B n0 Q h cl sl pc' Ls (.long v :: st)) : Go l Z R B n0 Q h cl sl pc Ls (.int y :: .long x :: st) := by
  subst hp; subst hv; exact Go.lift (fun at_ hx hc q => XT.lushr at_ hx rfl (hb hc hd) rfl q) k
theorem Go.i2l (pc' : Nat) (v : Int64) {x : Int32} (hd : decode B.2.1 pc = .ok (.i2l, 1)) (hp : pc + 1 = pc') (hv : x.toInt64 = v) (k : Go l Z R B n0 Q h cl sl pc' Ls (.long v :: st)) : Go l Z R B n0 Q h cl sl pc Ls (.int x :: st) := by
  subst hp; subst hv; exact Go.lift (fun at_ hx hc q => XT.i2l at_ hx rfl (hb hc hd) rfl q) k
theorem Go.l2i (pc' : Nat) (v : Int32) {x : Int64} (hd : decode B.2.1 pc = .ok (.l2i, 1)) (hp : pc + 1 = pc') (hv : x.toInt32 = v) (k : Go l Z R B n0 Q h cl sl pc' Ls (.int v :: st)) : Go l Z R B n0 Q h cl sl pc Ls (.long x :: st) := by
  subst hp; subst hv; exact Go.lift (fun at_ hx hc q => XT.l2i at_ hx rfl (hb hc hd) rfl q) k
theorem Go.i2s (pc' : Nat) (v : Int32) {x : Int32} (hd : decode B.2.1 pc = .ok (.i2s, 1)) (hp : pc + 1 = pc') (hv : x.toInt16.toInt32 = v) (k : Go l Z R B n0 Q h cl sl pc' Ls (.int v :: st)) : Go l Z R B n0 Q h cl sl pc Ls (.int x :: st) := by
  subst hp; subst hv; exact Go.lift (fun at_ hx hc q => XT.i2s at_ hx rfl (hb hc hd) rfl q) k
theorem Go.i2d (pc' : Nat) (v : UInt64) {x : Int32} (hd : decode B.2.1 pc = .ok (.i2d, 1)) (hp : pc + 1 = pc') (hv : FP.i2d x = v) (k : Go l Z R B n0 Q h cl sl pc' Ls (.double v :: st)) : Go l Z R B n0 Q h cl sl pc Ls (.int x :: st) := by
  subst hp; exact Go.lift (fun at_ hx hc q => XS.i2dS at_ hx rfl (hb hc hd) rfl hv q) k
theorem Go.l2d (pc' : Nat) (v : UInt64) {x : Int64} (hd : decode B.2.1 pc = .ok (.l2d, 1)) (hp : pc + 1 = pc') (hv : FP.l2d x = v) (k : Go l Z R B n0 Q h cl sl pc' Ls (.double v :: st)) : Go l Z R B n0 Q h cl sl pc Ls (.long x :: st) := by
  subst hp; exact Go.lift (fun at_ hx hc q => XS.l2dS at_ hx rfl (hb hc hd) rfl hv q) k
theorem Go.d2l (pc' : Nat) (v : Int64) {x : UInt64} (hd : decode B.2.1 pc = .ok (.d2l, 1)) (hp : pc + 1 = pc') (hv : FP.d2l x = v) (k : Go l Z R B n0 Q h cl sl pc' Ls (.long v :: st)) : Go l Z R B n0 Q h cl sl pc Ls (.double x :: st) := by
  subst hp; exact Go.lift (fun at_ hx hc q => XS.d2lS at_ hx rfl (hb hc hd) rfl hv q) k
theorem Go.dadd (pc' : Nat) (v : UInt64) {x y : UInt64} (hd : decode B.2.1 pc = .ok (.dadd, 1)) (hp : pc + 1 = pc') (hv : FP.dadd x y = v) (hn : Jvm.Free.Fl.NoNaN64 v) (k : Go l Z R B n0 Q h cl sl pc' Ls (.double v :: st)) : Go l Z R B n0 Q h cl sl pc Ls (.double y :: .double x :: st) := by
  subst hp; exact Go.lift (fun at_ hx hc q => XS.daddS at_ hx rfl (hb hc hd) rfl (hv ▸ hn) hv q) k
theorem Go.dsub (pc' : Nat) (v : UInt64) {x y : UInt64} (hd : decode B.2.1 pc = .ok (.dsub, 1)) (hp : pc + 1 = pc') (hv : FP.dsub x y = v) (hn : Jvm.Free.Fl.NoNaN64 v) (k : Go l Z R B n0 Q h cl sl pc' Ls (.double v :: st)) : Go l Z R B n0 Q h cl sl pc Ls (.double y :: .double x :: st) := by
  subst hp; exact Go.lift (fun at_ hx hc q => XS.dsubS at_ hx rfl (hb hc hd) rfl (hv ▸ hn) hv q) k
theorem Go.dmul (pc' : Nat) (v : UInt64) {x y : UInt64} (hd : decode B.2.1 pc = .ok (.dmul, 1)) (hp : pc + 1 = pc') (hv : FP.dmul x y = v) (hn : Jvm.Free.Fl.NoNaN64 v) (k : Go l Z R B n0 Q h cl sl pc' Ls (.double v :: st)) : Go l Z R B n0 Q h cl sl pc Ls (.double y :: .double x :: st) := by
  subst hp; exact Go.lift (fun at_ hx hc q => XS.dmulS at_ hx rfl (hb hc hd) rfl (hv ▸ hn) hv q) k
theorem Go.ddiv (pc' : Nat) (v : UInt64) {x y : UInt64} (hd : decode B.2.1 pc = .ok (.ddiv, 1)) (hp : pc + 1 = pc') (hv : FP.ddiv x y = v) (hn : Jvm.Free.Fl.NoNaN64 v) (k : Go l Z R B n0 Q h cl sl pc' Ls (.double v :: st)) : Go l Z R B n0 Q h cl sl pc Ls (.double y :: .double x :: st) := by
  subst hp; exact Go.lift (fun at_ hx hc q => XS.ddivS at_ hx rfl (hb hc hd) rfl (hv ▸ hn) hv q) k
theorem Go.dcmp (pc' : Nat) (v : Int32) {o : CmpOp} {x y : UInt64} (hd : decode B.2.1 pc = .ok (.dcmp o, 1)) (hp : pc + 1 = pc') (hv : cmpValue (FP.dcmp x y) o = v) (k : Go l Z R B n0 Q h cl sl pc' Ls (.int v :: st)) : Go l Z R B n0 Q h cl sl pc Ls (.double y :: .double x :: st) := by
  subst hp; exact Go.lift (fun at_ hx hc q => XS.dcmpS at_ hx rfl (hb hc hd) rfl hv q) k
theorem Go.lcmp (pc' : Nat) (v : Int32) {x y : Int64} (hd : decode B.2.1 pc = .ok (.lcmp, 1)) (hp : pc + 1 = pc') (hv : XT.cmpL x y = v) (k : Go l Z R B n0 Q h cl sl pc' Ls (.int v :: st)) : Go l Z R B n0 Q h cl sl pc Ls (.long y :: .long x :: st) := by
  subst hp; subst hv; exact Go.lift (fun at_ hx hc q => XT.lcmp at_ hx rfl (hb hc hd) rfl q) k
theorem Go.dup (pc' : Nat) {x : Value} (hd : decode B.2.1 pc = .ok (.dup, 1)) (hp : pc + 1 = pc') (hc1 : x.category = 1) (k : Go l Z R B n0 Q h cl sl pc' Ls (x :: x :: st)) : Go l Z R B n0 Q h cl sl pc Ls (x :: st) := by
  subst hp; exact Go.lift (fun at_ hx hc q => XS.dup at_ hx rfl (hb hc hd) rfl hc1 q) k
theorem Go.pop (pc' : Nat) {x : Value} (hd : decode B.2.1 pc = .ok (.pop, 1)) (hp : pc + 1 = pc') (hc1 : x.category = 1) (k : Go l Z R B n0 Q h cl sl pc' Ls st) : Go l Z R B n0 Q h cl sl pc Ls (x :: st) := by
  subst hp; exact Go.lift (fun at_ hx hc q => XT.pop at_ hx rfl (hb hc hd) rfl hc1 q) k
theorem Go.dupX1 (pc' : Nat) {x y : Value} (hd : decode B.2.1 pc = .ok (.dup_x1, 1)) (hp : pc + 1 = pc') (hc1 : x.category = 1) (hc2 : y.category = 1) (k : Go l Z R B n0 Q h cl sl pc' Ls (x :: y :: x :: st)) : Go l Z R B n0 Q h cl sl pc Ls (x :: y :: st) := by
  subst hp; exact Go.lift (fun at_ hx hc q => XT.dupX1 at_ hx rfl (hb hc hd) rfl hc1 hc2 q) k
theorem Go.dup2 (pc' : Nat) {x y : Value} (hd : decode B.2.1 pc = .ok (.dup2, 1)) (hp : pc + 1 = pc') (hc1 : x.category = 1) (hc2 : y.category = 1) (k : Go l Z R B n0 Q h cl sl pc' Ls (x :: y :: x :: y :: st)) : Go l Z R B n0 Q h cl sl pc Ls (x :: y :: st) := by
  subst hp; exact Go.lift (fun at_ hx hc q => XT.dup2 at_ hx rfl (hb hc hd) rfl hc1 hc2 q) k
/-! jumps: both roads -/
theorem Go.goto (pc' : Nat) {o : Int} (hd : decode B.2.1 pc = .ok (.goto o, 3)) (ho : 0 ≤ (pc : Int) + o) (hp : ((pc : Int) + o).toNat = pc') (k : Go l Z R B n0 Q h cl sl pc' Ls st) : Go l Z R B n0 Q h cl sl pc Ls st :=
  Go.lift (fun at_ hx hc q => XS.goto at_ hx rfl (pc0 := pc) (pc' := pc') rfl (hb hc hd) ho hp q) k
theorem Go.ifC (pc' pc'' : Nat) {cd : ClassFile.Cond} {x : Int32} {o : Int} (hd : decode B.2.1 pc = .ok (.ifCond cd o, 3)) (ho : 0 ≤ (pc : Int) + o) (hp : ((pc : Int) + o).toNat = pc') (hp2 : pc + 3 = pc'')
    (k1 : ifCond.holds cd x = true → Go l Z R B n0 Q h cl sl pc' Ls st) (k2 : ifCond.holds cd x = false → Go l Z R B n0 Q h cl sl pc'' Ls st) : Go l Z R B n0 Q h cl sl pc Ls (.int x :: st) := by
  subst hp2
  cases hh : ifCond.holds cd x with
  | true => exact Go.lift (fun at_ hx hc q => XS.ifYes at_ hx rfl (pc0 := pc) (pc' := pc') rfl (hb hc hd) rfl hh ho hp q) (k1 hh)
  | false => exact Go.lift (fun at_ hx hc q => XS.ifNo at_ hx rfl (hb hc hd) rfl hh q) (k2 hh)
theorem Go.icmp (pc' pc'' : Nat) {cd : ClassFile.Cond} {x y : Int32} {o : Int} (hd : decode B.2.1 pc = .ok (.if_icmp cd o, 3)) (ho : 0 ≤ (pc : Int) + o) (hp : ((pc : Int) + o).toNat = pc') (hp2 : pc + 3 = pc'')
    (k1 : if_icmp.holds cd x y = true → Go l Z R B n0 Q h cl sl pc' Ls st) (k2 : if_icmp.holds cd x y = false → Go l Z R B n0 Q h cl sl pc'' Ls st) : Go l Z R B n0 Q h cl sl pc Ls (.int y :: .int x :: st) := by
  subst hp2
  cases hh : if_icmp.holds cd x y with
  | true => exact Go.lift (fun at_ hx hc q => XS.icmpYes at_ hx rfl (pc0 := pc) (pc' := pc') rfl (hb hc hd) rfl hh ho hp q) (k1 hh)
  | false => exact Go.lift (fun at_ hx hc q => XS.icmpNo at_ hx rfl (hb hc hd) rfl hh q) (k2 hh)
theorem Go.acmp (pc' pc'' : Nat) {cd : ClassFile.ACond} {x y : Value} {o : Int} (hd : decode B.2.1 pc = .ok (.if_acmp cd o, 3)) (ho : 0 ≤ (pc : Int) + o) (hp : ((pc : Int) + o).toNat = pc') (hp2 : pc + 3 = pc'') (hx1 : x.isRef = true) (hy1 : y.isRef = true)
    (k1 : XT.acmp cd x y = true → Go l Z R B n0 Q h cl sl pc' Ls st) (k2 : XT.acmp cd x y = false → Go l Z R B n0 Q h cl sl pc'' Ls st) : Go l Z R B n0 Q h cl sl pc Ls (y :: x :: st) := by
  subst hp2
  cases hh : XT.acmp cd x y with
  | true => exact Go.lift (fun at_ hx hc q => XT.acmpYes at_ hx rfl (pc0 := pc) (pc' := pc') rfl (hb hc hd) rfl hx1 hy1 hh ho hp q) (k1 hh)
  | false => exact Go.lift (fun at_ hx hc q => XT.acmpNo at_ hx rfl (hb hc hd) rfl hx1 hy1 hh q) (k2 hh)
/-! branches, said of whole numbers -/
def cmpP (cd : ClassFile.Cond) (x y : Int) : Prop := match cd with
  | .eq => x = y | .ne => x ≠ y | .lt => x < y | .ge => y ≤ x | .gt => y < x | .le => x ≤ y
def cmpN (cd : ClassFile.Cond) (x y : Int) : Prop := match cd with
  | .eq => x ≠ y | .ne => x = y | .lt => y ≤ x | .ge => x < y | .gt => x ≤ y | .le => y < x
theorem holds_t (cd : ClassFile.Cond) (x y : Int32) : if_icmp.holds cd x y = true ↔ cmpP cd x.toInt y.toInt := by
  cases cd <;> simp [if_icmp.holds, cmpP, Int32.lt_iff_toInt_lt, Int32.le_iff_toInt_le, ← Int32.toInt_inj]
theorem holds_f (cd : ClassFile.Cond) (x y : Int32) : if_icmp.holds cd x y = false ↔ cmpN cd x.toInt y.toInt := by
  cases cd <;> simp [if_icmp.holds, cmpN, Int32.lt_iff_toInt_lt, Int32.le_iff_toInt_le, ← Int32.toInt_inj]
theorem holds0_t (cd : ClassFile.Cond) (x : Int32) : ifCond.holds cd x = true ↔ cmpP cd x.toInt 0 := by rw [if0, holds_t]; exact Iff.rfl
theorem holds0_f (cd : ClassFile.Cond) (x : Int32) : ifCond.holds cd x = false ↔ cmpN cd x.toInt 0 := by rw [if0, holds_f]; exact Iff.rfl
theorem Go.icmpB (pc' pc'' : Nat) {cd : ClassFile.Cond} {x y : Int32} {o : Int} (hd : decode B.2.1 pc = .ok (.if_icmp cd o, 3)) (ho : 0 ≤ (pc : Int) + o) (hp : ((pc : Int) + o).toNat = pc') (hp2 : pc + 3 = pc'')
    (k1 : cmpP cd x.toInt y.toInt → Go l Z R B n0 Q h cl sl pc' Ls st) (k2 : cmpN cd x.toInt y.toInt → Go l Z R B n0 Q h cl sl pc'' Ls st) : Go l Z R B n0 Q h cl sl pc Ls (.int y :: .int x :: st) :=
  Go.icmp pc' pc'' hd ho hp hp2 (fun q => k1 ((holds_t _ _ _).mp q)) (fun q => k2 ((holds_f _ _ _).mp q))
theorem Go.icmpT (pc' : Nat) {cd : ClassFile.Cond} {x y : Int32} {o : Int} (hd : decode B.2.1 pc = .ok (.if_icmp cd o, 3)) (ho : 0 ≤ (pc : Int) + o) (hp : ((pc : Int) + o).toNat = pc')
    (q : cmpP cd x.toInt y.toInt) (k1 : Go l Z R B n0 Q h cl sl pc' Ls st) : Go l Z R B n0 Q h cl sl pc Ls (.int y :: .int x :: st) :=
  Go.icmp pc' (pc + 3) hd ho hp rfl (fun _ => k1) (fun r => by rw [(holds_t _ _ _).mpr q] at r; cases r)
theorem Go.icmpF (pc'' : Nat) {cd : ClassFile.Cond} {x y : Int32} {o : Int} (hd : decode B.2.1 pc = .ok (.if_icmp cd o, 3)) (hp2 : pc + 3 = pc'')
    (q : cmpN cd x.toInt y.toInt) (k2 : Go l Z R B n0 Q h cl sl pc'' Ls st) : Go l Z R B n0 Q h cl sl pc Ls (.int y :: .int x :: st) := by
  subst hp2; exact Go.lift (fun at_ hx hc q0 => XS.icmpNo at_ hx rfl (hb hc hd) rfl ((holds_f _ _ _).mpr q) q0) k2
theorem Go.ifCB (pc' pc'' : Nat) {cd : ClassFile.Cond} {x : Int32} {o : Int} (hd : decode B.2.1 pc = .ok (.ifCond cd o, 3)) (ho : 0 ≤ (pc : Int) + o) (hp : ((pc : Int) + o).toNat = pc') (hp2 : pc + 3 = pc'')
    (k1 : cmpP cd x.toInt 0 → Go l Z R B n0 Q h cl sl pc' Ls st) (k2 : cmpN cd x.toInt 0 → Go l Z R B n0 Q h cl sl pc'' Ls st) : Go l Z R B n0 Q h cl sl pc Ls (.int x :: st) :=
  Go.ifC pc' pc'' hd ho hp hp2 (fun q => k1 ((holds0_t _ _).mp q)) (fun q => k2 ((holds0_f _ _).mp q))
theorem Go.ifCT (pc' : Nat) {cd : ClassFile.Cond} {x : Int32} {o : Int} (hd : decode B.2.1 pc = .ok (.ifCond cd o, 3)) (ho : 0 ≤ (pc : Int) + o) (hp : ((pc : Int) + o).toNat = pc')
    (q : cmpP cd x.toInt 0) (k1 : Go l Z R B n0 Q h cl sl pc' Ls st) : Go l Z R B n0 Q h cl sl pc Ls (.int x :: st) :=
  Go.ifC pc' (pc + 3) hd ho hp rfl (fun _ => k1) (fun r => by rw [(holds0_t _ _).mpr q] at r; cases r)
theorem Go.ifCF (pc'' : Nat) {cd : ClassFile.Cond} {x : Int32} {o : Int} (hd : decode B.2.1 pc = .ok (.ifCond cd o, 3)) (hp2 : pc + 3 = pc'')
    (q : cmpN cd x.toInt 0) (k2 : Go l Z R B n0 Q h cl sl pc'' Ls st) : Go l Z R B n0 Q h cl sl pc Ls (.int x :: st) := by
  subst hp2; exact Go.lift (fun at_ hx hc q0 => XS.ifNo at_ hx rfl (hb hc hd) rfl ((holds0_f _ _).mpr q) q0) k2
/-! ### constants of the pool -/
theorem Go.ldc2J (pc' : Nat) (v : Int64) {index : Nat} (w : (Cond.constantLong B.1.cls index v).before a0 Z = true) (hd : decode B.2.1 pc = .ok (.ldc2_w index, 3)) (hp : pc + 3 = pc') (k : Go l Z R B n0 Q h cl sl pc' Ls (.long v :: st)) : Go l Z R B n0 Q h cl sl pc Ls st := by
  subst hp
  intro p e s m args below meth c T locs X cx fr eT hn
  obtain ⟨s₂, o, h1, r⟩ := k _ _ _ _ _ _ _ _ _ _ X cx fr eT hn
  exact ⟨s₂, o, X.ldc2J cx.1 cx.2.2.1 (mv cx.2.1 w) rfl (hb cx.2.2.2.1 hd) h1, r⟩
theorem Go.ldc2D (pc' : Nat) (v : UInt64) {index : Nat} (w : (Cond.constantDouble B.1.cls index v).before a0 Z = true) (hd : decode B.2.1 pc = .ok (.ldc2_w index, 3)) (hp : pc + 3 = pc') (k : Go l Z R B n0 Q h cl sl pc' Ls (.double v :: st)) : Go l Z R B n0 Q h cl sl pc Ls st := by
  subst hp
  intro p e s m args below meth c T locs X cx fr eT hn
  obtain ⟨s₂, o, h1, r⟩ := k _ _ _ _ _ _ _ _ _ _ X cx fr eT hn
  exact ⟨s₂, o, X.ldc2DoubleC cx.1 cx.2.2.1 (mv cx.2.1 w) (g := mkF m pc Ls st) rfl (hb cx.2.2.2.1 hd) _ h1, r⟩
theorem Go.ldcI (pc' : Nat) (v : Int32) {index : Nat} (w : (Cond.constant B.1.cls index v).before a0 Z = true) (hd : decode B.2.1 pc = .ok (.ldc index, 2)) (hp : pc + 2 = pc') (k : Go l Z R B n0 Q h cl sl pc' Ls (.int v :: st)) : Go l Z R B n0 Q h cl sl pc Ls st := by
  subst hp
  intro p e s m args below meth c T locs X cx fr eT hn
  obtain ⟨s₂, o, h1, r⟩ := k _ _ _ _ _ _ _ _ _ _ X cx fr eT hn
  exact ⟨s₂, o, X.ldcI cx.1 cx.2.2.1 (mv cx.2.1 w) rfl (hb cx.2.2.2.1 hd) h1, r⟩
/-! ### fields -/
theorem Go.getF (pc' : Nat) {R0 O n d host : String} {index : Nat} {a : Nat} {v : Value} (w : (Cond.fieldLink B.1.cls index R0 n d).before a0 Z = true ∨ (Cond.fieldLinkNest B.1.cls index R0 n d host).before a0 Z = true) (via : Via Z R0 O n d) (F : Fld Z h a O n d v) (hd : decode B.2.1 pc = .ok (.getfield index, 3)) (hp : pc + 3 = pc')
    (k : Go l Z R B n0 Q h cl sl pc' Ls (v :: st)) : Go l Z R B n0 Q h cl sl pc Ls (.ref a :: st) := by
  subst hp
  intro p e s m args below meth c T locs X cx fr eT hn
  obtain ⟨T', X', e', stp⟩ := RoadKit.getF X cx.1 cx.2.1 cx.2.2.1 w via eT F (g := mkF m pc Ls (.ref a :: st)) rfl rfl (hb cx.2.2.2.1 hd)
  obtain ⟨s₂, o, h1, r⟩ := k _ _ _ _ _ _ _ _ _ _ X' cx fr e' hn
  exact ⟨s₂, o, stp _ h1, r⟩
/-- getfield of a field that the class itself declares, by its plain link word -/
theorem Go.getf (pc' : Nat) {O n d : String} {index : Nat} {a : Nat} {v : Value} (w : (Cond.fieldLink B.1.cls index O n d).before a0 Z = true) (F : Fld Z h a O n d v) (hd : decode B.2.1 pc = .ok (.getfield index, 3)) (hp : pc + 3 = pc')
    (k : Go l Z R B n0 Q h cl sl pc' Ls (v :: st)) : Go l Z R B n0 Q h cl sl pc Ls (.ref a :: st) := Go.getF pc' (host := "") (Or.inl w) Via.refl F hd hp k
theorem Go.putF (pc' : Nat) {O n d C : String} {index kk : Nat} {ty : FieldType} {a : Nat} {v old : Value} (w : (Cond.fieldLink B.1.cls index O n d).before a0 Z = true) (F : Fld Z h a O n d old) (E : Exa Z h a C)
    (L : (Cond.lays C O n d).before a0 Z = true ∨ ((Cond.laysFinal C O n d).before a0 Z = true ∧ B.1.cls = O ∧ B.1.name = "<init>")) (wi : (Cond.instantiable C kk).before a0 Z = true)
    (hty : parseFieldDescriptor d = some ty) (hn : narrow ty v = v) (hf : fits ty v = true) (ha : n0 ≤ a) (hd : decode B.2.1 pc = .ok (.putfield index, 3)) (hp : pc + 3 = pc')
    (k : ∀ h', Wr h h' a (Jvm.RoadKit.slotOf Z O n d) v → Go l Z R B n0 Q h' cl sl pc' Ls st) : Go l Z R B n0 Q h cl sl pc Ls (v :: .ref a :: st) := by
  subst hp
  intro p e s m args below meth c T locs X cx fr eT hn'
  obtain ⟨T', h', X', e', W, stp⟩ := RoadKit.putF X cx.1 cx.2.1 (host := "") cx.2.2.1 (Or.inl w) Via.refl eT F E (L.imp id fun q => ⟨q.1, q.2.1, cx.2.2.2.2.2.2.2.1.trans q.2.2⟩) wi hty hn hf (g := mkF m pc Ls (v :: .ref a :: st)) rfl rfl (hb cx.2.2.2.1 hd)
  obtain ⟨s₂, o, h1, r⟩ := k h' W _ _ _ _ _ _ _ _ _ _ X' cx (Fr.snoc X' fr ha) e' (by rw [W.size]; exact hn')
  exact ⟨s₂, o, stp _ h1, r⟩
/-! ### objects -/
theorem Go.new (pc' : Nat) {C : String} {index n : Nat} (w : (Cond.classLink B.1.cls index C).before a0 Z = true) (wi : (Cond.instantiable C n).before a0 Z = true) (wz : (Cond.initialized C).before a0 Z = true) (hd : decode B.2.1 pc = .ok (.new index, 3)) (hp : pc + 3 = pc') (hc : cl + 1 ≤ R.cells) (hl : sl + n ≤ R.slots)
    (k : ∀ h' a, Ext h h' → h.size ≤ a → a < h'.size → n0 ≤ a → Exa Z h' a C → (∀ {O nm d : String} {ty : FieldType}, Laid Z a0 C O nm d → parseFieldDescriptor d = some ty → Fld Z h' a O nm d (defaultValue ty)) → Go l Z R B n0 Q h' (cl + 1) (sl + n) pc' Ls (.ref a :: st)) : Go l Z R B n0 Q h cl sl pc Ls st := by
  subst hp
  intro p e s m args below meth c T locs X cx fr eT hn
  obtain ⟨T', h', X', e', E, A, D, -, stp⟩ := newO X cx.1 cx.2.1 cx.2.2.1 w wi wz eT (g := mkF m pc Ls st) rfl (hb cx.2.2.2.1 hd) hc hl
  obtain ⟨s₂, o, h1, r⟩ := k h' h.size E (Nat.le_refl _) A.lt hn A D _ _ _ _ _ _ _ _ _ _ X' cx fr e' (Nat.le_trans hn E.1)
  exact ⟨s₂, o, stp _ h1, r⟩
/-- Object.<init> -/
theorem Go.initO (pc' : Nat) {index : Nat} {a : Nat} (w1 : (Cond.methodLink B.1.cls index Lib.objectInit).before a0 Z = true) (w2 : (Cond.instanceMethod Lib.objectInit).before a0 Z = true) (w3 : (Cond.code Lib.objectInit ⟨#[0xb1]⟩ 1 none).before a0 Z = true)
    (hsz : Ls.size = B.2.2.1) (hd : decode B.2.1 pc = .ok (.invokespecial index, 3)) (hp : pc + 3 = pc') (hfr : 1 ≤ R.frames) (hlo : (st.map fun v => v.category).sum + 12 ≤ R.locals) (k : Go l Z R B n0 Q h cl sl pc' Ls st) : Go l Z R B n0 Q h cl sl pc Ls (.ref a :: st) := by
  subst hp
  intro p e s m args below meth c T locs X cx fr eT hn
  obtain ⟨T', X', e', stp⟩ := RoadKit.initO X cx.1 cx.2.1 cx.2.2.1 w1 w2 w3 eT (g := mkF m pc Ls (.ref a :: st)) rfl (hsz.trans cx.2.2.2.2.1.symm) rfl (hb cx.2.2.2.1 hd) hfr (W := (st.map fun v => v.category).sum) (by show 2 * 0 + _ ≤ _; omega) hlo
  obtain ⟨s₂, o, h1, r⟩ := k _ _ _ _ _ _ _ _ _ _ X' cx fr e' hn
  exact ⟨s₂, o, stp _ h1, r⟩
/-! ### arrays -/
/-- the array at a holds just these values -/
def ArV (Z : State) (h : Heap) (a : Nat) (ty : FieldType) (vs : List Value) : Prop := ∃ c : Cell, Arr Z h a c ty ∧ c.slots.toList = vs ∧ vs.length < 2147483648
abbrev ArD (Z : State) (h : Heap) (a : Nat) (ds : List UInt64) : Prop := ArV Z h a .double (ds.map Value.double)
abbrev ArI (Z : State) (h : Heap) (a : Nat) (ds : List Int32) : Prop := ArV Z h a .int (ds.map Value.int)
abbrev ArJ (Z : State) (h : Heap) (a : Nat) (ds : List Int64) : Prop := ArV Z h a .long (ds.map Value.long)
theorem ArV.lt {a : Nat} {ty : FieldType} {vs : List Value} (A : ArV Z h a ty vs) : a < h.size := by obtain ⟨c, A, -⟩ := A; exact A.lt
theorem ArV.len {a : Nat} {ty : FieldType} {vs : List Value} (A : ArV Z h a ty vs) : vs.length < 2147483648 := by obtain ⟨c, -, -, q⟩ := A; exact q
theorem ArV.ext {h' : Heap} {a : Nat} {ty : FieldType} {vs : List Value} (A : ArV Z h a ty vs) (E : Ext h h') : ArV Z h' a ty vs := by obtain ⟨c, A, q⟩ := A; exact ⟨c, A.ext E, q⟩
theorem ArV.other {h' : Heap} {a b : Nat} {sl : Nat} {v : Value} {ty : FieldType} {vs : List Value} (A : ArV Z h b ty vs) (W : Wr h h' a sl v) (q : b ≠ a) : ArV Z h' b ty vs := by obtain ⟨c, A, r⟩ := A; exact ⟨c, A.other W q, r⟩
theorem ArV.keep {h' : Heap} {a : Nat} {ws : List Nat} {ty : FieldType} {vs : List Value} (A : ArV Z h a ty vs) (K : Keep h h' ws) (q : a ∉ ws) : ArV Z h' a ty vs := by obtain ⟨c, A, r⟩ := A; exact ⟨c, ⟨K.2.1 a c A.1 q, A.2⟩, r⟩
theorem idx_ok {j : Int32} {i n : Nat} (hj : j.toInt = (i : Int)) (hi : i < n) : ¬ (j < 0 ∨ n ≤ j.toNatClampNeg) ∧ j.toNatClampNeg = i := by
  have h1 : j.toNatClampNeg = i := by simp only [Int32.toNatClampNeg]; omega
  refine ⟨fun q => ?_, h1⟩
  rcases q with q | q
  · simp only [Int32.lt_iff_toInt_lt, Int32.reduceToInt] at q; omega
  · omega
theorem ArV.get {a : Nat} {ty : FieldType} {vs : List Value} {j : Int32} {i : Nat} {v : Value} (A : ArV Z h a ty vs) (hj : j.toInt = (i : Int)) (hi : vs[i]? = some v) : ∃ c : Cell, Arr Z h a c ty ∧ ¬ (j < 0 ∨ c.slots.size ≤ j.toNatClampNeg) ∧ c.slots[j.toNatClampNeg]? = some v := by
  obtain ⟨c, A, e, -⟩ := A
  have hlt : i < c.slots.size := by
    have := (List.getElem?_eq_some_iff.mp hi).1
    rw [← e] at this; simpa using this
  obtain ⟨q1, q2⟩ := idx_ok hj hlt
  refine ⟨c, A, q1, ?_⟩
  rw [q2, ← hi, ← e, Array.getElem?_toList]
theorem ArV.upd {h' : Heap} {a : Nat} {ty : FieldType} {vs : List Value} {j : Int32} {i : Nat} {v : Value} (A : ArV Z h a ty vs) (hj : j.toInt = (i : Int)) (hi : i < vs.length) (W : Wr h h' a j.toNatClampNeg v) : ArV Z h' a ty (vs.set i v) := by
  obtain ⟨c, A, e, hlen⟩ := A
  have hlt : i < c.slots.size := by rw [← e] at hi; simpa using hi
  obtain ⟨q1, q2⟩ := idx_ok hj hlt
  refine ⟨_, A.same W, ?_, by simpa using hlen⟩
  rw [q2, ← e]
  simp [Cell.setSlot, Array.toList_setIfInBounds]
theorem Wr.keep1 {h' : Heap} {a : Nat} {sl : Nat} {v : Value} (W : Wr h h' a sl v) : Keep h h' [a] := Keep.of_wr W
theorem Go.daload (pc' : Nat) {a : Nat} {ds : List UInt64} {j : Int32} {i : Nat} {x : UInt64} (A : ArD Z h a ds) (hj : j.toInt = (i : Int)) (hi : ds[i]? = some x) (hd : decode B.2.1 pc = .ok (.daload, 1)) (hp : pc + 1 = pc')
    (k : Go l Z R B n0 Q h cl sl pc' Ls (.double x :: st)) : Go l Z R B n0 Q h cl sl pc Ls (.int j :: .ref a :: st) := by
  subst hp
  intro p e s m args below meth c T locs X cx fr eT hn
  obtain ⟨s₂, o, h1, r⟩ := k _ _ _ _ _ _ _ _ _ _ X cx fr eT hn
  obtain ⟨c0, A0, q1, q2⟩ := A.get hj (v := .double x) (by rw [List.getElem?_map, hi]; rfl)
  exact ⟨s₂, o, X.daload cx.1 (by rw [eT]; exact A0.1) (State.isArrayOf_alike cx.2.1.alike A0.2.1) A0.2.2 q1 q2 (g := mkF m pc Ls (.int j :: .ref a :: st)) rfl rfl (hb cx.2.2.2.1 hd) _ h1, r⟩
theorem Go.iaload (pc' : Nat) {a : Nat} {ds : List Int32} {j : Int32} {i : Nat} {x : Int32} (A : ArI Z h a ds) (hj : j.toInt = (i : Int)) (hi : ds[i]? = some x) (hd : decode B.2.1 pc = .ok (.iaload, 1)) (hp : pc + 1 = pc')
    (k : Go l Z R B n0 Q h cl sl pc' Ls (.int x :: st)) : Go l Z R B n0 Q h cl sl pc Ls (.int j :: .ref a :: st) := by
  subst hp
  intro p e s m args below meth c T locs X cx fr eT hn
  obtain ⟨s₂, o, h1, r⟩ := k _ _ _ _ _ _ _ _ _ _ X cx fr eT hn
  obtain ⟨c0, A0, q1, q2⟩ := A.get hj (v := .int x) (by rw [List.getElem?_map, hi]; rfl)
  exact ⟨s₂, o, X.iaload cx.1 (by rw [eT]; exact A0.1) (State.isArrayOf_alike cx.2.1.alike A0.2.1) A0.2.2 q1 q2 (g := mkF m pc Ls (.int j :: .ref a :: st)) rfl rfl (hb cx.2.2.2.1 hd) _ h1, r⟩
theorem Go.laload (pc' : Nat) {a : Nat} {ds : List Int64} {j : Int32} {i : Nat} {x : Int64} (A : ArJ Z h a ds) (hj : j.toInt = (i : Int)) (hi : ds[i]? = some x) (hd : decode B.2.1 pc = .ok (.laload, 1)) (hp : pc + 1 = pc')
    (k : Go l Z R B n0 Q h cl sl pc' Ls (.long x :: st)) : Go l Z R B n0 Q h cl sl pc Ls (.int j :: .ref a :: st) := by
  subst hp
  intro p e s m args below meth c T locs X cx fr eT hn
  obtain ⟨s₂, o, h1, r⟩ := k _ _ _ _ _ _ _ _ _ _ X cx fr eT hn
  obtain ⟨c0, A0, q1, q2⟩ := A.get hj (v := .long x) (by rw [List.getElem?_map, hi]; rfl)
  exact ⟨s₂, o, X.laload cx.1 (by rw [eT]; exact A0.1) (State.isArrayOf_alike cx.2.1.alike A0.2.1) A0.2.2 q1 q2 (g := mkF m pc Ls (.int j :: .ref a :: st)) rfl rfl (hb cx.2.2.2.1 hd) _ h1, r⟩
theorem Go.alen (pc' : Nat) (v : Int32) {a : Nat} {ty : FieldType} {vs : List Value} (A : ArV Z h a ty vs) (hv : v.toInt = (vs.length : Int)) (hd : decode B.2.1 pc = .ok (.arraylength, 1)) (hp : pc + 1 = pc')
    (k : Go l Z R B n0 Q h cl sl pc' Ls (.int v :: st)) : Go l Z R B n0 Q h cl sl pc Ls (.ref a :: st) := by
  subst hp
  intro p e s m args below meth c T locs X cx fr eT hn
  obtain ⟨s₂, o, h1, r⟩ := k _ _ _ _ _ _ _ _ _ _ X cx fr eT hn
  obtain ⟨c0, A0, q1, q2⟩ := A
  have hsz : c0.slots.size = vs.length := by rw [← q1]; simp
  have hv' : c0.slots.size.toInt32 = v := by
    apply Int32.toInt_inj.mp
    rw [len_toInt (by omega), hv, hsz]
  exact ⟨s₂, o, X.arraylength cx.1 (by rw [eT]; exact A0.1) (State.isArrayOf_alike cx.2.1.alike A0.2.1) (g := mkF m pc Ls (.ref a :: st)) rfl rfl (hb cx.2.2.2.1 hd) _ (by rw [hv']; exact h1), r⟩
theorem Go.dastore (pc' : Nat) {a : Nat} {ds : List UInt64} {j : Int32} {i : Nat} {x : UInt64} (A : ArD Z h a ds) (hj : j.toInt = (i : Int)) (hi : i < ds.length) (ha : n0 ≤ a) (hd : decode B.2.1 pc = .ok (.dastore, 1)) (hp : pc + 1 = pc')
    (k : ∀ h', Keep h h' [a] → ArD Z h' a (ds.set i x) → Go l Z R B n0 Q h' cl sl pc' Ls st) : Go l Z R B n0 Q h cl sl pc Ls (.double x :: .int j :: .ref a :: st) := by
  subst hp
  intro p e s m args below meth c T locs X cx fr eT hn
  obtain ⟨c0, A0, q0, q⟩ := id A
  have hlt : i < c0.slots.size := by have : i < (c0.slots.toList).length := by rw [q0]; simpa using hi
                                     simpa using this
  obtain ⟨T', h', X', e', W, stp⟩ := stD X cx.1 cx.2.1 eT A0 (idx_ok hj hlt).1 (g := mkF m pc Ls (.double x :: .int j :: .ref a :: st)) rfl rfl (hb cx.2.2.2.1 hd)
  have A' := A.upd hj (by simpa using hi) W
  rw [← List.map_set] at A'
  obtain ⟨s₂, o, h1, r⟩ := k h' (Keep.of_wr W) A' _ _ _ _ _ _ _ _ _ _ X' cx (Fr.snoc X' fr ha) e' (by rw [W.size]; exact hn)
  exact ⟨s₂, o, stp _ h1, r⟩
theorem Go.iastore (pc' : Nat) {a : Nat} {ds : List Int32} {j : Int32} {i : Nat} {x : Int32} (A : ArI Z h a ds) (hj : j.toInt = (i : Int)) (hi : i < ds.length) (ha : n0 ≤ a) (hd : decode B.2.1 pc = .ok (.iastore, 1)) (hp : pc + 1 = pc')
    (k : ∀ h', Keep h h' [a] → ArI Z h' a (ds.set i x) → Go l Z R B n0 Q h' cl sl pc' Ls st) : Go l Z R B n0 Q h cl sl pc Ls (.int x :: .int j :: .ref a :: st) := by
  subst hp
  intro p e s m args below meth c T locs X cx fr eT hn
  obtain ⟨c0, A0, q0, q⟩ := id A
  have hlt : i < c0.slots.size := by have : i < (c0.slots.toList).length := by rw [q0]; simpa using hi
                                     simpa using this
  obtain ⟨T', h', X', e', W, stp⟩ := stI X cx.1 cx.2.1 eT A0 (idx_ok hj hlt).1 (g := mkF m pc Ls (.int x :: .int j :: .ref a :: st)) rfl rfl (hb cx.2.2.2.1 hd)
  have A' := A.upd hj (by simpa using hi) W
  rw [← List.map_set] at A'
  obtain ⟨s₂, o, h1, r⟩ := k h' (Keep.of_wr W) A' _ _ _ _ _ _ _ _ _ _ X' cx (Fr.snoc X' fr ha) e' (by rw [W.size]; exact hn)
  exact ⟨s₂, o, stp _ h1, r⟩
theorem Go.lastore (pc' : Nat) {a : Nat} {ds : List Int64} {j : Int32} {i : Nat} {x : Int64} (A : ArJ Z h a ds) (hj : j.toInt = (i : Int)) (hi : i < ds.length) (ha : n0 ≤ a) (hd : decode B.2.1 pc = .ok (.lastore, 1)) (hp : pc + 1 = pc')
    (k : ∀ h', Keep h h' [a] → ArJ Z h' a (ds.set i x) → Go l Z R B n0 Q h' cl sl pc' Ls st) : Go l Z R B n0 Q h cl sl pc Ls (.long x :: .int j :: .ref a :: st) := by
  subst hp
  intro p e s m args below meth c T locs X cx fr eT hn
  obtain ⟨c0, A0, q0, q⟩ := id A
  have hlt : i < c0.slots.size := by have : i < (c0.slots.toList).length := by rw [q0]; simpa using hi
                                     simpa using this
  obtain ⟨T', h', X', e', W, stp⟩ := stJ X cx.1 cx.2.1 eT A0 (idx_ok hj hlt).1 (g := mkF m pc Ls (.long x :: .int j :: .ref a :: st)) rfl rfl (hb cx.2.2.2.1 hd)
  have A' := A.upd hj (by simpa using hi) W
  rw [← List.map_set] at A'
  obtain ⟨s₂, o, h1, r⟩ := k h' (Keep.of_wr W) A' _ _ _ _ _ _ _ _ _ _ X' cx (Fr.snoc X' fr ha) e' (by rw [W.size]; exact hn)
  exact ⟨s₂, o, stp _ h1, r⟩
theorem Go.newarr (pc' : Nat) (cap : Nat) {aty : ArrayType} {n : Int32} {i : Nat} (w : (Cond.arrayClass (newarray.typeOf aty)).before a0 Z = true) (hi : n.toInt = (i : Int)) (hcap : i ≤ cap) (hbig : cap * 8 ≤ 536870912) (hd : decode B.2.1 pc = .ok (.newarray aty, 2)) (hp : pc + 2 = pc') (hc : cl + 1 ≤ R.cells) (hl : sl + cap ≤ R.slots)
    (k : ∀ h' a, Ext h h' → h.size ≤ a → n0 ≤ a → ArV Z h' a (newarray.typeOf aty) (List.replicate i (defaultValue (newarray.typeOf aty))) → Go l Z R B n0 Q h' (cl + 1) (sl + cap) pc' Ls (.ref a :: st)) : Go l Z R B n0 Q h cl sl pc Ls (.int n :: st) := by
  subst hp
  intro p e s m args below meth c T locs X cx fr eT hn
  have hnn : ¬ n < 0 := by simp only [Int32.lt_iff_toInt_lt, Int32.reduceToInt]; omega
  have hcl : n.toNatClampNeg = i := by simp only [Int32.toNatClampNeg]; omega
  obtain ⟨T', h', cA, X', e', E, A, stp⟩ := newP X cx.1 cx.2.1 w eT (g := mkF m pc Ls (.int n :: st)) rfl (hb cx.2.2.2.1 hd) rfl hnn (cap := cap) (by omega) hbig hc hl
  have A' : ArV Z h' h.size (newarray.typeOf aty) (List.replicate i (defaultValue (newarray.typeOf aty))) := ⟨_, A, by simp [newA, hcl], by
    have := Int32.toInt_lt n; simp only [List.length_replicate]; omega⟩
  obtain ⟨s₂, o, h1, r⟩ := k h' h.size E (Nat.le_refl _) hn A' _ _ _ _ _ _ _ _ _ _ X' cx fr e' (Nat.le_trans hn E.1)
  exact ⟨s₂, o, stp _ h1, r⟩
theorem Go.newD (pc' : Nat) (cap : Nat) {n : Int32} {i : Nat} (w : (Cond.arrayClass .double).before a0 Z = true) (hi : n.toInt = (i : Int)) (hcap : i ≤ cap) (hbig : cap * 8 ≤ 536870912) (hd : decode B.2.1 pc = .ok (.newarray .double, 2)) (hp : pc + 2 = pc') (hc : cl + 1 ≤ R.cells) (hl : sl + cap ≤ R.slots)
    (k : ∀ h' a, Ext h h' → h.size ≤ a → n0 ≤ a → ArD Z h' a (List.replicate i 0) → Go l Z R B n0 Q h' (cl + 1) (sl + cap) pc' Ls (.ref a :: st)) : Go l Z R B n0 Q h cl sl pc Ls (.int n :: st) :=
  Go.newarr pc' cap (aty := .double) w hi hcap hbig hd hp hc hl fun h' a E q1 q2 A => k h' a E q1 q2 (by show ArV _ _ _ _ _; rw [List.map_replicate]; exact A)
theorem Go.newI (pc' : Nat) (cap : Nat) {n : Int32} {i : Nat} (w : (Cond.arrayClass .int).before a0 Z = true) (hi : n.toInt = (i : Int)) (hcap : i ≤ cap) (hbig : cap * 8 ≤ 536870912) (hd : decode B.2.1 pc = .ok (.newarray .int, 2)) (hp : pc + 2 = pc') (hc : cl + 1 ≤ R.cells) (hl : sl + cap ≤ R.slots)
    (k : ∀ h' a, Ext h h' → h.size ≤ a → n0 ≤ a → ArI Z h' a (List.replicate i 0) → Go l Z R B n0 Q h' (cl + 1) (sl + cap) pc' Ls (.ref a :: st)) : Go l Z R B n0 Q h cl sl pc Ls (.int n :: st) :=
  Go.newarr pc' cap (aty := .int) w hi hcap hbig hd hp hc hl fun h' a E q1 q2 A => k h' a E q1 q2 (by show ArV _ _ _ _ _; rw [List.map_replicate]; exact A)
theorem Go.newJ (pc' : Nat) (cap : Nat) {n : Int32} {i : Nat} (w : (Cond.arrayClass .long).before a0 Z = true) (hi : n.toInt = (i : Int)) (hcap : i ≤ cap) (hbig : cap * 8 ≤ 536870912) (hd : decode B.2.1 pc = .ok (.newarray .long, 2)) (hp : pc + 2 = pc') (hc : cl + 1 ≤ R.cells) (hl : sl + cap ≤ R.slots)
    (k : ∀ h' a, Ext h h' → h.size ≤ a → n0 ≤ a → ArJ Z h' a (List.replicate i 0) → Go l Z R B n0 Q h' (cl + 1) (sl + cap) pc' Ls (.ref a :: st)) : Go l Z R B n0 Q h cl sl pc Ls (.int n :: st) :=
  Go.newarr pc' cap (aty := .long) w hi hcap hbig hd hp hc hl fun h' a E q1 q2 A => k h' a E q1 q2 (by show ArV _ _ _ _ _; rw [List.map_replicate]; exact A)
/-! ### returns -/
theorem Go.out {w : Option Value} (hv : B.2.2.2 = none → w = none) (q : Q w h) (hc : cl ≤ R.cells) (hs : sl ≤ R.slots)
    (f : ∀ {p : Program} {e : Env} {s : State} {m : MethodId} {args : Array Value} {below : List Frame} {meth : Method} {c : Code} {T : State} {locs : List Loc} {fs : List Frame}, Stand p l e R s m args below meth c T locs cl sl → p.tables.exec = Jvm.exec → c.code = B.2.1 → meth.sig.returnType = B.2.2.2 →
      (∀ (f : JFrame) (acts : List Action), f.method = m → f.locked = none → f.entered = [] → (doReturn e (T.setTop f) acts w).1 = T.setFrames fs) → Steps p.tables e below (T.setTop (mkF m pc Ls st)) (T.setFrames fs)) : Go l Z R B n0 Q h cl sl pc Ls st := by
  intro p e s m args below meth c T locs X cx fr eT hn
  obtain ⟨fs, hr, hrun, hended, hW, hsame⟩ := X.leave (v := w) (fun q0 => hv (cx.2.2.2.2.2.1.symm.trans q0)) cx.2.2.2.2.2.2.1
  refine ⟨_, _, f X cx.1 cx.2.2.2.1 cx.2.2.2.2.2.1 hr, hrun, hended, w, locs, rfl, ?_, ⟨_, rfl⟩, hW, hsame.mono hc hs⟩
  have e2 : (T.setFrames fs).heap = h := eT
  rw [e2]
  exact ⟨q, hn, fr⟩
theorem Go.ret (hd : decode B.2.1 pc = .ok (.return_, 1)) (hr : B.2.2.2 = none) (hc : cl ≤ R.cells) (hs : sl ≤ R.slots) (q : Q none h) : Go l Z R B n0 Q h cl sl pc Ls [] :=
  Go.out (w := none) (fun _ => rfl) q hc hs fun X hx hcd hrt hl => X.returnOut hx (hrt.trans hr) (hb hcd hd) hl
theorem Go.iret {x : Int32} (hd : decode B.2.1 pc = .ok (.ireturn, 1)) (hr : B.2.2.2 = some .int) (hc : cl ≤ R.cells) (hs : sl ≤ R.slots) (q : Q (some (.int x)) h) : Go l Z R B n0 Q h cl sl pc Ls (.int x :: st) :=
  Go.out (w := some (.int x)) (fun q0 => by rw [hr] at q0; cases q0) q hc hs fun X hx hcd hrt hl => retOut X hx (hrt.trans hr) rfl (Or.inl ⟨rfl, Or.inl rfl, x, rfl⟩) (hb hcd hd) hl
theorem Go.zret {x : Int32} (hd : decode B.2.1 pc = .ok (.ireturn, 1)) (hr : B.2.2.2 = some .boolean) (hx01 : x = 0 ∨ x = 1) (hc : cl ≤ R.cells) (hs : sl ≤ R.slots) (q : Q (some (.int x)) h) : Go l Z R B n0 Q h cl sl pc Ls (.int x :: st) :=
  Go.out (w := some (.int x)) (fun q0 => by rw [hr] at q0; cases q0) q hc hs fun X hx hcd hrt hl => retOut X hx (hrt.trans hr) (by rcases hx01 with rfl | rfl <;> rfl) (Or.inl ⟨rfl, Or.inr (Or.inl rfl), x, rfl⟩) (hb hcd hd) hl
theorem Go.lret {x : Int64} (hd : decode B.2.1 pc = .ok (.lreturn, 1)) (hr : B.2.2.2 = some .long) (hc : cl ≤ R.cells) (hs : sl ≤ R.slots) (q : Q (some (.long x)) h) : Go l Z R B n0 Q h cl sl pc Ls (.long x :: st) :=
  Go.out (w := some (.long x)) (fun q0 => by rw [hr] at q0; cases q0) q hc hs fun X hx hcd hrt hl => retOut X hx (hrt.trans hr) rfl (Or.inr (Or.inl ⟨rfl, rfl, x, rfl⟩)) (hb hcd hd) hl
theorem Go.dret {x : UInt64} (hd : decode B.2.1 pc = .ok (.dreturn, 1)) (hr : B.2.2.2 = some .double) (hc : cl ≤ R.cells) (hs : sl ≤ R.slots) (q : Q (some (.double x)) h) : Go l Z R B n0 Q h cl sl pc Ls (.double x :: st) :=
  Go.out (w := some (.double x)) (fun q0 => by rw [hr] at q0; cases q0) q hc hs fun X hx hcd hrt hl => retOut X hx (hrt.trans hr) rfl (Or.inr (Or.inr (Or.inl ⟨rfl, rfl, x, rfl⟩))) (hb hcd hd) hl
theorem Go.aret {x : Value} {t : FieldType} (hd : decode B.2.1 pc = .ok (.areturn, 1)) (hr : B.2.2.2 = some t) (ht : t.isReference = true) (hv : x.isRef = true) (hc : cl ≤ R.cells) (hs : sl ≤ R.slots) (q : Q (some x) h) : Go l Z R B n0 Q h cl sl pc Ls (x :: st) :=
  Go.out (w := some x) (fun q0 => by rw [hr] at q0; cases q0) q hc hs fun X hx hcd hrt hl => retOut X hx (hrt.trans hr) (by cases t <;> first | rfl | cases ht) (Or.inr (Or.inr (Or.inr (Or.inr ⟨rfl, ht, hv⟩)))) (hb hcd hd) hl
/-! ### calls -/
/-- a callee's contract pays a call, under the narrow word on the tables -/
theorem backH {p : Program} {e : Env} {s : State} {args : Array Value} {below : List Frame} {y : MethodName} {bytes : ByteArray} {maxL : Nat} {ret : Option FieldType} {rm : Room} {len W : Nat} {as' : Array Value} {P : Option Value → Heap → List Loc → Prop}
    (hM : MetFree l y (head1 [Cond.code y bytes maxL ret] rm) (fun a U => a = as' ∧ Z.WarmedH U.vm ∧ U.heap = h) (fun _ _ _ _ _ => True) (fun _ U o U' => ∃ v L, o = .returned v ∧ P v U'.heap L ∧ FrameEnd U o U' L rm.cells rm.slots))
    (hZ : Z.WarmedH s.vm) (wc : (Cond.code y bytes maxL ret).before a0 Z = true) (wz : (Cond.initialized y.cls).before a0 Z = true) (hf : rm.frames + 1 ≤ R.frames) (hl : W + (maxL + 11) + rm.locals ≤ R.locals) :
    Back l R p e below s args y len W (fun A a => a = as' ∧ A.U.heap = h ∧ A.cells + rm.cells ≤ R.cells ∧ A.slots + rm.slots ≤ R.slots)
      (fun A _ v B => ∃ L, P v B.U.heap L ∧ B.locs = A.locs ++ L ∧ B.cells = A.cells + rm.cells ∧ B.slots = A.slots + rm.slots) := by
  refine Back.of_free (bytes := bytes) (maxL := maxL) (ret := ret) (E := fun _ _ o t L k n => k = rm.cells ∧ n = rm.slots ∧ ∃ v, o = .returned v ∧ P v t.heap L) hM hf hl ?_ ?_ ?_ ?_ ?_
  · intro m meth c A a Y hp
    have hU : Z.Warmed39 A.U.vm := (State.WarmedH.trans hZ Y.warmed).wide
    refine ⟨?_, mv hU wc, mv hU wz, hp.2.2.1, hp.2.2.2⟩
    show (Cond.and _ .tt).before a A.U = true
    rw [Cond.before_and, mv hU wc]; rfl
  · intro m meth c A a g mk Y hp
    exact ⟨hp.1, State.WarmedH.trans hZ Y.warmed, hp.2.1⟩
  · intros; trivial
  · rintro _ _ _ _ ⟨v, L, h1, h2, h3⟩
    exact ⟨L, _, _, h3, rfl, rfl, v, h1, h2⟩
  · rintro m meth c A a g mk v t L k n Y hp _ _ ⟨e1, e2, v', e3, e4⟩
    cases e3; subst e1 e2; exact ⟨L, e4, rfl, rfl, rfl⟩
/-- a body's walk from its entry is its contract -/
theorem Go.met {y : MethodName} {bytes : ByteArray} {maxL : Nat} {ret : Option FieldType} {rm : Room} {as' : Array Value} {Ls' : Array Slot} {ws : List Jvm.Cond} (pn : plainName y.cls = true) (hn : n0 ≤ h.size) (ef : ∀ m, entryFrame m as' maxL = mkF m 0 Ls' [])
    (k : Go l Z rm (y, bytes, maxL, ret) n0 Q h 0 0 0 Ls' []) :
    MetFree l y (head1 (Jvm.Cond.code y bytes maxL ret :: ws) rm) (fun a U => a = as' ∧ Z.WarmedH U.vm ∧ U.heap = h) (fun _ _ _ _ _ => True) (fun _ U o U' => ∃ v L, o = .returned v ∧ (Q v U'.heap ∧ n0 ≤ U'.heap.size ∧ Fr n0 L) ∧ FrameEnd U o U' L rm.cells rm.slots) := by
  refine MetFree.of_bodySF (plainFor_of_name pn) hisR ?_
  intro p e s m args below meth c s₁ Bd hml0 hP hK
  obtain ⟨rfl, hZ, hh⟩ := hP
  have e0 : s₁.heap = h := by rw [← hh, Bd.state]; rfl
  obtain ⟨s₂, o, h1, r⟩ := k _ _ _ _ _ _ _ _ _ _ (Stand.of_body Bd) ⟨Bd.exec, hZ.wide, findClass_of_methodNamed Bd.named, Bd.bytes, hml0, Bd.returns, Bd.notSynchronized, (name_of_methodNamed Bd.named Bd.method).1, hZ, Bd.named⟩ (Fr.nil n0) e0 hn
  exact ⟨s₂, o, castTop (ef m) h1, r⟩
theorem Go.callV (pc' : Nat) {index : Nat} {y : MethodName} {bytes : ByteArray} {maxL : Nat} {ret : Option FieldType} {rm : Room} {Q' : Option Value → Heap → Prop} {Ls' : Array Slot} {a : Nat} (argsL rest : List Value) {ps : List FieldType} {rt : Option FieldType}
    (w1 : (Cond.methodLink B.1.cls index y).before a0 Z = true) (w2 : (Cond.declares y).before a0 Z = true) (w3 : (Cond.selects y.cls y y).before a0 Z = true) (w4 : (Cond.instanceMethod y).before a0 Z = true) (w5 : (Cond.code y bytes maxL ret).before a0 Z = true) (w6 : (Cond.initialized y.cls).before a0 Z = true)
    (hy : y.cls ≠ "java/lang/invoke/MethodHandle" ∧ y.cls ≠ "java/lang/invoke/VarHandle") (pn : plainName y.cls = true) (pd : parseMethodDescriptor y.desc = some ⟨ps, rt⟩) (hlen : argsL.length = ps.length)
    (E : Exa Z h a y.cls) (ef : ∀ m, entryFrame m (.ref a :: argsL).toArray maxL = mkF m 0 Ls' [])
    (callee : Go l Z rm (y, bytes, maxL, ret) n0 Q' h 0 0 0 Ls' [])
    (hst : st = argsL.reverse ++ .ref a :: rest) (hsz : Ls.size = B.2.2.1) (hfr : rm.frames + 1 ≤ R.frames) (hlo : (rest.map fun v => v.category).sum + (maxL + 11) + rm.locals ≤ R.locals) (hc : cl + rm.cells ≤ R.cells) (hs : sl + rm.slots ≤ R.slots)
    (hd : decode B.2.1 pc = .ok (.invokevirtual index, 3)) (hp : pc + 3 = pc')
    (k : ∀ v h', Q' v h' → Go l Z R B n0 Q h' (cl + rm.cells) (sl + rm.slots) pc' Ls (v.toList ++ rest)) : Go l Z R B n0 Q h cl sl pc Ls st := by
  subst hp
  intro p e s m args below meth c T locs X cx fr eT hn
  obtain ⟨cq, kq, qa, qb, qc⟩ := isOf cx.2.1 eT E
  obtain ⟨v, _, ⟨T', L', k', n'⟩, -, X', ⟨Lc, hQ, l', y', z'⟩, stp⟩ := X.virtualBack cx.1 (y := y) (z := y) cx.2.2.1 (mvT cx.2.1 w1) (mvT cx.2.1 w2) (notFace_of_selects (args := #[]) (mvT cx.2.1 w3)) (mvT cx.2.1 w3) (mvT cx.2.1 w4) hy
    (backH (W := (rest.map fun v => v.category).sum) (P := fun v h' L => Q' v h' ∧ n0 ≤ h'.size ∧ Fr n0 L) (callee.met (ws := []) pn hn ef) cx.2.2.2.2.2.2.2.2.1 w5 w6 hfr hlo) qa qc (g := mkF m pc Ls st) rfl (hsz.trans cx.2.2.2.2.1.symm) (Steps.refl _) (argsL := argsL) (rest := rest) (lenOf pd hlen) hst (by show 2 * 0 + _ ≤ _; omega) (hb cx.2.2.2.1 hd) (fun _ _ => ⟨rfl, eT, hc, hs⟩)
  dsimp only [Pt.U, Pt.locs, Pt.cells, Pt.slots] at X' l' y' z' stp hQ
  subst l' y' z'
  obtain ⟨hQ1, hQ2, hQ3⟩ := hQ
  obtain ⟨s₂, o, h1, r⟩ := k v T'.heap hQ1 _ _ _ _ _ _ _ _ _ _ X' cx (Fr.app fr hQ3) rfl hQ2
  exact ⟨s₂, o, stp.trans h1, r⟩
theorem Go.callN (pc' : Nat) {index : Nat} {y : MethodName} {bytes : ByteArray} {maxL : Nat} {rm : Room} {Q' : Option Value → Heap → Prop} {Ls' : Array Slot} {a : Nat} (argsL rest : List Value) {ps : List FieldType} {rt : Option FieldType} (hy1 : y.name = "<init>")
    (w1 : (Cond.methodLink B.1.cls index y).before a0 Z = true) (w4 : (Cond.instanceMethod y).before a0 Z = true) (w5 : (Cond.code y bytes maxL none).before a0 Z = true) (w6 : (Cond.initialized y.cls).before a0 Z = true)
    (hy : y.cls ≠ "java/lang/invoke/MethodHandle" ∧ y.cls ≠ "java/lang/invoke/VarHandle") (pn : plainName y.cls = true) (pd : parseMethodDescriptor y.desc = some ⟨ps, rt⟩) (hlen : argsL.length = ps.length)
    (ef : ∀ m, entryFrame m (.ref a :: argsL).toArray maxL = mkF m 0 Ls' [])
    (callee : Go l Z rm (y, bytes, maxL, none) n0 Q' h 0 0 0 Ls' [])
    (hst : st = argsL.reverse ++ .ref a :: rest) (hsz : Ls.size = B.2.2.1) (hfr : rm.frames + 1 ≤ R.frames) (hlo : (rest.map fun v => v.category).sum + (maxL + 11) + rm.locals ≤ R.locals) (hc : cl + rm.cells ≤ R.cells) (hs : sl + rm.slots ≤ R.slots)
    (hd : decode B.2.1 pc = .ok (.invokespecial index, 3)) (hp : pc + 3 = pc')
    (k : ∀ v h', Q' v h' → Go l Z R B n0 Q h' (cl + rm.cells) (sl + rm.slots) pc' Ls (v.toList ++ rest)) : Go l Z R B n0 Q h cl sl pc Ls st := by
  subst hp
  intro p e s m args below meth c T locs X cx fr eT hn
  obtain ⟨v, _, ⟨T', L', k', n'⟩, -, X', ⟨Lc, hQ, l', y', z'⟩, stp⟩ := X.specialBack cx.1 (y := y) hy1 cx.2.2.1 (mvT cx.2.1 w1) (mvT cx.2.1 w4) (mvT cx.2.1 w5) hy
    (backH (W := (rest.map fun v => v.category).sum) (P := fun v h' L => Q' v h' ∧ n0 ≤ h'.size ∧ Fr n0 L) (callee.met (ws := []) pn hn ef) cx.2.2.2.2.2.2.2.2.1 w5 w6 hfr hlo) (g := mkF m pc Ls st) rfl (hsz.trans cx.2.2.2.2.1.symm) (Steps.refl _) (a := a) (argsL := argsL) (rest := rest) (lenOf pd hlen) hst (by show 2 * 0 + _ ≤ _; omega) (hb cx.2.2.2.1 hd) (fun _ _ => ⟨rfl, eT, hc, hs⟩)
  dsimp only [Pt.U, Pt.locs, Pt.cells, Pt.slots] at X' l' y' z' stp hQ
  subst l' y' z'
  obtain ⟨hQ1, hQ2, hQ3⟩ := hQ
  obtain ⟨s₂, o, h1, r⟩ := k v T'.heap hQ1 _ _ _ _ _ _ _ _ _ _ X' cx (Fr.app fr hQ3) rfl hQ2
  exact ⟨s₂, o, stp.trans h1, r⟩
theorem Go.callS (pc' : Nat) {index : Nat} {y : MethodName} {bytes : ByteArray} {maxL : Nat} {ret : Option FieldType} {rm : Room} {Q' : Option Value → Heap → Prop} {Ls' : Array Slot} (argsL rest : List Value) {ps : List FieldType} {rt : Option FieldType}
    (w1 : (Cond.methodLink B.1.cls index y).before a0 Z = true) (w2 : (Cond.static y).before a0 Z = true) (w5 : (Cond.code y bytes maxL ret).before a0 Z = true) (w6 : (Cond.initialized y.cls).before a0 Z = true)
    (hy : y.cls ≠ "java/lang/invoke/MethodHandle" ∧ y.cls ≠ "java/lang/invoke/VarHandle") (pn : plainName y.cls = true) (pd : parseMethodDescriptor y.desc = some ⟨ps, rt⟩) (hlen : argsL.length = ps.length)
    (ef : ∀ m, entryFrame m argsL.toArray maxL = mkF m 0 Ls' [])
    (callee : Go l Z rm (y, bytes, maxL, ret) n0 Q' h 0 0 0 Ls' [])
    (hst : st = argsL.reverse ++ rest) (hsz : Ls.size = B.2.2.1) (hfr : rm.frames + 1 ≤ R.frames) (hlo : (rest.map fun v => v.category).sum + (maxL + 11) + rm.locals ≤ R.locals) (hc : cl + rm.cells ≤ R.cells) (hs : sl + rm.slots ≤ R.slots)
    (hd : decode B.2.1 pc = .ok (.invokestatic index, 3)) (hp : pc + 3 = pc')
    (k : ∀ v h', Q' v h' → Go l Z R B n0 Q h' (cl + rm.cells) (sl + rm.slots) pc' Ls (v.toList ++ rest)) : Go l Z R B n0 Q h cl sl pc Ls st := by
  subst hp
  intro p e s m args below meth c T locs X cx fr eT hn
  obtain ⟨v, _, ⟨T', L', k', n'⟩, -, X', ⟨Lc, hQ, l', y', z'⟩, stp⟩ := Jvm.LawKit.callS X cx.1 (y := y) cx.2.2.1 (mvT cx.2.1 w1) (mvT cx.2.1 w2) (mvT cx.2.1 w6) (mvT cx.2.1 w5) hy
    (backH (W := (rest.map fun v => v.category).sum) (P := fun v h' L => Q' v h' ∧ n0 ≤ h'.size ∧ Fr n0 L) (callee.met (ws := []) pn hn ef) cx.2.2.2.2.2.2.2.2.1 w5 w6 hfr hlo) (g := mkF m pc Ls st) rfl (hsz.trans cx.2.2.2.2.1.symm) (argsL := argsL) (rest := rest) (lenOf pd hlen) hst (by show 2 * 0 + _ ≤ _; omega) (hb cx.2.2.2.1 hd) (fun _ _ => ⟨rfl, eT, hc, hs⟩)
  dsimp only [Pt.U, Pt.locs, Pt.cells, Pt.slots] at X' l' y' z' stp hQ
  subst l' y' z'
  obtain ⟨hQ1, hQ2, hQ3⟩ := hQ
  obtain ⟨s₂, o, h1, r⟩ := k v T'.heap hQ1 _ _ _ _ _ _ _ _ _ _ X' cx (Fr.app fr hQ3) rfl hQ2
  exact ⟨s₂, o, stp _ h1, r⟩
end Rules
end Jvm.GoK
namespace Jvm.GoK
open Jvm.Free
theorem toInt_add {x y : Int32} {a b : Int} {c : Int} (hx : x.toInt = a) (hy : y.toInt = b) (h1 : -2147483648 ≤ a + b) (h2 : a + b < 2147483648) (e : a + b = c) : (x + y).toInt = c := by
  rw [XT.add32 (show XT.fits32 _ from ⟨by rw [hx, hy]; omega, by rw [hx, hy]; omega⟩), hx, hy, e]
theorem toInt_add' {x y z : Int32} {a b : Int} {c : Int} (hx : x.toInt = a) (hy : y.toInt = b) (hz : x + y = z) (h1 : -2147483648 ≤ a + b) (h2 : a + b < 2147483648) (e : a + b = c) : z.toInt = c := hz ▸ toInt_add hx hy h1 h2 e
theorem toInt_sub {x y : Int32} {a b : Int} {c : Int} (hx : x.toInt = a) (hy : y.toInt = b) (h1 : -2147483648 ≤ a - b) (h2 : a - b < 2147483648) (e : a - b = c) : (x - y).toInt = c := by
  rw [XT.sub32 (show XT.fits32 _ from ⟨by rw [hx, hy]; omega, by rw [hx, hy]; omega⟩), hx, hy, e]
theorem toInt_mul {x y : Int32} {a b : Int} {c : Int} (hx : x.toInt = a) (hy : y.toInt = b) (h1 : -2147483648 ≤ a * b) (h2 : a * b < 2147483648) (e : a * b = c) : (x * y).toInt = c := by
  rw [XT.mul32 (show XT.fits32 _ from ⟨by rw [hx, hy]; omega, by rw [hx, hy]; omega⟩), hx, hy, e]
end Jvm.GoK
namespace Jvm.GoK
open Jvm.Free
theorem toInt_ladd {x y : Int64} {a b c : Int} (hx : x.toInt = a) (hy : y.toInt = b) (h1 : -9223372036854775808 ≤ a + b) (h2 : a + b < 9223372036854775808) (e : a + b = c) : (x + y).toInt = c := by
  rw [XT.add64 (show XT.fits64 _ from ⟨by rw [hx, hy]; omega, by rw [hx, hy]; omega⟩), hx, hy, e]
theorem toInt_lsub {x y : Int64} {a b c : Int} (hx : x.toInt = a) (hy : y.toInt = b) (h1 : -9223372036854775808 ≤ a - b) (h2 : a - b < 9223372036854775808) (e : a - b = c) : (x - y).toInt = c := by
  rw [XT.sub64 (show XT.fits64 _ from ⟨by rw [hx, hy]; omega, by rw [hx, hy]; omega⟩), hx, hy, e]
theorem toInt_lmul {x y : Int64} {a b c : Int} (hx : x.toInt = a) (hy : y.toInt = b) (h1 : -9223372036854775808 ≤ a * b) (h2 : a * b < 9223372036854775808) (e : a * b = c) : (x * y).toInt = c := by
  rw [XT.mul64 (show XT.fits64 _ from ⟨by rw [hx, hy]; omega, by rw [hx, hy]; omega⟩), hx, hy, e]
theorem b32 (x : Int32) : -2147483648 ≤ x.toInt ∧ x.toInt < 2147483648 := ⟨x.le_toInt, x.toInt_lt⟩
theorem and_nat (n : Int32) (k : Nat) (hk : k < 2147483648) : ∃ j : Nat, j ≤ k ∧ (n &&& Int32.ofNat k).toInt = (j : Int) := by
  have h : (n &&& Int32.ofNat k).toInt = ((n.toBitVec &&& BitVec.ofNat 32 k).toNat : Int) := by
    show (n.toBitVec &&& BitVec.ofNat 32 k).toInt = _
    rw [BitVec.toInt_eq_toNat_of_lt]
    have h2 : (n.toBitVec &&& BitVec.ofNat 32 k).toNat ≤ (BitVec.ofNat 32 k).toNat := by rw [BitVec.toNat_and]; exact Nat.and_le_right
    have h3 : (BitVec.ofNat 32 k).toNat = k := by rw [BitVec.toNat_ofNat]; omega
    omega
  refine ⟨_, ?_, h⟩
  have h3 : (BitVec.ofNat 32 k).toNat = k := by rw [BitVec.toNat_ofNat]; omega
  rw [BitVec.toNat_and]
  exact Nat.le_trans Nat.and_le_right (Nat.le_of_eq h3)
theorem and3 (n : Int32) : n &&& 3 = 0 ∨ n &&& 3 = 1 ∨ n &&& 3 = 2 ∨ n &&& 3 = 3 := by
  obtain ⟨j, h1, h2⟩ := and_nat n 3 (by decide)
  have h2 : (n &&& 3).toInt = (j : Int) := h2
  have : j = 0 ∨ j = 1 ∨ j = 2 ∨ j = 3 := by omega
  rcases this with rfl | rfl | rfl | rfl
  · exact Or.inl (Int32.toInt_inj.mp h2)
  · exact Or.inr (Or.inl (Int32.toInt_inj.mp h2))
  · exact Or.inr (Or.inr (Or.inl (Int32.toInt_inj.mp h2)))
  · exact Or.inr (Or.inr (Or.inr (Int32.toInt_inj.mp h2)))
theorem fill_step {α : Type} {rs : List α} {z g : α} {j k : Nat} (hg : rs[j]? = some g) (hk : rs.length = k) : (rs.take j ++ List.replicate (k - j) z).set j g = rs.take (j + 1) ++ List.replicate (k - (j + 1)) z := by
  have hj := (List.getElem?_eq_some_iff.mp hg).1
  have hlen : (rs.take j).length = j := by rw [List.length_take]; omega
  rw [List.set_append, hlen, if_neg (Nat.lt_irrefl j), Nat.sub_self, List.take_add_one, hg]
  obtain ⟨m, hm⟩ : ∃ m, k - j = m + 1 := ⟨k - j - 1, by omega⟩
  rw [hm, show k - (j + 1) = m by omega, List.replicate_succ, List.set_cons_zero, List.append_assoc]
  rfl
end Jvm.GoK
namespace Jvm.GoK
theorem fill_step2 {α : Type} {rs : List α} {z g : α} {j m : Nat} (hg : rs[j]? = some g) : (rs.take j ++ List.replicate (m + 1) z).set j g = rs.take (j + 1) ++ List.replicate m z := by
  have hj := (List.getElem?_eq_some_iff.mp hg).1
  have hlen : (rs.take j).length = j := by rw [List.length_take]; omega
  rw [List.set_append, hlen, if_neg (Nat.lt_irrefl j), Nat.sub_self, List.take_add_one, hg, List.replicate_succ, List.set_cons_zero, List.append_assoc]
  rfl
end Jvm.GoK
namespace Jvm.GoK
theorem leB {a b : Nat} (h : Nat.ble a b = true) : a ≤ b := Nat.le_of_ble_eq_true h
end Jvm.GoK
namespace Jvm.GoK
theorem lit1 : (1 : Int32).toInt = 1 := by decide
theorem lit2 : (2 : Int32).toInt = 2 := by decide
theorem lit3 : (3 : Int32).toInt = 3 := by decide
theorem olit1 : (Int32.ofInt 1).toInt = 1 := by decide
theorem olit2 : (Int32.ofInt 2).toInt = 2 := by decide
end Jvm.GoK
namespace Jvm.GoK
open Jvm.FP Jvm.Free.Fl Jvm.FP.Core
/-! ### doubles that are whole numbers: what each step makes of them -/
def DAdd (x y v : UInt64) : Prop := FP.dadd x y = v ∧ NoNaN64 v
def DSub (x y v : UInt64) : Prop := FP.dsub x y = v ∧ NoNaN64 v
def DMul (x y v : UInt64) : Prop := FP.dmul x y = v ∧ NoNaN64 v
def DDiv (x y v : UInt64) : Prop := FP.ddiv x y = v ∧ NoNaN64 v
theorem dint_nn {i : Int} {v : UInt64} (h : DInt i v) : NoNaN64 v := val64_no.mpr (DInt_ne_nan h)
theorem dint_cast {i j : Int} {v : UInt64} (h : DInt i v) (e : i = j) : DInt j v := e ▸ h
theorem dint_zero : DInt 0 0 := by
  unfold DInt
  rw [val64_zero]
  show signed false (0 * _) = 0 * _
  simp [signed]
theorem addI {i j : Int} {x y : UInt64} (hx : DInt i x) (hy : DInt j y) (b1 : -9007199254740992 ≤ i + j) (b2 : i + j ≤ 9007199254740992) : ∃ v, DAdd x y v ∧ DInt (i + j) v := by
  have q : DInt (i + j) (FP.dadd x y) := dadd_int hx hy (by omega)
  exact ⟨_, ⟨rfl, dint_nn q⟩, q⟩
theorem subI {i j : Int} {x y : UInt64} (hx : DInt i x) (hy : DInt j y) (b1 : -9007199254740992 ≤ i - j) (b2 : i - j ≤ 9007199254740992) : ∃ v, DSub x y v ∧ DInt (i - j) v := by
  have q : DInt (i - j) (FP.dsub x y) := dsub_int hx hy (by omega)
  exact ⟨_, ⟨rfl, dint_nn q⟩, q⟩
theorem mulI {i j : Int} {x y : UInt64} (hx : DInt i x) (hy : DInt j y) (b1 : -9007199254740992 ≤ i * j) (b2 : i * j ≤ 9007199254740992) : ∃ v, DMul x y v ∧ DInt (i * j) v := by
  have q : DInt (i * j) (FP.dmul x y) := dmul_int hx hy (by omega)
  exact ⟨_, ⟨rfl, dint_nn q⟩, q⟩
/-- what a comparison pushes -/
def sg (i j : Int) : Int32 := if i < j then -1 else if i = j then 0 else 1
theorem sg_cases (i j : Int) : ((sg i j).toInt = -1 ∧ i < j) ∨ ((sg i j).toInt = 0 ∧ i = j) ∨ ((sg i j).toInt = 1 ∧ j < i) := by
  unfold sg
  by_cases h1 : i < j
  · rw [if_pos h1]; exact Or.inl ⟨by decide, h1⟩
  · rw [if_neg h1]
    by_cases h2 : i = j
    · rw [if_pos h2]; exact Or.inr (Or.inl ⟨by decide, h2⟩)
    · rw [if_neg h2]; exact Or.inr (Or.inr ⟨by decide, by omega⟩)
theorem cmpV_sg (i j : Int) (o : ClassFile.CmpOp) : Op.cmpValue (some (compare i j)) o = sg i j := by
  unfold sg
  by_cases h1 : i < j
  · rw [if_pos h1, (compare_lt_iff i j).mpr h1]; cases o <;> rfl
  · rw [if_neg h1]
    by_cases h2 : i = j
    · rw [if_pos h2, (compare_eq_iff i j).mpr h2]; cases o <;> rfl
    · rw [if_neg h2, (compare_gt_iff i j).mpr (by omega)]; cases o <;> rfl
theorem cmpI {i j : Int} {x y : UInt64} (hx : DInt i x) (hy : DInt j y) (o : ClassFile.CmpOp) : Op.cmpValue (FP.dcmp x y) o = sg i j := by
  rw [show FP.dcmp x y = some (compare i j) from dcmp_int hx hy]; exact cmpV_sg i j o
end Jvm.GoK
namespace Jvm.GoK
theorem sg_self {i j : Int} (h : i = j) : (sg i j).toInt = 0 := by have := sg_cases i j; omega
end Jvm.GoK
namespace Jvm.GoK
open Jvm.FP Jvm.Free.Fl Jvm.FP.Core
/-! ### whole numbers too great to be exact: the rounding is a whole number, and near -/
theorem round_near {i : Int} {d : Datum} (h : Whole i d) (hi : i.natAbs ≤ 2 ^ 63) : ∃ j, Whole j (round b64 d) ∧ (j - i).natAbs ≤ 1024 ∧ (2048 ∣ i.natAbs → j = i) := by
  by_cases hs : i.natAbs ≤ 2 ^ 53
  · exact ⟨i, whole_round good_b64 wide_b64 hs h, by omega, fun _ => rfl⟩
  · cases d with
    | nan => exact h.elim
    | inf => exact h.elim
    | fin s c q =>
      rw [round_whole h]
      generalize hn : i.natAbs = n at hi hs
      have hpos : 0 < n := by omega
      have l1 : 2 ^ n.log2 ≤ n := Nat.log2_self_le (by omega)
      have l2 : n < 2 ^ (n.log2 + 1) := Nat.lt_log2_self
      have k1 : 53 ≤ n.log2 := by
        apply Nat.le_of_not_lt; intro hlt
        have : 2 ^ (n.log2 + 1) ≤ 2 ^ 53 := Nat.pow_le_pow_right (by decide) (by omega)
        omega
      have k2 : n.log2 ≤ 63 := by
        apply Nat.le_of_not_lt; intro hlt
        have : 2 ^ 64 ≤ 2 ^ n.log2 := Nat.pow_le_pow_right (by decide) (by omega)
        omega
      obtain ⟨m, hm⟩ : ∃ m, n.log2 = m + 52 := ⟨n.log2 - 52, by omega⟩
      rw [hm] at l1 l2 k1 k2
      have hq : quantum b64 n 1 0 = (m : Int) := by
        apply quantum_eq hpos (by decide)
        · rw [qmin_b64]; omega
        · show n * 2 ^ (-((m : Int) - 0 + (53 : Nat))).toNat < 1 * 2 ^ ((m : Int) - 0 + (53 : Nat)).toNat
          rw [show (-((m : Int) - 0 + (53 : Nat))).toNat = 0 by omega, show ((m : Int) - 0 + (53 : Nat)).toNat = m + 52 + 1 by omega]
          omega
        · refine Or.inr ?_
          show ¬ n * 2 ^ (-((m : Int) - 0 + (((53 : Nat) : Int) - 1))).toNat < 1 * 2 ^ ((m : Int) - 0 + (((53 : Nat) : Int) - 1)).toNat
          rw [show (-((m : Int) - 0 + (((53 : Nat) : Int) - 1))).toNat = 0 by omega, show ((m : Int) - 0 + (((53 : Nat) : Int) - 1)).toNat = m + 52 by omega]
          omega
      have hne : n ≠ 0 := by omega
      unfold roundRatio
      rw [if_neg hne, hq]
      unfold roundAt
      have hu : unitsNum n 0 (m : Int) = n := by unfold unitsNum; rw [show (0 - (m : Int)).toNat = 0 by omega]; simp
      have hv : unitsDen 1 0 (m : Int) = 2 ^ m := by unfold unitsDen; rw [show ((m : Int) - 0).toNat = m by omega]; simp
      rw [hu, hv]
      have hP : 0 < 2 ^ m := Nat.two_pow_pos m
      obtain ⟨n1, n2, -⟩ := nearest_spec n (2 ^ m) hP
      have hc : nearest n (2 ^ m) ≤ 2 ^ 53 := nearest_le hP (by
        rw [← Nat.pow_add]
        have : 2 ^ (53 + m) = 2 ^ (m + 52 + 1) := by congr 1; omega
        omega)
      have hx : 2048 ∣ n → nearest n (2 ^ m) * 2 ^ m = n := by
        intro hd
        have hd2 : 2 ^ m ∣ n := Nat.dvd_trans (show 2 ^ m ∣ 2 ^ 11 from Nat.pow_dvd_pow 2 (by omega)) hd
        obtain ⟨M, hM⟩ := hd2
        rw [hM, Nat.mul_comm (2 ^ m) M, nearest_exact M hP]
      generalize nearest n (2 ^ m) = C at n1 n2 hc hx
      have hP2 : 2 ^ m ≤ 2048 := by
        have : 2 ^ m ≤ 2 ^ 11 := Nat.pow_le_pow_right (by decide) (by omega)
        omega
      have e1 : (2 * C + 1) * 2 ^ m = 2 * (C * 2 ^ m) + 2 ^ m := by rw [Nat.add_mul, Nat.one_mul, Nat.mul_assoc]
      have e2 : 2 * C * 2 ^ m = 2 * (C * 2 ^ m) := Nat.mul_assoc _ _ _
      rw [e1] at n1; rw [e2] at n2
      have key : ∃ c' q', settle b64 s C (m : Int) = .fin s c' q' ∧ 0 ≤ q' ∧ c' * 2 ^ q'.toNat = C * 2 ^ m := by
        unfold settle
        by_cases hC : C < 2 ^ b64.p
        · rw [if_pos hC]; unfold bound
          rw [if_pos (show (m : Int) ≤ b64.qmax by have : b64.qmax = 971 := by decide
                                                   omega)]
          exact ⟨C, m, rfl, by omega, by rw [show ((m : Int)).toNat = m by omega]⟩
        · rw [if_neg hC]; unfold bound
          rw [if_pos (show (m : Int) + 1 ≤ b64.qmax by have : b64.qmax = 971 := by decide
                                                       omega)]
          refine ⟨b64.tails, (m : Int) + 1, rfl, by omega, ?_⟩
          have hC2 : C = 2 ^ 53 := by
            have : b64.p = 53 := rfl
            rw [this] at hC; omega
          have e3 : (2 : Nat) ^ (m + 1) = 2 * 2 ^ m := by rw [Nat.pow_succ, Nat.mul_comm]
          rw [show ((m : Int) + 1).toNat = m + 1 by omega, hC2, tails_b64, e3]
          omega
      obtain ⟨c', q', hk, hq0, hk2⟩ := key
      rw [hk]
      have hsg : s = decide (i < 0) := whole_sign h (by omega)
      refine ⟨signed s (c' * 2 ^ q'.toNat), ?_, ?_, fun hd => ?_⟩
      · show signed s (c' * 2 ^ q'.toNat) = signed s (c' * 2 ^ q'.toNat) * ((2 ^ (-q').toNat : Nat) : Int)
        rw [show (-q').toNat = 0 by omega]; simp
      · rw [hk2, hsg]
        generalize C * 2 ^ m = A at n1 n2
        unfold signed
        by_cases hi0 : i < 0
        · rw [if_pos (by simpa using hi0)]; omega
        · rw [if_neg (by simpa using hi0)]; omega
      · rw [hk2, hx hd, hsg]
        unfold signed
        by_cases hi0 : i < 0
        · rw [if_pos (by simpa using hi0)]; omega
        · rw [if_neg (by simpa using hi0)]; omega
/-- a whole number that is some double rounds to itself -/
theorem round_rep {i : Int} {d : Datum} {u : UInt64} (h : Whole i d) (hu : DInt i u) : Whole i (round b64 d) := by
  by_cases h0 : i = 0
  · exact whole_round good_b64 wide_b64 (by rw [h0]; decide) h
  · unfold DInt at hu
    cases d with
    | nan => exact h.elim
    | inf => exact h.elim
    | fin s c q =>
      have hr := round_of_fits good_b64 (val64_fits u)
      revert hu hr
      cases hv : val64 u with
      | nan => intro hu; exact hu.elim
      | inf => intro hu; exact hu.elim
      | fin s' c' q' =>
        intro hu hr
        rw [round_whole h, whole_sign h h0]
        rw [round_whole hu, whole_sign hu h0] at hr
        rw [hr, ← whole_sign hu h0]; exact hu
theorem add_near {p r : Int} {x y : UInt64} (hx : DInt p x) (hy : DInt r y) (hb : (p + r).natAbs ≤ 2 ^ 63) : ∃ v j, DAdd x y v ∧ DInt j v ∧ (j - (p + r)).natAbs ≤ 1024 := by
  obtain ⟨j, h1, h2, -⟩ := round_near (whole_sum hx hy) hb
  have q : DInt j (FP.dadd x y) := by unfold DInt; rw [val64_dadd]; exact h1
  exact ⟨_, j, ⟨rfl, dint_nn q⟩, q, h2⟩
theorem sub_near {p r : Int} {x y : UInt64} (hx : DInt p x) (hy : DInt r y) (hb : (p - r).natAbs ≤ 2 ^ 63) : ∃ v j, DSub x y v ∧ DInt j v ∧ (j - (p - r)).natAbs ≤ 1024 := by
  obtain ⟨j, h1, h2, -⟩ := round_near (whole_sum hx (whole_negate hy)) (by rw [← Int.sub_eq_add_neg]; exact hb)
  have q : DInt j (FP.dsub x y) := by unfold DInt; rw [val64_dsub]; exact h1
  exact ⟨_, j, ⟨rfl, dint_nn q⟩, q, by rw [show p - r = p + -r from Int.sub_eq_add_neg]; exact h2⟩
theorem sub_rep {p r : Int} {x y u : UInt64} (hx : DInt p x) (hy : DInt r y) (hu : DInt (p - r) u) : ∃ v, DSub x y v ∧ DInt (p - r) v := by
  have q : DInt (p - r) (FP.dsub x y) := by
    have hu' : DInt (p + -r) u := by rw [← Int.sub_eq_add_neg]; exact hu
    have := round_rep (whole_sum hx (whole_negate hy)) hu'
    unfold DInt; rw [val64_dsub, Int.sub_eq_add_neg]; exact this
  exact ⟨_, ⟨rfl, dint_nn q⟩, q⟩
theorem add_rep {p r : Int} {x y u : UInt64} (hx : DInt p x) (hy : DInt r y) (hu : DInt (p + r) u) : ∃ v, DAdd x y v ∧ DInt (p + r) v := by
  have q : DInt (p + r) (FP.dadd x y) := by
    have := round_rep (whole_sum hx hy) hu
    unfold DInt; rw [val64_dadd]; exact this
  exact ⟨_, ⟨rfl, dint_nn q⟩, q⟩
/-- a long made a double, and a sum of doubles of that exact value, are one whole number -/
theorem add_l2d {p r : Int} {x y : UInt64} {e : Int64} (hx : DInt p x) (hy : DInt r y) (he : e.toInt = p + r) : ∃ v j, DAdd x y v ∧ DInt j v ∧ DInt j (FP.l2d e) ∧ (j - (p + r)).natAbs ≤ 1024 := by
  have hb : (p + r).natAbs ≤ 2 ^ 63 := by have := e.toInt_lt; have := e.le_toInt; omega
  obtain ⟨v, j, h1, h2, h3⟩ := add_near hx hy hb
  refine ⟨v, j, h1, h2, ?_, h3⟩
  by_cases h0 : p + r = 0
  · have q0 : DInt e.toInt (FP.l2d e) := l2d_int (by rw [he, h0]; decide)
    have q1 : DInt (p + r) (FP.dadd x y) := dadd_int hx hy (by rw [h0]; decide)
    rw [h1.1] at q1
    have : j = p + r := by
      have a := DInt_zval q1; have b := DInt_zval h2
      have := one64_pos
      rw [a] at b
      exact (Int.eq_of_mul_eq_mul_right (by omega) b).symm
    rw [this, ← he]; exact q0
  · have hv : val64 v = val64 (FP.l2d e) := by
      rw [← h1.1, val64_dadd, val64_l2d, he]
      have w1 := whole_sum hx hy
      have w2 := whole_ofInt (p + r)
      revert w1 w2
      cases exactSum (val64 x) (val64 y) with
      | nan => intro w1; exact w1.elim
      | inf => intro w1; exact w1.elim
      | fin s c q =>
        intro w1 w2
        unfold ofInt at w2 ⊢
        rw [round_whole w1, round_whole w2, whole_sign w1 h0, whole_sign w2 h0]
    unfold DInt at h2 ⊢
    rw [← hv]; exact h2
theorem l2d_rep {e : Int64} {i : Int} (he : e.toInt = i) (hd : 2048 ∣ i.natAbs) : DInt i (FP.l2d e) := by
  obtain ⟨j, h1, -, h3⟩ := round_near (whole_ofInt i) (by have := e.toInt_lt; have := e.le_toInt; omega)
  unfold DInt
  rw [val64_l2d, he]
  rw [h3 hd] at h1
  exact h1
/-- two-sum: where one of the two is small, what it says was lost was lost -/
theorem two_sum {P V : Int} {u x s : UInt64} {j : Int} (hu : DInt P u) (hx : DInt V x) (bP : P.natAbs ≤ 2 ^ 62) (bV : V.natAbs ≤ 2 ^ 62) (hsm : P.natAbs ≤ 2 ^ 31 ∨ V.natAbs ≤ 2 ^ 31) (hs : DAdd u x s) (hj : DInt j s) (hjn : (j - (P + V)).natAbs ≤ 1024) :
    ∃ f t1 t2 t3 lo, DSub s u f ∧ DSub s f t1 ∧ DSub u t1 t2 ∧ DSub x f t3 ∧ DAdd t2 t3 lo ∧ DInt (P + V - j) lo := by
  by_cases hV : V.natAbs ≤ 2 ^ 31
  · obtain ⟨f, q2, d2⟩ := subI hj hu (by omega) (by omega)
    obtain ⟨t1, q3, d3⟩ := sub_rep hj d2 (dint_cast hu (by omega))
    obtain ⟨t2, q4, d4⟩ := subI hu d3 (by omega) (by omega)
    obtain ⟨t3, q5, d5⟩ := subI hx d2 (by omega) (by omega)
    obtain ⟨lo, q6, d6⟩ := addI d4 d5 (by omega) (by omega)
    exact ⟨f, t1, t2, t3, lo, q2, q3, q4, q5, q6, dint_cast d6 (by omega)⟩
  · have hP : P.natAbs ≤ 2 ^ 31 := by omega
    obtain ⟨f, g, q2, d2, n2⟩ := sub_near hj hu (by omega)
    obtain ⟨t1, q3, d3⟩ := subI hj d2 (by omega) (by omega)
    obtain ⟨t2, q4, d4⟩ := subI hu d3 (by omega) (by omega)
    obtain ⟨t3, q5, d5⟩ := subI hx d2 (by omega) (by omega)
    obtain ⟨lo, q6, d6⟩ := addI d4 d5 (by omega) (by omega)
    exact ⟨f, t1, t2, t3, lo, q2, q3, q4, q5, q6, dint_cast d6 (by omega)⟩
end Jvm.GoK
namespace Jvm.Pilot.@@N@@
open Jvm Jvm.ClassFile Sem Op Lib Jvm.Free Jvm.Stand Jvm.LawKit Jvm.RoadKit Bundle Jvm.GoK Jvm.Pilot.@@N@@.Jvm.D
theorem d1_0 : decode prog_12_method_1_code 0 = .ok (.aload_n 0, 1) := by decide +kernel
theorem d1_1 : decode prog_12_method_1_code 1 = .ok (.invokespecial 1, 3) := by decide +kernel
theorem d1_4 : decode prog_12_method_1_code 4 = .ok (.aload_n 0, 1) := by decide +kernel
theorem d1_5 : decode prog_12_method_1_code 5 = .ok (.iconst 2, 1) := by decide +kernel
theorem d1_6 : decode prog_12_method_1_code 6 = .ok (.iload_n 1, 1) := by decide +kernel
theorem d1_7 : decode prog_12_method_1_code 7 = .ok (.imul, 1) := by decide +kernel
theorem d1_8 : decode prog_12_method_1_code 8 = .ok (.newarray .double, 2) := by decide +kernel
theorem d1_10 : decode prog_12_method_1_code 10 = .ok (.putfield 7, 3) := by decide +kernel
theorem d1_13 : decode prog_12_method_1_code 13 = .ok (.return_, 1) := by decide +kernel
theorem d3_0 : decode prog_12_method_8_code 0 = .ok (.aload_n 0, 1) := by decide +kernel
theorem d3_1 : decode prog_12_method_8_code 1 = .ok (.getfield 7, 3) := by decide +kernel
theorem d3_4 : decode prog_12_method_8_code 4 = .ok (.iconst 2, 1) := by decide +kernel
theorem d3_5 : decode prog_12_method_8_code 5 = .ok (.iload_n 1, 1) := by decide +kernel
theorem d3_6 : decode prog_12_method_8_code 6 = .ok (.imul, 1) := by decide +kernel
theorem d3_7 : decode prog_12_method_8_code 7 = .ok (.daload, 1) := by decide +kernel
theorem d3_8 : decode prog_12_method_8_code 8 = .ok (.dstore 6, 2) := by decide +kernel
theorem d3_10 : decode prog_12_method_8_code 10 = .ok (.dload 6, 2) := by decide +kernel
theorem d3_12 : decode prog_12_method_8_code 12 = .ok (.dload_n 2, 1) := by decide +kernel
theorem d3_13 : decode prog_12_method_8_code 13 = .ok (.dadd, 1) := by decide +kernel
theorem d3_14 : decode prog_12_method_8_code 14 = .ok (.dstore 8, 2) := by decide +kernel
theorem d3_16 : decode prog_12_method_8_code 16 = .ok (.dload 8, 2) := by decide +kernel
theorem d3_18 : decode prog_12_method_8_code 18 = .ok (.dload 6, 2) := by decide +kernel
theorem d3_20 : decode prog_12_method_8_code 20 = .ok (.dsub, 1) := by decide +kernel
theorem d3_21 : decode prog_12_method_8_code 21 = .ok (.dstore 10, 2) := by decide +kernel
theorem d3_23 : decode prog_12_method_8_code 23 = .ok (.dload 6, 2) := by decide +kernel
theorem d3_25 : decode prog_12_method_8_code 25 = .ok (.dload 8, 2) := by decide +kernel
theorem d3_27 : decode prog_12_method_8_code 27 = .ok (.dload 10, 2) := by decide +kernel
theorem d3_29 : decode prog_12_method_8_code 29 = .ok (.dsub, 1) := by decide +kernel
theorem d3_30 : decode prog_12_method_8_code 30 = .ok (.dsub, 1) := by decide +kernel
theorem d3_31 : decode prog_12_method_8_code 31 = .ok (.dload_n 2, 1) := by decide +kernel
theorem d3_32 : decode prog_12_method_8_code 32 = .ok (.dload 10, 2) := by decide +kernel
theorem d3_34 : decode prog_12_method_8_code 34 = .ok (.dsub, 1) := by decide +kernel
theorem d3_35 : decode prog_12_method_8_code 35 = .ok (.dadd, 1) := by decide +kernel
theorem d3_36 : decode prog_12_method_8_code 36 = .ok (.dstore 12, 2) := by decide +kernel
theorem d3_38 : decode prog_12_method_8_code 38 = .ok (.aload_n 0, 1) := by decide +kernel
theorem d3_39 : decode prog_12_method_8_code 39 = .ok (.getfield 7, 3) := by decide +kernel
theorem d3_42 : decode prog_12_method_8_code 42 = .ok (.iconst 2, 1) := by decide +kernel
theorem d3_43 : decode prog_12_method_8_code 43 = .ok (.iload_n 1, 1) := by decide +kernel
theorem d3_44 : decode prog_12_method_8_code 44 = .ok (.imul, 1) := by decide +kernel
theorem d3_45 : decode prog_12_method_8_code 45 = .ok (.dload 8, 2) := by decide +kernel
theorem d3_47 : decode prog_12_method_8_code 47 = .ok (.dastore, 1) := by decide +kernel
theorem d3_48 : decode prog_12_method_8_code 48 = .ok (.aload_n 0, 1) := by decide +kernel
theorem d3_49 : decode prog_12_method_8_code 49 = .ok (.getfield 7, 3) := by decide +kernel
theorem d3_52 : decode prog_12_method_8_code 52 = .ok (.iconst 2, 1) := by decide +kernel
theorem d3_53 : decode prog_12_method_8_code 53 = .ok (.iload_n 1, 1) := by decide +kernel
theorem d3_54 : decode prog_12_method_8_code 54 = .ok (.imul, 1) := by decide +kernel
theorem d3_55 : decode prog_12_method_8_code 55 = .ok (.iconst 1, 1) := by decide +kernel
theorem d3_56 : decode prog_12_method_8_code 56 = .ok (.iadd, 1) := by decide +kernel
theorem d3_57 : decode prog_12_method_8_code 57 = .ok (.dup2, 1) := by decide +kernel
theorem d3_58 : decode prog_12_method_8_code 58 = .ok (.daload, 1) := by decide +kernel
theorem d3_59 : decode prog_12_method_8_code 59 = .ok (.dload 4, 2) := by decide +kernel
theorem d3_61 : decode prog_12_method_8_code 61 = .ok (.dload 12, 2) := by decide +kernel
theorem d3_63 : decode prog_12_method_8_code 63 = .ok (.dadd, 1) := by decide +kernel
theorem d3_64 : decode prog_12_method_8_code 64 = .ok (.dadd, 1) := by decide +kernel
theorem d3_65 : decode prog_12_method_8_code 65 = .ok (.dastore, 1) := by decide +kernel
theorem d3_66 : decode prog_12_method_8_code 66 = .ok (.return_, 1) := by decide +kernel
theorem d4_0 : decode prog_12_method_5_code 0 = .ok (.aload_n 0, 1) := by decide +kernel
theorem d4_1 : decode prog_12_method_5_code 1 = .ok (.getfield 7, 3) := by decide +kernel
theorem d4_4 : decode prog_12_method_5_code 4 = .ok (.iconst 2, 1) := by decide +kernel
theorem d4_5 : decode prog_12_method_5_code 5 = .ok (.iload_n 1, 1) := by decide +kernel
theorem d4_6 : decode prog_12_method_5_code 6 = .ok (.imul, 1) := by decide +kernel
theorem d4_7 : decode prog_12_method_5_code 7 = .ok (.daload, 1) := by decide +kernel
theorem d4_8 : decode prog_12_method_5_code 8 = .ok (.dreturn, 1) := by decide +kernel
theorem d5_0 : decode prog_12_method_6_code 0 = .ok (.aload_n 0, 1) := by decide +kernel
theorem d5_1 : decode prog_12_method_6_code 1 = .ok (.getfield 7, 3) := by decide +kernel
theorem d5_4 : decode prog_12_method_6_code 4 = .ok (.iconst 2, 1) := by decide +kernel
theorem d5_5 : decode prog_12_method_6_code 5 = .ok (.iload_n 1, 1) := by decide +kernel
theorem d5_6 : decode prog_12_method_6_code 6 = .ok (.imul, 1) := by decide +kernel
theorem d5_7 : decode prog_12_method_6_code 7 = .ok (.iconst 1, 1) := by decide +kernel
theorem d5_8 : decode prog_12_method_6_code 8 = .ok (.iadd, 1) := by decide +kernel
theorem d5_9 : decode prog_12_method_6_code 9 = .ok (.daload, 1) := by decide +kernel
theorem d5_10 : decode prog_12_method_6_code 10 = .ok (.dreturn, 1) := by decide +kernel
theorem ef_1_AI (x0 : Nat) (x1 : Int32) (m : MethodId) : entryFrame m #[(.ref x0), (.int x1)] 2 = mkF m 0 #[.val (.ref x0), .val (.int x1)] [] := by first | (simp [entryFrame, mkF, argsToLocals, Value.category, maxLocals]; done) | rfl
theorem pn_1 : plainName "com/example/rorqual/rorqual/CompensatedSums" = true := by first | (simp [plainName, overriddenIn]; done) | decide +kernel
theorem pd_2 : parseMethodDescriptor "(I)V" = some ⟨[.int], none⟩ := by decide +kernel
theorem ef_3_AIDD (x0 : Nat) (x1 : Int32) (x2 : UInt64) (x3 : UInt64) (m : MethodId) : entryFrame m #[(.ref x0), (.int x1), (.double x2), (.double x3)] 14 = mkF m 0 #[.val (.ref x0), .val (.int x1), .val (.double x2), .second, .val (.double x3), .second, .unset, .unset, .unset, .unset, .unset, .unset, .unset, .unset] [] := by first | (simp [entryFrame, mkF, argsToLocals, Value.category, maxLocals]; done) | rfl
theorem pd_4 : parseMethodDescriptor "(IDD)V" = some ⟨[.int, .double, .double], none⟩ := by decide +kernel
theorem ef_4_AI (x0 : Nat) (x1 : Int32) (m : MethodId) : entryFrame m #[(.ref x0), (.int x1)] 2 = mkF m 0 #[.val (.ref x0), .val (.int x1)] [] := by first | (simp [entryFrame, mkF, argsToLocals, Value.category, maxLocals]; done) | rfl
theorem pd_6 : parseMethodDescriptor "(I)D" = some ⟨[.int], some .double⟩ := by decide +kernel
theorem ef_5_AI (x0 : Nat) (x1 : Int32) (m : MethodId) : entryFrame m #[(.ref x0), (.int x1)] 2 = mkF m 0 #[.val (.ref x0), .val (.int x1)] [] := by first | (simp [entryFrame, mkF, argsToLocals, Value.category, maxLocals]; done) | rfl
theorem ef_0_IIIII (x0 : Int32) (x1 : Int32) (x2 : Int32) (x3 : Int32) (x4 : Int32) (m : MethodId) : entryFrame m #[(.int x0), (.int x1), (.int x2), (.int x3), (.int x4)] maxLocals = mkF m 0 #[.val (.int x0), .val (.int x1), .val (.int x2), .val (.int x3), .val (.int x4), .unset, .unset, .unset, .unset, .unset, .unset, .unset, .unset, .unset, .unset, .unset, .unset, .unset, .unset, .unset, .unset, .unset, .unset, .unset, .unset] [] := by first | (simp [entryFrame, mkF, argsToLocals, Value.category, maxLocals]; done) | rfl
theorem law_pn0 : plainName "com/example/rorqual/rorqual/CompensatedSumsAddPinLaw" = true := by first | (simp [plainName, overriddenIn]; done) | decide +kernel
theorem law_pn : plainName x.cls = true := law_pn0
/-- a: the sums' object; b: its array, which holds ds -/
def CS (Z : State) (n0 : Nat) (h : Heap) (a b : Nat) (ds : List UInt64) : Prop :=
  Exa Z h a "com/example/rorqual/rorqual/CompensatedSums" ∧ Fld Z h a "com/example/rorqual/rorqual/CompensatedSums" "sums" "[D" (.ref b) ∧ ArD Z h b ds ∧ a ≠ b ∧ n0 ≤ a ∧ n0 ≤ b
theorem CS.keep {Z : State} {n0 : Nat} {h h' : Heap} {a b : Nat} {ds ds' : List UInt64} (H : CS Z n0 h a b ds) (K : Keep h h' [b]) (A : ArD Z h' b ds') : CS Z n0 h' a b ds' :=
  ⟨H.1.keep K, H.2.1.keep K (ninS H.2.2.2.1 nin0), A, H.2.2.2⟩
theorem CS.ext {Z : State} {n0 : Nat} {h h' : Heap} {a b : Nat} {ds : List UInt64} (H : CS Z n0 h a b ds) (E : Ext h h') : CS Z n0 h' a b ds :=
  ⟨H.1.ext E, H.2.1.ext E, H.2.2.1.ext E, H.2.2.2⟩
set_option maxRecDepth 65536 in
set_option maxHeartbeats 40000000 in
theorem init_go (l : Launch) (Z : State) (a0 : Array Value) (hw : ∀ d ∈ tables_1, d.before a0 Z = true) {n0 : Nat} {h : Heap} {a : Nat} {len : Int32} {k : Nat} (E : Exa Z h a "com/example/rorqual/rorqual/CompensatedSums") (F : Fld Z h a "com/example/rorqual/rorqual/CompensatedSums" "sums" "[D" .null) (hn : n0 ≤ a) (hlen : (2 * len).toInt = ((2 * k : Nat) : Int)) (hk : 2 * k ≤ 4) :
    Go l Z ({ frames := 1, cells := 1, slots := 4, locals := 16 } : Room) ((⟨"com/example/rorqual/rorqual/CompensatedSums", "<init>", "(I)V"⟩ : MethodName), prog_12_method_1_code, 2, none) n0 (fun v h' => v = none ∧ Keep h h' [a] ∧ ∃ b, CS Z n0 h' a b (List.replicate (2 * k) 0)) h 0 0 0 #[.val (.ref a), .val (.int len)] [] := by
  have ha1 : a < h.size := E.lt
  refine Go.aloadN 1 d1_0 rfl rfl rfl ?_
  refine Go.initO 4 (hw _ (List.mem_of_getElem? (i := 6) rfl)) (hw _ (List.mem_of_getElem? (i := 7) rfl)) (hw _ (List.mem_of_getElem? (i := 8) rfl)) rfl d1_1 rfl (by decide) (leB rfl) ?_
  refine Go.aloadN 5 d1_4 rfl rfl rfl ?_
  refine Go.iconst 6 (2 : Int32) d1_5 rfl (by decide) ?_
  refine Go.iloadN 7 d1_6 rfl rfl ?_
  refine Go.imul 8 ((2 : Int32) * len) d1_7 rfl rfl ?_
  refine Go.newD 10 4 (hw _ (List.mem_of_getElem? (i := 9) rfl)) (i := 2 * k) hlen hk (by decide) d1_8 rfl (by decide) (by decide) ?_
  intro h1 b E1 q1 q2 A1
  have hab : a ≠ b := fun q => by omega
  refine Go.putF 13 (hw _ (List.mem_of_getElem? (i := 10) rfl)) (F.ext E1) (E.ext E1) (Or.inl (hw _ (List.mem_of_getElem? (i := 11) rfl))) (hw _ (List.mem_of_getElem? (i := 1) rfl)) (ty := .array .double) (by decide) rfl rfl hn d1_10 rfl ?_
  intro h2 W2
  exact Go.ret d1_13 rfl (by decide) (by decide) ⟨rfl, (Keep.refl h [a]).ext E1 |>.wr W2 (Or.inl (List.mem_singleton.mpr rfl)), b, ⟨(E.ext E1).wr W2, (F.ext E1).same W2, A1.other W2 (Ne.symm hab), hab, hn, q2⟩⟩
theorem init_ef (a : Nat) (i : Int32) (m : MethodId) : entryFrame m #[.ref a, .int i] 2 = mkF m 0 #[.val (.ref a), .val (.int i)] [] := by first | (simp [entryFrame, mkF, argsToLocals, Value.category]; done) | rfl
set_option maxRecDepth 65536 in
set_option maxHeartbeats 40000000 in
theorem add_go (l : Launch) (Z : State) (a0 : Array Value) (hw : ∀ d ∈ tables_1, d.before a0 Z = true) {n0 : Nat} {h : Heap} {a b : Nat} {ds : List UInt64} {i : Int32} {k : Nat} {u v x y s f t1 t2 t3 lo c v' : UInt64} (H : CS Z n0 h a b ds) (hi : ((2 : Int32) * i).toInt = ((2 * k : Nat) : Int)) (hi2 : ((2 : Int32) * i + 1).toInt = ((2 * k + 1 : Nat) : Int)) (hu : ds[2 * k]? = some u) (hv : ds[2 * k + 1]? = some v)
    (q1 : DAdd u x s) (q2 : DSub s u f) (q3 : DSub s f t1) (q4 : DSub u t1 t2) (q5 : DSub x f t3) (q6 : DAdd t2 t3 lo) (q7 : DAdd y lo c) (q8 : DAdd v c v') :
    Go l Z ({ frames := 0, cells := 0, slots := 0, locals := 0 } : Room) ((⟨"com/example/rorqual/rorqual/CompensatedSums", "add", "(IDD)V"⟩ : MethodName), prog_12_method_8_code, 14, none) n0 (fun r h' => r = none ∧ Keep h h' [b] ∧ CS Z n0 h' a b ((ds.set (2 * k) s).set (2 * k + 1) v')) h 0 0 0 #[.val (.ref a), .val (.int i), .val (.double x), .second, .val (.double y), .second, .unset, .unset, .unset, .unset, .unset, .unset, .unset, .unset] [] := by
  obtain ⟨E, F, A, hab, na, nb⟩ := id H
  have l1 := (List.getElem?_eq_some_iff.mp hu).1
  have l2 := (List.getElem?_eq_some_iff.mp hv).1
  refine Go.aloadN 1 d3_0 rfl rfl rfl ?_
  refine Go.getf 4 (hw _ (List.mem_of_getElem? (i := 10) rfl)) F d3_1 rfl ?_
  refine Go.iconst 5 (2 : Int32) d3_4 rfl (by decide) ?_
  refine Go.iloadN 6 d3_5 rfl rfl ?_
  refine Go.imul 7 ((2 : Int32) * i) d3_6 rfl rfl ?_
  refine Go.daload 8 A (i := 2 * k) hi hu d3_7 rfl ?_
  refine Go.dstore 10 #[.val (.ref a), .val (.int i), .val (.double x), .second, .val (.double y), .second, .val (.double u), .second, .unset, .unset, .unset, .unset, .unset, .unset] d3_8 rfl rfl ?_
  refine Go.dload 12 d3_10 rfl rfl ?_
  refine Go.dloadN 13 d3_12 rfl rfl ?_
  refine Go.dadd 14 s d3_13 rfl q1.1 q1.2 ?_
  refine Go.dstore 16 #[.val (.ref a), .val (.int i), .val (.double x), .second, .val (.double y), .second, .val (.double u), .second, .val (.double s), .second, .unset, .unset, .unset, .unset] d3_14 rfl rfl ?_
  refine Go.dload 18 d3_16 rfl rfl ?_
  refine Go.dload 20 d3_18 rfl rfl ?_
  refine Go.dsub 21 f d3_20 rfl q2.1 q2.2 ?_
  refine Go.dstore 23 #[.val (.ref a), .val (.int i), .val (.double x), .second, .val (.double y), .second, .val (.double u), .second, .val (.double s), .second, .val (.double f), .second, .unset, .unset] d3_21 rfl rfl ?_
  refine Go.dload 25 d3_23 rfl rfl ?_
  refine Go.dload 27 d3_25 rfl rfl ?_
  refine Go.dload 29 d3_27 rfl rfl ?_
  refine Go.dsub 30 t1 d3_29 rfl q3.1 q3.2 ?_
  refine Go.dsub 31 t2 d3_30 rfl q4.1 q4.2 ?_
  refine Go.dloadN 32 d3_31 rfl rfl ?_
  refine Go.dload 34 d3_32 rfl rfl ?_
  refine Go.dsub 35 t3 d3_34 rfl q5.1 q5.2 ?_
  refine Go.dadd 36 lo d3_35 rfl q6.1 q6.2 ?_
  refine Go.dstore 38 #[.val (.ref a), .val (.int i), .val (.double x), .second, .val (.double y), .second, .val (.double u), .second, .val (.double s), .second, .val (.double f), .second, .val (.double lo), .second] d3_36 rfl rfl ?_
  refine Go.aloadN 39 d3_38 rfl rfl rfl ?_
  refine Go.getf 42 (hw _ (List.mem_of_getElem? (i := 10) rfl)) F d3_39 rfl ?_
  refine Go.iconst 43 (2 : Int32) d3_42 rfl (by decide) ?_
  refine Go.iloadN 44 d3_43 rfl rfl ?_
  refine Go.imul 45 ((2 : Int32) * i) d3_44 rfl rfl ?_
  refine Go.dload 47 d3_45 rfl rfl ?_
  refine Go.dastore 48 A (i := 2 * k) hi l1 nb d3_47 rfl ?_
  intro h1 K1 A1
  have H1 := H.keep K1 A1
  have F1 := H1.2.1
  refine Go.aloadN 49 d3_48 rfl rfl rfl ?_
  refine Go.getf 52 (hw _ (List.mem_of_getElem? (i := 10) rfl)) F1 d3_49 rfl ?_
  refine Go.iconst 53 (2 : Int32) d3_52 rfl (by decide) ?_
  refine Go.iloadN 54 d3_53 rfl rfl ?_
  refine Go.imul 55 ((2 : Int32) * i) d3_54 rfl rfl ?_
  refine Go.iconst 56 (1 : Int32) d3_55 rfl (by decide) ?_
  refine Go.iadd 57 (((2 : Int32) * i) + (1 : Int32)) d3_56 rfl rfl ?_
  refine Go.dup2 58 d3_57 rfl rfl rfl ?_
  refine Go.daload 59 A1 (i := 2 * k + 1) hi2 (by rw [List.getElem?_set_ne (by omega)]; exact hv) d3_58 rfl ?_
  refine Go.dload 61 d3_59 rfl rfl ?_
  refine Go.dload 63 d3_61 rfl rfl ?_
  refine Go.dadd 64 c d3_63 rfl q7.1 q7.2 ?_
  refine Go.dadd 65 v' d3_64 rfl q8.1 q8.2 ?_
  refine Go.dastore 66 A1 (i := 2 * k + 1) hi2 (by simpa using l2) nb d3_65 rfl ?_
  intro h2 K2 A2
  exact Go.ret d3_66 rfl (by decide) (by decide) ⟨rfl, K1.trans K2 (fun x hx => Or.inl hx), H1.keep K2 A2⟩
theorem add_ef (a : Nat) (i : Int32) (x y : UInt64) (m : MethodId) : entryFrame m #[.ref a, .int i, .double x, .double y] 14 = mkF m 0 #[.val (.ref a), .val (.int i), .val (.double x), .second, .val (.double y), .second, .unset, .unset, .unset, .unset, .unset, .unset, .unset, .unset] [] := by first | (simp [entryFrame, mkF, argsToLocals, Value.category]; done) | rfl
set_option maxRecDepth 65536 in
set_option maxHeartbeats 40000000 in
theorem value_go (l : Launch) (Z : State) (a0 : Array Value) (hw : ∀ d ∈ tables_1, d.before a0 Z = true) {n0 : Nat} {h : Heap} {a b : Nat} {ds : List UInt64} {i : Int32} {k : Nat} {u : UInt64} (H : CS Z n0 h a b ds) (hi : ((2 : Int32) * i).toInt = (k : Int)) (hu : ds[k]? = some u) :
    Go l Z ({ frames := 0, cells := 0, slots := 0, locals := 0 } : Room) ((⟨"com/example/rorqual/rorqual/CompensatedSums", "value", "(I)D"⟩ : MethodName), prog_12_method_5_code, 2, some .double) n0 (fun v h' => v = some (.double u) ∧ h' = h) h 0 0 0 #[.val (.ref a), .val (.int i)] [] := by
  refine Go.aloadN 1 d4_0 rfl rfl rfl ?_
  refine Go.getf 4 (hw _ (List.mem_of_getElem? (i := 10) rfl)) H.2.1 d4_1 rfl ?_
  refine Go.iconst 5 (2 : Int32) d4_4 rfl (by decide) ?_
  refine Go.iloadN 6 d4_5 rfl rfl ?_
  refine Go.imul 7 ((2 : Int32) * i) d4_6 rfl rfl ?_
  refine Go.daload 8 H.2.2.1 (i := k) hi hu d4_7 rfl ?_
  exact Go.dret d4_8 rfl (by decide) (by decide) ⟨rfl, rfl⟩
set_option maxRecDepth 65536 in
set_option maxHeartbeats 40000000 in
theorem correction_go (l : Launch) (Z : State) (a0 : Array Value) (hw : ∀ d ∈ tables_1, d.before a0 Z = true) {n0 : Nat} {h : Heap} {a b : Nat} {ds : List UInt64} {i : Int32} {k : Nat} {u : UInt64} (H : CS Z n0 h a b ds) (hi : ((2 : Int32) * i + 1).toInt = (k : Int)) (hu : ds[k]? = some u) :
    Go l Z ({ frames := 0, cells := 0, slots := 0, locals := 0 } : Room) ((⟨"com/example/rorqual/rorqual/CompensatedSums", "correction", "(I)D"⟩ : MethodName), prog_12_method_6_code, 2, some .double) n0 (fun v h' => v = some (.double u) ∧ h' = h) h 0 0 0 #[.val (.ref a), .val (.int i)] [] := by
  refine Go.aloadN 1 d5_0 rfl rfl rfl ?_
  refine Go.getf 4 (hw _ (List.mem_of_getElem? (i := 10) rfl)) H.2.1 d5_1 rfl ?_
  refine Go.iconst 5 (2 : Int32) d5_4 rfl (by decide) ?_
  refine Go.iloadN 6 d5_5 rfl rfl ?_
  refine Go.imul 7 ((2 : Int32) * i) d5_6 rfl rfl ?_
  refine Go.iconst 8 (1 : Int32) d5_7 rfl (by decide) ?_
  refine Go.iadd 9 (((2 : Int32) * i) + (1 : Int32)) d5_8 rfl rfl ?_
  refine Go.daload 10 H.2.2.1 (i := k) hi hu d5_9 rfl ?_
  exact Go.dret d5_10 rfl (by decide) (by decide) ⟨rfl, rfl⟩
def Q1 (v : Option Value) (_ : Heap) : Prop := v = some (.int 1)
theorem shl31 (a : Int32) : (a.toInt64 <<< ((31 : Int32).toInt64 &&& 63)).toInt = a.toInt * 2147483648 := by
  have e : ((31 : Int32).toInt64 &&& 63) = (31 : Int64) := by decide
  rw [e]
  have h1 := b32 a
  have h2 : (a.toInt64 <<< (31 : Int64)) = a.toInt64 * 2147483648 := by
    apply Int64.toBitVec_inj.mp
    show a.toInt64.toBitVec <<< ((31 : Int64).toBitVec.smod 64) = a.toInt64.toBitVec * 2147483648#64
    have e2 : (31 : Int64).toBitVec.smod 64 = 31#64 := by decide
    rw [e2]
    show a.toInt64.toBitVec <<< (31#64).toNat = _
    rw [show (31#64).toNat = 31 from rfl, BitVec.shiftLeft_eq_mul_twoPow]
    rfl
  rw [h2]
  exact toInt_lmul (Int32.toInt_toInt64 a) (show (2147483648 : Int64).toInt = 2147483648 by decide) (by omega) (by omega) rfl
theorem and1 (n : Int32) : n &&& 1 = 0 ∨ n &&& 1 = 1 := by
  obtain ⟨j, h1, h2⟩ := and_nat n 1 (by decide)
  have h2 : (n &&& 1).toInt = (j : Int) := h2
  have : j = 0 ∨ j = 1 := by omega
  rcases this with rfl | rfl
  · exact Or.inl (Int32.toInt_inj.mp h2)
  · exact Or.inr (Int32.toInt_inj.mp h2)
theorem ofI64 {j : Int} (h1 : -9223372036854775808 ≤ j) (h2 : j < 9223372036854775808) : ∃ r : Int64, r.toInt = j := ⟨Int64.ofInt j, by
  have e : Int64.size = 18446744073709551616 := rfl
  rw [Int64.toInt_ofInt]; exact Int.bmod_eq_of_le (by rw [e]; omega) (by rw [e]; omega)⟩
/-- the first of the two sums: nothing stands there yet -/
theorem add_first {x y : Int} {a b : UInt64} (ha : FP.Core.DInt x a) (hb : FP.Core.DInt y b) (b3 : x.natAbs ≤ 2 ^ 62) (b4 : y.natAbs ≤ 2 ^ 31) :
    ∃ s f t1 t2 t3 lo c w, (DAdd 0 a s ∧ DSub s 0 f ∧ DSub s f t1 ∧ DSub 0 t1 t2 ∧ DSub a f t3 ∧ DAdd t2 t3 lo ∧ DAdd b lo c ∧ DAdd 0 c w) ∧ FP.Core.DInt x s ∧ FP.Core.DInt y w := by
  obtain ⟨s, q1, d1⟩ := add_rep dint_zero ha (dint_cast ha (Int.zero_add _).symm)
  obtain ⟨f, t1, t2, t3, lo, q2, q3, q4, q5, q6, d6⟩ := two_sum dint_zero ha (by omega) b3 (Or.inl (by omega)) q1 d1 (by omega)
  obtain ⟨c, q7, d7⟩ := addI hb d6 (by omega) (by omega)
  obtain ⟨w, q8, d8⟩ := addI dint_zero d7 (by omega) (by omega)
  exact ⟨s, f, t1, t2, t3, lo, c, w, ⟨q1, q2, q3, q4, q5, q6, q7, q8⟩, dint_cast d1 (by omega), dint_cast d8 (by omega)⟩
/-- the second: what rounding drops is kept beside it -/
theorem add_second {p q x y : Int} {u v a b : UInt64} {e : Int64} (hu : FP.Core.DInt p u) (hv : FP.Core.DInt q v) (ha : FP.Core.DInt x a) (hb : FP.Core.DInt y b) (b1 : p.natAbs ≤ 2 ^ 62) (b2 : q.natAbs ≤ 2 ^ 31) (b3 : x.natAbs ≤ 2 ^ 62) (b4 : y.natAbs ≤ 2 ^ 31) (hsm : p.natAbs ≤ 2 ^ 31 ∨ x.natAbs ≤ 2 ^ 31) (he : e.toInt = p + x) :
    ∃ s f t1 t2 t3 lo c w j, (DAdd u a s ∧ DSub s u f ∧ DSub s f t1 ∧ DSub u t1 t2 ∧ DSub a f t3 ∧ DAdd t2 t3 lo ∧ DAdd b lo c ∧ DAdd v c w) ∧ FP.Core.DInt j s ∧ FP.Core.DInt j (FP.l2d e) ∧ (j - (p + x)).natAbs ≤ 1024 ∧ FP.Core.DInt (q + y + (p + x - j)) w := by
  obtain ⟨s, j, q1, d1, z1, n1⟩ := add_l2d hu ha he
  obtain ⟨f, t1, t2, t3, lo, q2, q3, q4, q5, q6, d6⟩ := two_sum hu ha b1 b3 hsm q1 d1 n1
  obtain ⟨c, q7, d7⟩ := addI hb d6 (by omega) (by omega)
  obtain ⟨w, q8, d8⟩ := addI hv d7 (by omega) (by omega)
  exact ⟨s, f, t1, t2, t3, lo, c, w, j, ⟨q1, q2, q3, q4, q5, q6, q7, q8⟩, d1, z1, n1, dint_cast d8 (by omega)⟩
set_option maxRecDepth 65536 in
set_option maxHeartbeats 40000000 in
theorem law_00 (l : Launch) (Z : State) (a0 : Array Value) (hw : ∀ d ∈ tables_1, d.before a0 Z = true) (a b_ c1 c2 k sw : Int32) (hk : k &&& 1 = 0) (hs : XT.ushr k 1 &&& 1 = sw) (hs0 : sw.toInt = 0) {h : Heap} {n0 : Nat} : Go l Z room_1 (x, code, maxLocals, ret) n0 Q1 h 0 0 0 #[.val (.int a), .val (.int b_), .val (.int c1), .val (.int c2), .val (.int k), .unset, .unset, .unset, .unset, .unset, .unset, .unset, .unset, .unset, .unset, .unset, .unset, .unset, .unset, .unset, .unset, .unset, .unset, .unset, .unset] [] := by
  have B_a := b32 a
  have B_b := b32 b_
  have B_1 := b32 c1
  have B_2 := b32 c2
  obtain ⟨X, hX⟩ : ∃ X : Int, X = a.toInt * 2147483648 := ⟨_, rfl⟩
  obtain ⟨big, hbig⟩ : ∃ big : Int64, a.toInt64 <<< ((31 : Int32).toInt64 &&& 63) = big := ⟨_, rfl⟩
  have ib : big.toInt = X := by rw [← hbig, shl31, hX]
  have dX : FP.Core.DInt X (FP.l2d big) := l2d_rep ib (by rw [hX]; omega)
  have dY := FP.Core.i2d_int b_
  have d1 := FP.Core.i2d_int c1
  have d2 := FP.Core.i2d_int c2
  obtain ⟨e, he⟩ : ∃ e : Int64, big + b_.toInt64 = e := ⟨_, rfl⟩
  have ie : e.toInt = X + b_.toInt := by rw [← he]; exact toInt_ladd ib (Int32.toInt_toInt64 _) (by omega) (by omega) rfl
  refine Go.iload 2 at_0 rfl rfl ?_
  refine Go.iconst 3 (1 : Int32) at_2 rfl (by decide) ?_
  refine Go.iand 4 (0 : Int32) at_3 rfl hk ?_
  refine Go.istore 6 #[.val (.int a), .val (.int b_), .val (.int c1), .val (.int c2), .val (.int k), .val (.int (0 : Int32)), .unset, .unset, .unset, .unset, .unset, .unset, .unset, .unset, .unset, .unset, .unset, .unset, .unset, .unset, .unset, .unset, .unset, .unset, .unset] at_4 rfl rfl ?_
  refine Go.iconst 7 (1 : Int32) at_6 rfl (by decide) ?_
  refine Go.iload 9 at_7 rfl rfl ?_
  refine Go.isub 10 (1 : Int32) at_9 rfl (by decide) ?_
  refine Go.istore 12 #[.val (.int a), .val (.int b_), .val (.int c1), .val (.int c2), .val (.int k), .val (.int (0 : Int32)), .val (.int (1 : Int32)), .unset, .unset, .unset, .unset, .unset, .unset, .unset, .unset, .unset, .unset, .unset, .unset, .unset, .unset, .unset, .unset, .unset, .unset] at_10 rfl rfl ?_
  refine Go.iload 14 at_12 rfl rfl ?_
  refine Go.iconst 15 (1 : Int32) at_14 rfl (by decide) ?_
  refine Go.iushr 16 (XT.ushr k (1 : Int32)) at_15 rfl rfl ?_
  refine Go.iconst 17 (1 : Int32) at_16 rfl (by decide) ?_
  refine Go.iand 18 sw at_17 rfl hs ?_
  refine Go.ifCT 25 at_18 (by decide) (by decide) (show (sw).toInt = 0 from by omega) ?_
  refine Go.iconst 26 (0 : Int32) at_25 rfl (by decide) ?_
  refine Go.istore 28 #[.val (.int a), .val (.int b_), .val (.int c1), .val (.int c2), .val (.int k), .val (.int (0 : Int32)), .val (.int (1 : Int32)), .val (.int (0 : Int32)), .unset, .unset, .unset, .unset, .unset, .unset, .unset, .unset, .unset, .unset, .unset, .unset, .unset, .unset, .unset, .unset, .unset] at_26 rfl rfl ?_
  refine Go.iloadN 29 at_28 rfl rfl ?_
  refine Go.i2l 30 ((a).toInt64) at_29 rfl rfl ?_
  refine Go.bipush 32 (31 : Int32) at_30 rfl (by decide) ?_
  refine Go.lshl 33 big at_32 rfl hbig ?_
  refine Go.lstore 35 #[.val (.int a), .val (.int b_), .val (.int c1), .val (.int c2), .val (.int k), .val (.int (0 : Int32)), .val (.int (1 : Int32)), .val (.int (0 : Int32)), .val (.long big), .second, .unset, .unset, .unset, .unset, .unset, .unset, .unset, .unset, .unset, .unset, .unset, .unset, .unset, .unset, .unset] at_33 rfl rfl ?_
  refine Go.lload 37 at_35 rfl rfl ?_
  refine Go.l2d 38 (FP.l2d big) at_37 rfl rfl ?_
  refine Go.dstore 40 #[.val (.int a), .val (.int b_), .val (.int c1), .val (.int c2), .val (.int k), .val (.int (0 : Int32)), .val (.int (1 : Int32)), .val (.int (0 : Int32)), .val (.long big), .second, .val (.double (FP.l2d big)), .second, .unset, .unset, .unset, .unset, .unset, .unset, .unset, .unset, .unset, .unset, .unset, .unset, .unset] at_38 rfl rfl ?_
  refine Go.iloadN 41 at_40 rfl rfl ?_
  refine Go.i2d 42 (FP.i2d b_) at_41 rfl rfl ?_
  refine Go.dstore 44 #[.val (.int a), .val (.int b_), .val (.int c1), .val (.int c2), .val (.int k), .val (.int (0 : Int32)), .val (.int (1 : Int32)), .val (.int (0 : Int32)), .val (.long big), .second, .val (.double (FP.l2d big)), .second, .val (.double (FP.i2d b_)), .second, .unset, .unset, .unset, .unset, .unset, .unset, .unset, .unset, .unset, .unset, .unset] at_42 rfl rfl ?_
  refine Go.new 47 (hw _ (List.mem_of_getElem? (i := 0) rfl)) (hw _ (List.mem_of_getElem? (i := 1) rfl)) (hw _ (List.mem_of_getElem? (i := 2) rfl)) at_44 rfl (by decide) (by decide) ?_
  intro h1 o E1 g1 g2 na X1 D1
  have F1 : Fld Z h1 o "com/example/rorqual/rorqual/CompensatedSums" "sums" "[D" .null := D1 (Or.inl (hw _ (List.mem_of_getElem? (i := 11) rfl))) (ty := .array .double) (by decide)
  refine Go.dup 48 at_47 rfl rfl ?_
  refine Go.iconst 49 (2 : Int32) at_48 rfl (by decide) ?_
  refine Go.callN 52 [(.int (2 : Int32))] [(.ref o)] rfl (hw _ (List.mem_of_getElem? (i := 3) rfl)) (hw _ (List.mem_of_getElem? (i := 4) rfl)) (hw _ (List.mem_of_getElem? (i := 5) rfl)) (hw _ (List.mem_of_getElem? (i := 2) rfl)) (by decide) pn_1 pd_2 rfl (ef_1_AI o (2 : Int32)) (init_go l Z a0 hw X1 F1 na (k := 2) (by decide) (by decide)) rfl rfl (by decide) (leB rfl) (by decide) (by decide) at_49 rfl ?_
  rintro v h2 ⟨rfl, K2, b, H2⟩
  have H2 : CS Z n0 h2 o b [0, 0, 0, 0] := H2
  refine Go.astore 54 #[.val (.int a), .val (.int b_), .val (.int c1), .val (.int c2), .val (.int k), .val (.int (0 : Int32)), .val (.int (1 : Int32)), .val (.int (0 : Int32)), .val (.long big), .second, .val (.double (FP.l2d big)), .second, .val (.double (FP.i2d b_)), .second, .val (.ref o), .unset, .unset, .unset, .unset, .unset, .unset, .unset, .unset, .unset, .unset] at_52 rfl rfl rfl ?_
  refine Go.aload 56 at_54 rfl rfl rfl ?_
  refine Go.iload 58 at_56 rfl rfl ?_
  refine Go.iload 60 at_58 rfl rfl ?_
  refine Go.ifCT 68 at_60 (by decide) (by decide) (show (0 : Int) = 0 from by decide) ?_
  refine Go.dload 70 at_68 rfl rfl ?_
  refine Go.iloadN 71 at_70 rfl rfl ?_
  refine Go.i2d 72 (FP.i2d c1) at_71 rfl rfl ?_
  obtain ⟨s1, f, t1, t2, t3, lo, cc, w1, ⟨q1, q2, q3, q4, q5, q6, q7, q8⟩, ds1, dw1⟩ := add_first dX d1 (by omega) (by omega)
  refine Go.callV 75 [(.int (0 : Int32)), (.double (FP.l2d big)), (.double (FP.i2d c1))] [] (hw _ (List.mem_of_getElem? (i := 12) rfl)) (hw _ (List.mem_of_getElem? (i := 13) rfl)) (hw _ (List.mem_of_getElem? (i := 15) rfl)) (hw _ (List.mem_of_getElem? (i := 14) rfl)) (hw _ (List.mem_of_getElem? (i := 16) rfl)) (hw _ (List.mem_of_getElem? (i := 2) rfl)) (by decide) pn_1 pd_4 rfl H2.1 (ef_3_AIDD o (0 : Int32) (FP.l2d big) (FP.i2d c1)) (add_go l Z a0 hw H2 (k := 0) (by decide) (by decide) rfl rfl q1 q2 q3 q4 q5 q6 q7 q8) rfl rfl (by decide) (leB rfl) (by decide) (by decide) at_72 rfl ?_
  rintro v h3 ⟨rfl, K3, H3⟩
  clear q1 q2 q3 q4 q5 q6 q7 q8
  have H3 : CS Z n0 h3 o b [s1, w1, 0, 0] := H3
  refine Go.aload 77 at_75 rfl rfl rfl ?_
  refine Go.iload 79 at_77 rfl rfl ?_
  refine Go.iload 81 at_79 rfl rfl ?_
  refine Go.ifCT 89 at_81 (by decide) (by decide) (show (0 : Int) = 0 from by decide) ?_
  refine Go.dload 91 at_89 rfl rfl ?_
  refine Go.iloadN 92 at_91 rfl rfl ?_
  refine Go.i2d 93 (FP.i2d c2) at_92 rfl rfl ?_
  obtain ⟨s2, f2, u1, u2, u3, lo2, cc2, w2, j, ⟨q1, q2, q3, q4, q5, q6, q7, q8⟩, ds2, dl2, nj, dw2⟩ := add_second (e := e) ds1 dw1 dY d2 (by omega) (by omega) (by omega) (by omega) (Or.inr (by omega)) (by omega)
  refine Go.callV 96 [(.int (0 : Int32)), (.double (FP.i2d b_)), (.double (FP.i2d c2))] [] (hw _ (List.mem_of_getElem? (i := 12) rfl)) (hw _ (List.mem_of_getElem? (i := 13) rfl)) (hw _ (List.mem_of_getElem? (i := 15) rfl)) (hw _ (List.mem_of_getElem? (i := 14) rfl)) (hw _ (List.mem_of_getElem? (i := 16) rfl)) (hw _ (List.mem_of_getElem? (i := 2) rfl)) (by decide) pn_1 pd_4 rfl H3.1 (ef_3_AIDD o (0 : Int32) (FP.i2d b_) (FP.i2d c2)) (add_go l Z a0 hw H3 (k := 0) (by decide) (by decide) rfl rfl q1 q2 q3 q4 q5 q6 q7 q8) rfl rfl (by decide) (leB rfl) (by decide) (by decide) at_93 rfl ?_
  rintro v h4 ⟨rfl, K4, H4⟩
  clear q1 q2 q3 q4 q5 q6 q7 q8
  have H4 : CS Z n0 h4 o b [s2, w2, 0, 0] := H4
  refine Go.lload 98 at_96 rfl rfl ?_
  refine Go.iloadN 99 at_98 rfl rfl ?_
  refine Go.i2l 100 ((b_).toInt64) at_99 rfl rfl ?_
  refine Go.ladd 101 e at_100 rfl he ?_
  refine Go.lstore 103 #[.val (.int a), .val (.int b_), .val (.int c1), .val (.int c2), .val (.int k), .val (.int (0 : Int32)), .val (.int (1 : Int32)), .val (.int (0 : Int32)), .val (.long big), .second, .val (.double (FP.l2d big)), .second, .val (.double (FP.i2d b_)), .second, .val (.ref o), .val (.long e), .second, .unset, .unset, .unset, .unset, .unset, .unset, .unset, .unset] at_101 rfl rfl ?_
  refine Go.aload 105 at_103 rfl rfl rfl ?_
  refine Go.iload 107 at_105 rfl rfl ?_
  refine Go.callV 110 [(.int (0 : Int32))] [] (hw _ (List.mem_of_getElem? (i := 17) rfl)) (hw _ (List.mem_of_getElem? (i := 18) rfl)) (hw _ (List.mem_of_getElem? (i := 20) rfl)) (hw _ (List.mem_of_getElem? (i := 19) rfl)) (hw _ (List.mem_of_getElem? (i := 21) rfl)) (hw _ (List.mem_of_getElem? (i := 2) rfl)) (by decide) pn_1 pd_6 rfl H4.1 (ef_4_AI o (0 : Int32)) (value_go l Z a0 hw H4 (k := 0) (by decide) rfl) rfl rfl (by decide) (leB rfl) (by decide) (by decide) at_107 rfl ?_
  rintro _ _ ⟨rfl, rfl⟩
  refine Go.dstore 112 #[.val (.int a), .val (.int b_), .val (.int c1), .val (.int c2), .val (.int k), .val (.int (0 : Int32)), .val (.int (1 : Int32)), .val (.int (0 : Int32)), .val (.long big), .second, .val (.double (FP.l2d big)), .second, .val (.double (FP.i2d b_)), .second, .val (.ref o), .val (.long e), .second, .val (.double s2), .second, .unset, .unset, .unset, .unset, .unset, .unset] at_110 rfl rfl ?_
  refine Go.dload 114 at_112 rfl rfl ?_
  refine Go.lload 116 at_114 rfl rfl ?_
  refine Go.l2d 117 (FP.l2d e) at_116 rfl rfl ?_
  refine Go.dcmp 118 (sg _ _) at_117 rfl (cmpI ds2 dl2 _) ?_
  refine Go.ifCT 123 at_118 (by decide) (by decide) (sg_self rfl) ?_
  obtain ⟨r, hr⟩ := ofI64 (j := j) (by omega) (by omega)
  have hr2 : FP.d2l s2 = r := FP.Core.d2l_int (by rw [hr]; exact ds2)
  refine Go.dload 125 at_123 rfl rfl ?_
  refine Go.d2l 126 r at_125 rfl hr2 ?_
  refine Go.lstore 128 #[.val (.int a), .val (.int b_), .val (.int c1), .val (.int c2), .val (.int k), .val (.int (0 : Int32)), .val (.int (1 : Int32)), .val (.int (0 : Int32)), .val (.long big), .second, .val (.double (FP.l2d big)), .second, .val (.double (FP.i2d b_)), .second, .val (.ref o), .val (.long e), .second, .val (.double s2), .second, .val (.long r), .second, .unset, .unset, .unset, .unset] at_126 rfl rfl ?_
  refine Go.lload 130 at_128 rfl rfl ?_
  refine Go.lload 132 at_130 rfl rfl ?_
  refine Go.lsub 133 (e - r) at_132 rfl rfl ?_
  refine Go.lstore 135 #[.val (.int a), .val (.int b_), .val (.int c1), .val (.int c2), .val (.int k), .val (.int (0 : Int32)), .val (.int (1 : Int32)), .val (.int (0 : Int32)), .val (.long big), .second, .val (.double (FP.l2d big)), .second, .val (.double (FP.i2d b_)), .second, .val (.ref o), .val (.long e), .second, .val (.double s2), .second, .val (.long r), .second, .val (.long (e - r)), .second, .unset, .unset] at_133 rfl rfl ?_
  refine Go.iloadN 136 at_135 rfl rfl ?_
  refine Go.i2l 137 ((c1).toInt64) at_136 rfl rfl ?_
  refine Go.iloadN 138 at_137 rfl rfl ?_
  refine Go.i2l 139 ((c2).toInt64) at_138 rfl rfl ?_
  refine Go.ladd 140 (((c1).toInt64) + ((c2).toInt64)) at_139 rfl rfl ?_
  refine Go.lload 142 at_140 rfl rfl ?_
  refine Go.ladd 143 ((((c1).toInt64) + ((c2).toInt64)) + (e - r)) at_142 rfl rfl ?_
  have i5 : (((((c1).toInt64) + ((c2).toInt64)) + (e - r))).toInt = c1.toInt + c2.toInt + (X + b_.toInt - j) := toInt_ladd (toInt_ladd (Int32.toInt_toInt64 _) (Int32.toInt_toInt64 _) (by omega) (by omega) rfl) (toInt_lsub ie hr (by omega) (by omega) rfl) (by omega) (by omega) rfl
  have z5 : FP.Core.DInt _ (FP.l2d ((((c1).toInt64) + ((c2).toInt64)) + (e - r))) := FP.Core.l2d_int (by rw [i5]; omega)
  refine Go.l2d 144 (FP.l2d ((((c1).toInt64) + ((c2).toInt64)) + (e - r))) at_143 rfl rfl ?_
  refine Go.dstore 146 #[.val (.int a), .val (.int b_), .val (.int c1), .val (.int c2), .val (.int k), .val (.int (0 : Int32)), .val (.int (1 : Int32)), .val (.int (0 : Int32)), .val (.long big), .second, .val (.double (FP.l2d big)), .second, .val (.double (FP.i2d b_)), .second, .val (.ref o), .val (.long e), .second, .val (.double s2), .second, .val (.long r), .second, .val (.long (e - r)), .second, .val (.double (FP.l2d ((((c1).toInt64) + ((c2).toInt64)) + (e - r)))), .second] at_144 rfl rfl ?_
  refine Go.aload 148 at_146 rfl rfl rfl ?_
  refine Go.iload 150 at_148 rfl rfl ?_
  refine Go.callV 153 [(.int (0 : Int32))] [] (hw _ (List.mem_of_getElem? (i := 22) rfl)) (hw _ (List.mem_of_getElem? (i := 23) rfl)) (hw _ (List.mem_of_getElem? (i := 25) rfl)) (hw _ (List.mem_of_getElem? (i := 24) rfl)) (hw _ (List.mem_of_getElem? (i := 26) rfl)) (hw _ (List.mem_of_getElem? (i := 2) rfl)) (by decide) pn_1 pd_6 rfl H4.1 (ef_5_AI o (0 : Int32)) (correction_go l Z a0 hw H4 (k := 1) (by decide) rfl) rfl rfl (by decide) (leB rfl) (by decide) (by decide) at_150 rfl ?_
  rintro _ _ ⟨rfl, rfl⟩
  refine Go.dload 155 at_153 rfl rfl ?_
  refine Go.dcmp 156 (sg _ _) at_155 rfl (cmpI dw2 z5 _) ?_
  refine Go.ifCF 159 at_156 rfl (sg_self (by rw [i5] <;> omega)) ?_
  refine Go.aload 161 at_159 rfl rfl rfl ?_
  refine Go.iload 163 at_161 rfl rfl ?_
  refine Go.callV 166 [(.int (1 : Int32))] [] (hw _ (List.mem_of_getElem? (i := 17) rfl)) (hw _ (List.mem_of_getElem? (i := 18) rfl)) (hw _ (List.mem_of_getElem? (i := 20) rfl)) (hw _ (List.mem_of_getElem? (i := 19) rfl)) (hw _ (List.mem_of_getElem? (i := 21) rfl)) (hw _ (List.mem_of_getElem? (i := 2) rfl)) (by decide) pn_1 pd_6 rfl H4.1 (ef_4_AI o (1 : Int32)) (value_go l Z a0 hw H4 (k := 2) (by decide) rfl) rfl rfl (by decide) (leB rfl) (by decide) (by decide) at_163 rfl ?_
  rintro _ _ ⟨rfl, rfl⟩
  refine Go.dconst0 167 (0 : UInt64) at_166 rfl rfl ?_
  refine Go.dcmp 168 (sg 0 0) at_167 rfl (cmpI dint_zero dint_zero _) ?_
  refine Go.ifCF 171 at_168 rfl (sg_self rfl) ?_
  refine Go.aload 173 at_171 rfl rfl rfl ?_
  refine Go.iload 175 at_173 rfl rfl ?_
  refine Go.callV 178 [(.int (1 : Int32))] [] (hw _ (List.mem_of_getElem? (i := 22) rfl)) (hw _ (List.mem_of_getElem? (i := 23) rfl)) (hw _ (List.mem_of_getElem? (i := 25) rfl)) (hw _ (List.mem_of_getElem? (i := 24) rfl)) (hw _ (List.mem_of_getElem? (i := 26) rfl)) (hw _ (List.mem_of_getElem? (i := 2) rfl)) (by decide) pn_1 pd_6 rfl H4.1 (ef_5_AI o (1 : Int32)) (correction_go l Z a0 hw H4 (k := 3) (by decide) rfl) rfl rfl (by decide) (leB rfl) (by decide) (by decide) at_175 rfl ?_
  rintro _ _ ⟨rfl, rfl⟩
  refine Go.dconst0 179 (0 : UInt64) at_178 rfl rfl ?_
  refine Go.dcmp 180 (sg 0 0) at_179 rfl (cmpI dint_zero dint_zero _) ?_
  refine Go.ifCF 183 at_180 rfl (sg_self rfl) ?_
  refine Go.iconst 184 (1 : Int32) at_183 rfl (by decide) ?_
  refine Go.goto 188 at_184 (by decide) (by decide) ?_
  exact Go.zret at_188 rfl (Or.inr rfl) (by decide) (by decide) rfl
set_option maxRecDepth 65536 in
set_option maxHeartbeats 40000000 in
theorem law_01 (l : Launch) (Z : State) (a0 : Array Value) (hw : ∀ d ∈ tables_1, d.before a0 Z = true) (a b_ c1 c2 k sw : Int32) (hk : k &&& 1 = 0) (hs : XT.ushr k 1 &&& 1 = sw) (hs0 : sw.toInt ≠ 0) {h : Heap} {n0 : Nat} : Go l Z room_1 (x, code, maxLocals, ret) n0 Q1 h 0 0 0 #[.val (.int a), .val (.int b_), .val (.int c1), .val (.int c2), .val (.int k), .unset, .unset, .unset, .unset, .unset, .unset, .unset, .unset, .unset, .unset, .unset, .unset, .unset, .unset, .unset, .unset, .unset, .unset, .unset, .unset] [] := by
  have B_a := b32 a
  have B_b := b32 b_
  have B_1 := b32 c1
  have B_2 := b32 c2
  obtain ⟨X, hX⟩ : ∃ X : Int, X = a.toInt * 2147483648 := ⟨_, rfl⟩
  obtain ⟨big, hbig⟩ : ∃ big : Int64, a.toInt64 <<< ((31 : Int32).toInt64 &&& 63) = big := ⟨_, rfl⟩
  have ib : big.toInt = X := by rw [← hbig, shl31, hX]
  have dX : FP.Core.DInt X (FP.l2d big) := l2d_rep ib (by rw [hX]; omega)
  have dY := FP.Core.i2d_int b_
  have d1 := FP.Core.i2d_int c1
  have d2 := FP.Core.i2d_int c2
  obtain ⟨e, he⟩ : ∃ e : Int64, big + b_.toInt64 = e := ⟨_, rfl⟩
  have ie : e.toInt = X + b_.toInt := by rw [← he]; exact toInt_ladd ib (Int32.toInt_toInt64 _) (by omega) (by omega) rfl
  refine Go.iload 2 at_0 rfl rfl ?_
  refine Go.iconst 3 (1 : Int32) at_2 rfl (by decide) ?_
  refine Go.iand 4 (0 : Int32) at_3 rfl hk ?_
  refine Go.istore 6 #[.val (.int a), .val (.int b_), .val (.int c1), .val (.int c2), .val (.int k), .val (.int (0 : Int32)), .unset, .unset, .unset, .unset, .unset, .unset, .unset, .unset, .unset, .unset, .unset, .unset, .unset, .unset, .unset, .unset, .unset, .unset, .unset] at_4 rfl rfl ?_
  refine Go.iconst 7 (1 : Int32) at_6 rfl (by decide) ?_
  refine Go.iload 9 at_7 rfl rfl ?_
  refine Go.isub 10 (1 : Int32) at_9 rfl (by decide) ?_
  refine Go.istore 12 #[.val (.int a), .val (.int b_), .val (.int c1), .val (.int c2), .val (.int k), .val (.int (0 : Int32)), .val (.int (1 : Int32)), .unset, .unset, .unset, .unset, .unset, .unset, .unset, .unset, .unset, .unset, .unset, .unset, .unset, .unset, .unset, .unset, .unset, .unset] at_10 rfl rfl ?_
  refine Go.iload 14 at_12 rfl rfl ?_
  refine Go.iconst 15 (1 : Int32) at_14 rfl (by decide) ?_
  refine Go.iushr 16 (XT.ushr k (1 : Int32)) at_15 rfl rfl ?_
  refine Go.iconst 17 (1 : Int32) at_16 rfl (by decide) ?_
  refine Go.iand 18 sw at_17 rfl hs ?_
  refine Go.ifCF 21 at_18 rfl (show (sw).toInt ≠ 0 from by omega) ?_
  refine Go.iconst 22 (1 : Int32) at_21 rfl (by decide) ?_
  refine Go.goto 26 at_22 (by decide) (by decide) ?_
  refine Go.istore 28 #[.val (.int a), .val (.int b_), .val (.int c1), .val (.int c2), .val (.int k), .val (.int (0 : Int32)), .val (.int (1 : Int32)), .val (.int (1 : Int32)), .unset, .unset, .unset, .unset, .unset, .unset, .unset, .unset, .unset, .unset, .unset, .unset, .unset, .unset, .unset, .unset, .unset] at_26 rfl rfl ?_
  refine Go.iloadN 29 at_28 rfl rfl ?_
  refine Go.i2l 30 ((a).toInt64) at_29 rfl rfl ?_
  refine Go.bipush 32 (31 : Int32) at_30 rfl (by decide) ?_
  refine Go.lshl 33 big at_32 rfl hbig ?_
  refine Go.lstore 35 #[.val (.int a), .val (.int b_), .val (.int c1), .val (.int c2), .val (.int k), .val (.int (0 : Int32)), .val (.int (1 : Int32)), .val (.int (1 : Int32)), .val (.long big), .second, .unset, .unset, .unset, .unset, .unset, .unset, .unset, .unset, .unset, .unset, .unset, .unset, .unset, .unset, .unset] at_33 rfl rfl ?_
  refine Go.lload 37 at_35 rfl rfl ?_
  refine Go.l2d 38 (FP.l2d big) at_37 rfl rfl ?_
  refine Go.dstore 40 #[.val (.int a), .val (.int b_), .val (.int c1), .val (.int c2), .val (.int k), .val (.int (0 : Int32)), .val (.int (1 : Int32)), .val (.int (1 : Int32)), .val (.long big), .second, .val (.double (FP.l2d big)), .second, .unset, .unset, .unset, .unset, .unset, .unset, .unset, .unset, .unset, .unset, .unset, .unset, .unset] at_38 rfl rfl ?_
  refine Go.iloadN 41 at_40 rfl rfl ?_
  refine Go.i2d 42 (FP.i2d b_) at_41 rfl rfl ?_
  refine Go.dstore 44 #[.val (.int a), .val (.int b_), .val (.int c1), .val (.int c2), .val (.int k), .val (.int (0 : Int32)), .val (.int (1 : Int32)), .val (.int (1 : Int32)), .val (.long big), .second, .val (.double (FP.l2d big)), .second, .val (.double (FP.i2d b_)), .second, .unset, .unset, .unset, .unset, .unset, .unset, .unset, .unset, .unset, .unset, .unset] at_42 rfl rfl ?_
  refine Go.new 47 (hw _ (List.mem_of_getElem? (i := 0) rfl)) (hw _ (List.mem_of_getElem? (i := 1) rfl)) (hw _ (List.mem_of_getElem? (i := 2) rfl)) at_44 rfl (by decide) (by decide) ?_
  intro h1 o E1 g1 g2 na X1 D1
  have F1 : Fld Z h1 o "com/example/rorqual/rorqual/CompensatedSums" "sums" "[D" .null := D1 (Or.inl (hw _ (List.mem_of_getElem? (i := 11) rfl))) (ty := .array .double) (by decide)
  refine Go.dup 48 at_47 rfl rfl ?_
  refine Go.iconst 49 (2 : Int32) at_48 rfl (by decide) ?_
  refine Go.callN 52 [(.int (2 : Int32))] [(.ref o)] rfl (hw _ (List.mem_of_getElem? (i := 3) rfl)) (hw _ (List.mem_of_getElem? (i := 4) rfl)) (hw _ (List.mem_of_getElem? (i := 5) rfl)) (hw _ (List.mem_of_getElem? (i := 2) rfl)) (by decide) pn_1 pd_2 rfl (ef_1_AI o (2 : Int32)) (init_go l Z a0 hw X1 F1 na (k := 2) (by decide) (by decide)) rfl rfl (by decide) (leB rfl) (by decide) (by decide) at_49 rfl ?_
  rintro v h2 ⟨rfl, K2, b, H2⟩
  have H2 : CS Z n0 h2 o b [0, 0, 0, 0] := H2
  refine Go.astore 54 #[.val (.int a), .val (.int b_), .val (.int c1), .val (.int c2), .val (.int k), .val (.int (0 : Int32)), .val (.int (1 : Int32)), .val (.int (1 : Int32)), .val (.long big), .second, .val (.double (FP.l2d big)), .second, .val (.double (FP.i2d b_)), .second, .val (.ref o), .unset, .unset, .unset, .unset, .unset, .unset, .unset, .unset, .unset, .unset] at_52 rfl rfl rfl ?_
  refine Go.aload 56 at_54 rfl rfl rfl ?_
  refine Go.iload 58 at_56 rfl rfl ?_
  refine Go.iload 60 at_58 rfl rfl ?_
  refine Go.ifCF 63 at_60 rfl (show (1 : Int) ≠ 0 from by decide) ?_
  refine Go.dload 65 at_63 rfl rfl ?_
  refine Go.goto 70 at_65 (by decide) (by decide) ?_
  refine Go.iloadN 71 at_70 rfl rfl ?_
  refine Go.i2d 72 (FP.i2d c1) at_71 rfl rfl ?_
  obtain ⟨s1, f, t1, t2, t3, lo, cc, w1, ⟨q1, q2, q3, q4, q5, q6, q7, q8⟩, ds1, dw1⟩ := add_first dY d1 (by omega) (by omega)
  refine Go.callV 75 [(.int (0 : Int32)), (.double (FP.i2d b_)), (.double (FP.i2d c1))] [] (hw _ (List.mem_of_getElem? (i := 12) rfl)) (hw _ (List.mem_of_getElem? (i := 13) rfl)) (hw _ (List.mem_of_getElem? (i := 15) rfl)) (hw _ (List.mem_of_getElem? (i := 14) rfl)) (hw _ (List.mem_of_getElem? (i := 16) rfl)) (hw _ (List.mem_of_getElem? (i := 2) rfl)) (by decide) pn_1 pd_4 rfl H2.1 (ef_3_AIDD o (0 : Int32) (FP.i2d b_) (FP.i2d c1)) (add_go l Z a0 hw H2 (k := 0) (by decide) (by decide) rfl rfl q1 q2 q3 q4 q5 q6 q7 q8) rfl rfl (by decide) (leB rfl) (by decide) (by decide) at_72 rfl ?_
  rintro v h3 ⟨rfl, K3, H3⟩
  clear q1 q2 q3 q4 q5 q6 q7 q8
  have H3 : CS Z n0 h3 o b [s1, w1, 0, 0] := H3
  refine Go.aload 77 at_75 rfl rfl rfl ?_
  refine Go.iload 79 at_77 rfl rfl ?_
  refine Go.iload 81 at_79 rfl rfl ?_
  refine Go.ifCF 84 at_81 rfl (show (1 : Int) ≠ 0 from by decide) ?_
  refine Go.dload 86 at_84 rfl rfl ?_
  refine Go.goto 91 at_86 (by decide) (by decide) ?_
  refine Go.iloadN 92 at_91 rfl rfl ?_
  refine Go.i2d 93 (FP.i2d c2) at_92 rfl rfl ?_
  obtain ⟨s2, f2, u1, u2, u3, lo2, cc2, w2, j, ⟨q1, q2, q3, q4, q5, q6, q7, q8⟩, ds2, dl2, nj, dw2⟩ := add_second (e := e) ds1 dw1 dX d2 (by omega) (by omega) (by omega) (by omega) (Or.inl (by omega)) (by omega)
  refine Go.callV 96 [(.int (0 : Int32)), (.double (FP.l2d big)), (.double (FP.i2d c2))] [] (hw _ (List.mem_of_getElem? (i := 12) rfl)) (hw _ (List.mem_of_getElem? (i := 13) rfl)) (hw _ (List.mem_of_getElem? (i := 15) rfl)) (hw _ (List.mem_of_getElem? (i := 14) rfl)) (hw _ (List.mem_of_getElem? (i := 16) rfl)) (hw _ (List.mem_of_getElem? (i := 2) rfl)) (by decide) pn_1 pd_4 rfl H3.1 (ef_3_AIDD o (0 : Int32) (FP.l2d big) (FP.i2d c2)) (add_go l Z a0 hw H3 (k := 0) (by decide) (by decide) rfl rfl q1 q2 q3 q4 q5 q6 q7 q8) rfl rfl (by decide) (leB rfl) (by decide) (by decide) at_93 rfl ?_
  rintro v h4 ⟨rfl, K4, H4⟩
  clear q1 q2 q3 q4 q5 q6 q7 q8
  have H4 : CS Z n0 h4 o b [s2, w2, 0, 0] := H4
  refine Go.lload 98 at_96 rfl rfl ?_
  refine Go.iloadN 99 at_98 rfl rfl ?_
  refine Go.i2l 100 ((b_).toInt64) at_99 rfl rfl ?_
  refine Go.ladd 101 e at_100 rfl he ?_
  refine Go.lstore 103 #[.val (.int a), .val (.int b_), .val (.int c1), .val (.int c2), .val (.int k), .val (.int (0 : Int32)), .val (.int (1 : Int32)), .val (.int (1 : Int32)), .val (.long big), .second, .val (.double (FP.l2d big)), .second, .val (.double (FP.i2d b_)), .second, .val (.ref o), .val (.long e), .second, .unset, .unset, .unset, .unset, .unset, .unset, .unset, .unset] at_101 rfl rfl ?_
  refine Go.aload 105 at_103 rfl rfl rfl ?_
  refine Go.iload 107 at_105 rfl rfl ?_
  refine Go.callV 110 [(.int (0 : Int32))] [] (hw _ (List.mem_of_getElem? (i := 17) rfl)) (hw _ (List.mem_of_getElem? (i := 18) rfl)) (hw _ (List.mem_of_getElem? (i := 20) rfl)) (hw _ (List.mem_of_getElem? (i := 19) rfl)) (hw _ (List.mem_of_getElem? (i := 21) rfl)) (hw _ (List.mem_of_getElem? (i := 2) rfl)) (by decide) pn_1 pd_6 rfl H4.1 (ef_4_AI o (0 : Int32)) (value_go l Z a0 hw H4 (k := 0) (by decide) rfl) rfl rfl (by decide) (leB rfl) (by decide) (by decide) at_107 rfl ?_
  rintro _ _ ⟨rfl, rfl⟩
  refine Go.dstore 112 #[.val (.int a), .val (.int b_), .val (.int c1), .val (.int c2), .val (.int k), .val (.int (0 : Int32)), .val (.int (1 : Int32)), .val (.int (1 : Int32)), .val (.long big), .second, .val (.double (FP.l2d big)), .second, .val (.double (FP.i2d b_)), .second, .val (.ref o), .val (.long e), .second, .val (.double s2), .second, .unset, .unset, .unset, .unset, .unset, .unset] at_110 rfl rfl ?_
  refine Go.dload 114 at_112 rfl rfl ?_
  refine Go.lload 116 at_114 rfl rfl ?_
  refine Go.l2d 117 (FP.l2d e) at_116 rfl rfl ?_
  refine Go.dcmp 118 (sg _ _) at_117 rfl (cmpI ds2 dl2 _) ?_
  refine Go.ifCT 123 at_118 (by decide) (by decide) (sg_self rfl) ?_
  obtain ⟨r, hr⟩ := ofI64 (j := j) (by omega) (by omega)
  have hr2 : FP.d2l s2 = r := FP.Core.d2l_int (by rw [hr]; exact ds2)
  refine Go.dload 125 at_123 rfl rfl ?_
  refine Go.d2l 126 r at_125 rfl hr2 ?_
  refine Go.lstore 128 #[.val (.int a), .val (.int b_), .val (.int c1), .val (.int c2), .val (.int k), .val (.int (0 : Int32)), .val (.int (1 : Int32)), .val (.int (1 : Int32)), .val (.long big), .second, .val (.double (FP.l2d big)), .second, .val (.double (FP.i2d b_)), .second, .val (.ref o), .val (.long e), .second, .val (.double s2), .second, .val (.long r), .second, .unset, .unset, .unset, .unset] at_126 rfl rfl ?_
  refine Go.lload 130 at_128 rfl rfl ?_
  refine Go.lload 132 at_130 rfl rfl ?_
  refine Go.lsub 133 (e - r) at_132 rfl rfl ?_
  refine Go.lstore 135 #[.val (.int a), .val (.int b_), .val (.int c1), .val (.int c2), .val (.int k), .val (.int (0 : Int32)), .val (.int (1 : Int32)), .val (.int (1 : Int32)), .val (.long big), .second, .val (.double (FP.l2d big)), .second, .val (.double (FP.i2d b_)), .second, .val (.ref o), .val (.long e), .second, .val (.double s2), .second, .val (.long r), .second, .val (.long (e - r)), .second, .unset, .unset] at_133 rfl rfl ?_
  refine Go.iloadN 136 at_135 rfl rfl ?_
  refine Go.i2l 137 ((c1).toInt64) at_136 rfl rfl ?_
  refine Go.iloadN 138 at_137 rfl rfl ?_
  refine Go.i2l 139 ((c2).toInt64) at_138 rfl rfl ?_
  refine Go.ladd 140 (((c1).toInt64) + ((c2).toInt64)) at_139 rfl rfl ?_
  refine Go.lload 142 at_140 rfl rfl ?_
  refine Go.ladd 143 ((((c1).toInt64) + ((c2).toInt64)) + (e - r)) at_142 rfl rfl ?_
  have i5 : (((((c1).toInt64) + ((c2).toInt64)) + (e - r))).toInt = c1.toInt + c2.toInt + (X + b_.toInt - j) := toInt_ladd (toInt_ladd (Int32.toInt_toInt64 _) (Int32.toInt_toInt64 _) (by omega) (by omega) rfl) (toInt_lsub ie hr (by omega) (by omega) rfl) (by omega) (by omega) rfl
  have z5 : FP.Core.DInt _ (FP.l2d ((((c1).toInt64) + ((c2).toInt64)) + (e - r))) := FP.Core.l2d_int (by rw [i5]; omega)
  refine Go.l2d 144 (FP.l2d ((((c1).toInt64) + ((c2).toInt64)) + (e - r))) at_143 rfl rfl ?_
  refine Go.dstore 146 #[.val (.int a), .val (.int b_), .val (.int c1), .val (.int c2), .val (.int k), .val (.int (0 : Int32)), .val (.int (1 : Int32)), .val (.int (1 : Int32)), .val (.long big), .second, .val (.double (FP.l2d big)), .second, .val (.double (FP.i2d b_)), .second, .val (.ref o), .val (.long e), .second, .val (.double s2), .second, .val (.long r), .second, .val (.long (e - r)), .second, .val (.double (FP.l2d ((((c1).toInt64) + ((c2).toInt64)) + (e - r)))), .second] at_144 rfl rfl ?_
  refine Go.aload 148 at_146 rfl rfl rfl ?_
  refine Go.iload 150 at_148 rfl rfl ?_
  refine Go.callV 153 [(.int (0 : Int32))] [] (hw _ (List.mem_of_getElem? (i := 22) rfl)) (hw _ (List.mem_of_getElem? (i := 23) rfl)) (hw _ (List.mem_of_getElem? (i := 25) rfl)) (hw _ (List.mem_of_getElem? (i := 24) rfl)) (hw _ (List.mem_of_getElem? (i := 26) rfl)) (hw _ (List.mem_of_getElem? (i := 2) rfl)) (by decide) pn_1 pd_6 rfl H4.1 (ef_5_AI o (0 : Int32)) (correction_go l Z a0 hw H4 (k := 1) (by decide) rfl) rfl rfl (by decide) (leB rfl) (by decide) (by decide) at_150 rfl ?_
  rintro _ _ ⟨rfl, rfl⟩
  refine Go.dload 155 at_153 rfl rfl ?_
  refine Go.dcmp 156 (sg _ _) at_155 rfl (cmpI dw2 z5 _) ?_
  refine Go.ifCF 159 at_156 rfl (sg_self (by rw [i5] <;> omega)) ?_
  refine Go.aload 161 at_159 rfl rfl rfl ?_
  refine Go.iload 163 at_161 rfl rfl ?_
  refine Go.callV 166 [(.int (1 : Int32))] [] (hw _ (List.mem_of_getElem? (i := 17) rfl)) (hw _ (List.mem_of_getElem? (i := 18) rfl)) (hw _ (List.mem_of_getElem? (i := 20) rfl)) (hw _ (List.mem_of_getElem? (i := 19) rfl)) (hw _ (List.mem_of_getElem? (i := 21) rfl)) (hw _ (List.mem_of_getElem? (i := 2) rfl)) (by decide) pn_1 pd_6 rfl H4.1 (ef_4_AI o (1 : Int32)) (value_go l Z a0 hw H4 (k := 2) (by decide) rfl) rfl rfl (by decide) (leB rfl) (by decide) (by decide) at_163 rfl ?_
  rintro _ _ ⟨rfl, rfl⟩
  refine Go.dconst0 167 (0 : UInt64) at_166 rfl rfl ?_
  refine Go.dcmp 168 (sg 0 0) at_167 rfl (cmpI dint_zero dint_zero _) ?_
  refine Go.ifCF 171 at_168 rfl (sg_self rfl) ?_
  refine Go.aload 173 at_171 rfl rfl rfl ?_
  refine Go.iload 175 at_173 rfl rfl ?_
  refine Go.callV 178 [(.int (1 : Int32))] [] (hw _ (List.mem_of_getElem? (i := 22) rfl)) (hw _ (List.mem_of_getElem? (i := 23) rfl)) (hw _ (List.mem_of_getElem? (i := 25) rfl)) (hw _ (List.mem_of_getElem? (i := 24) rfl)) (hw _ (List.mem_of_getElem? (i := 26) rfl)) (hw _ (List.mem_of_getElem? (i := 2) rfl)) (by decide) pn_1 pd_6 rfl H4.1 (ef_5_AI o (1 : Int32)) (correction_go l Z a0 hw H4 (k := 3) (by decide) rfl) rfl rfl (by decide) (leB rfl) (by decide) (by decide) at_175 rfl ?_
  rintro _ _ ⟨rfl, rfl⟩
  refine Go.dconst0 179 (0 : UInt64) at_178 rfl rfl ?_
  refine Go.dcmp 180 (sg 0 0) at_179 rfl (cmpI dint_zero dint_zero _) ?_
  refine Go.ifCF 183 at_180 rfl (sg_self rfl) ?_
  refine Go.iconst 184 (1 : Int32) at_183 rfl (by decide) ?_
  refine Go.goto 188 at_184 (by decide) (by decide) ?_
  exact Go.zret at_188 rfl (Or.inr rfl) (by decide) (by decide) rfl
set_option maxRecDepth 65536 in
set_option maxHeartbeats 40000000 in
theorem law_10 (l : Launch) (Z : State) (a0 : Array Value) (hw : ∀ d ∈ tables_1, d.before a0 Z = true) (a b_ c1 c2 k sw : Int32) (hk : k &&& 1 = 1) (hs : XT.ushr k 1 &&& 1 = sw) (hs0 : sw.toInt = 0) {h : Heap} {n0 : Nat} : Go l Z room_1 (x, code, maxLocals, ret) n0 Q1 h 0 0 0 #[.val (.int a), .val (.int b_), .val (.int c1), .val (.int c2), .val (.int k), .unset, .unset, .unset, .unset, .unset, .unset, .unset, .unset, .unset, .unset, .unset, .unset, .unset, .unset, .unset, .unset, .unset, .unset, .unset, .unset] [] := by
  have B_a := b32 a
  have B_b := b32 b_
  have B_1 := b32 c1
  have B_2 := b32 c2
  obtain ⟨X, hX⟩ : ∃ X : Int, X = a.toInt * 2147483648 := ⟨_, rfl⟩
  obtain ⟨big, hbig⟩ : ∃ big : Int64, a.toInt64 <<< ((31 : Int32).toInt64 &&& 63) = big := ⟨_, rfl⟩
  have ib : big.toInt = X := by rw [← hbig, shl31, hX]
  have dX : FP.Core.DInt X (FP.l2d big) := l2d_rep ib (by rw [hX]; omega)
  have dY := FP.Core.i2d_int b_
  have d1 := FP.Core.i2d_int c1
  have d2 := FP.Core.i2d_int c2
  obtain ⟨e, he⟩ : ∃ e : Int64, big + b_.toInt64 = e := ⟨_, rfl⟩
  have ie : e.toInt = X + b_.toInt := by rw [← he]; exact toInt_ladd ib (Int32.toInt_toInt64 _) (by omega) (by omega) rfl
  refine Go.iload 2 at_0 rfl rfl ?_
  refine Go.iconst 3 (1 : Int32) at_2 rfl (by decide) ?_
  refine Go.iand 4 (1 : Int32) at_3 rfl hk ?_
  refine Go.istore 6 #[.val (.int a), .val (.int b_), .val (.int c1), .val (.int c2), .val (.int k), .val (.int (1 : Int32)), .unset, .unset, .unset, .unset, .unset, .unset, .unset, .unset, .unset, .unset, .unset, .unset, .unset, .unset, .unset, .unset, .unset, .unset, .unset] at_4 rfl rfl ?_
  refine Go.iconst 7 (1 : Int32) at_6 rfl (by decide) ?_
  refine Go.iload 9 at_7 rfl rfl ?_
  refine Go.isub 10 (0 : Int32) at_9 rfl (by decide) ?_
  refine Go.istore 12 #[.val (.int a), .val (.int b_), .val (.int c1), .val (.int c2), .val (.int k), .val (.int (1 : Int32)), .val (.int (0 : Int32)), .unset, .unset, .unset, .unset, .unset, .unset, .unset, .unset, .unset, .unset, .unset, .unset, .unset, .unset, .unset, .unset, .unset, .unset] at_10 rfl rfl ?_
  refine Go.iload 14 at_12 rfl rfl ?_
  refine Go.iconst 15 (1 : Int32) at_14 rfl (by decide) ?_
  refine Go.iushr 16 (XT.ushr k (1 : Int32)) at_15 rfl rfl ?_
  refine Go.iconst 17 (1 : Int32) at_16 rfl (by decide) ?_
  refine Go.iand 18 sw at_17 rfl hs ?_
  refine Go.ifCT 25 at_18 (by decide) (by decide) (show (sw).toInt = 0 from by omega) ?_
  refine Go.iconst 26 (0 : Int32) at_25 rfl (by decide) ?_
  refine Go.istore 28 #[.val (.int a), .val (.int b_), .val (.int c1), .val (.int c2), .val (.int k), .val (.int (1 : Int32)), .val (.int (0 : Int32)), .val (.int (0 : Int32)), .unset, .unset, .unset, .unset, .unset, .unset, .unset, .unset, .unset, .unset, .unset, .unset, .unset, .unset, .unset, .unset, .unset] at_26 rfl rfl ?_
  refine Go.iloadN 29 at_28 rfl rfl ?_
  refine Go.i2l 30 ((a).toInt64) at_29 rfl rfl ?_
  refine Go.bipush 32 (31 : Int32) at_30 rfl (by decide) ?_
  refine Go.lshl 33 big at_32 rfl hbig ?_
  refine Go.lstore 35 #[.val (.int a), .val (.int b_), .val (.int c1), .val (.int c2), .val (.int k), .val (.int (1 : Int32)), .val (.int (0 : Int32)), .val (.int (0 : Int32)), .val (.long big), .second, .unset, .unset, .unset, .unset, .unset, .unset, .unset, .unset, .unset, .unset, .unset, .unset, .unset, .unset, .unset] at_33 rfl rfl ?_
  refine Go.lload 37 at_35 rfl rfl ?_
  refine Go.l2d 38 (FP.l2d big) at_37 rfl rfl ?_
  refine Go.dstore 40 #[.val (.int a), .val (.int b_), .val (.int c1), .val (.int c2), .val (.int k), .val (.int (1 : Int32)), .val (.int (0 : Int32)), .val (.int (0 : Int32)), .val (.long big), .second, .val (.double (FP.l2d big)), .second, .unset, .unset, .unset, .unset, .unset, .unset, .unset, .unset, .unset, .unset, .unset, .unset, .unset] at_38 rfl rfl ?_
  refine Go.iloadN 41 at_40 rfl rfl ?_
  refine Go.i2d 42 (FP.i2d b_) at_41 rfl rfl ?_
  refine Go.dstore 44 #[.val (.int a), .val (.int b_), .val (.int c1), .val (.int c2), .val (.int k), .val (.int (1 : Int32)), .val (.int (0 : Int32)), .val (.int (0 : Int32)), .val (.long big), .second, .val (.double (FP.l2d big)), .second, .val (.double (FP.i2d b_)), .second, .unset, .unset, .unset, .unset, .unset, .unset, .unset, .unset, .unset, .unset, .unset] at_42 rfl rfl ?_
  refine Go.new 47 (hw _ (List.mem_of_getElem? (i := 0) rfl)) (hw _ (List.mem_of_getElem? (i := 1) rfl)) (hw _ (List.mem_of_getElem? (i := 2) rfl)) at_44 rfl (by decide) (by decide) ?_
  intro h1 o E1 g1 g2 na X1 D1
  have F1 : Fld Z h1 o "com/example/rorqual/rorqual/CompensatedSums" "sums" "[D" .null := D1 (Or.inl (hw _ (List.mem_of_getElem? (i := 11) rfl))) (ty := .array .double) (by decide)
  refine Go.dup 48 at_47 rfl rfl ?_
  refine Go.iconst 49 (2 : Int32) at_48 rfl (by decide) ?_
  refine Go.callN 52 [(.int (2 : Int32))] [(.ref o)] rfl (hw _ (List.mem_of_getElem? (i := 3) rfl)) (hw _ (List.mem_of_getElem? (i := 4) rfl)) (hw _ (List.mem_of_getElem? (i := 5) rfl)) (hw _ (List.mem_of_getElem? (i := 2) rfl)) (by decide) pn_1 pd_2 rfl (ef_1_AI o (2 : Int32)) (init_go l Z a0 hw X1 F1 na (k := 2) (by decide) (by decide)) rfl rfl (by decide) (leB rfl) (by decide) (by decide) at_49 rfl ?_
  rintro v h2 ⟨rfl, K2, b, H2⟩
  have H2 : CS Z n0 h2 o b [0, 0, 0, 0] := H2
  refine Go.astore 54 #[.val (.int a), .val (.int b_), .val (.int c1), .val (.int c2), .val (.int k), .val (.int (1 : Int32)), .val (.int (0 : Int32)), .val (.int (0 : Int32)), .val (.long big), .second, .val (.double (FP.l2d big)), .second, .val (.double (FP.i2d b_)), .second, .val (.ref o), .unset, .unset, .unset, .unset, .unset, .unset, .unset, .unset, .unset, .unset] at_52 rfl rfl rfl ?_
  refine Go.aload 56 at_54 rfl rfl rfl ?_
  refine Go.iload 58 at_56 rfl rfl ?_
  refine Go.iload 60 at_58 rfl rfl ?_
  refine Go.ifCT 68 at_60 (by decide) (by decide) (show (0 : Int) = 0 from by decide) ?_
  refine Go.dload 70 at_68 rfl rfl ?_
  refine Go.iloadN 71 at_70 rfl rfl ?_
  refine Go.i2d 72 (FP.i2d c1) at_71 rfl rfl ?_
  obtain ⟨s1, f, t1, t2, t3, lo, cc, w1, ⟨q1, q2, q3, q4, q5, q6, q7, q8⟩, ds1, dw1⟩ := add_first dX d1 (by omega) (by omega)
  refine Go.callV 75 [(.int (1 : Int32)), (.double (FP.l2d big)), (.double (FP.i2d c1))] [] (hw _ (List.mem_of_getElem? (i := 12) rfl)) (hw _ (List.mem_of_getElem? (i := 13) rfl)) (hw _ (List.mem_of_getElem? (i := 15) rfl)) (hw _ (List.mem_of_getElem? (i := 14) rfl)) (hw _ (List.mem_of_getElem? (i := 16) rfl)) (hw _ (List.mem_of_getElem? (i := 2) rfl)) (by decide) pn_1 pd_4 rfl H2.1 (ef_3_AIDD o (1 : Int32) (FP.l2d big) (FP.i2d c1)) (add_go l Z a0 hw H2 (k := 1) (by decide) (by decide) rfl rfl q1 q2 q3 q4 q5 q6 q7 q8) rfl rfl (by decide) (leB rfl) (by decide) (by decide) at_72 rfl ?_
  rintro v h3 ⟨rfl, K3, H3⟩
  clear q1 q2 q3 q4 q5 q6 q7 q8
  have H3 : CS Z n0 h3 o b [0, 0, s1, w1] := H3
  refine Go.aload 77 at_75 rfl rfl rfl ?_
  refine Go.iload 79 at_77 rfl rfl ?_
  refine Go.iload 81 at_79 rfl rfl ?_
  refine Go.ifCT 89 at_81 (by decide) (by decide) (show (0 : Int) = 0 from by decide) ?_
  refine Go.dload 91 at_89 rfl rfl ?_
  refine Go.iloadN 92 at_91 rfl rfl ?_
  refine Go.i2d 93 (FP.i2d c2) at_92 rfl rfl ?_
  obtain ⟨s2, f2, u1, u2, u3, lo2, cc2, w2, j, ⟨q1, q2, q3, q4, q5, q6, q7, q8⟩, ds2, dl2, nj, dw2⟩ := add_second (e := e) ds1 dw1 dY d2 (by omega) (by omega) (by omega) (by omega) (Or.inr (by omega)) (by omega)
  refine Go.callV 96 [(.int (1 : Int32)), (.double (FP.i2d b_)), (.double (FP.i2d c2))] [] (hw _ (List.mem_of_getElem? (i := 12) rfl)) (hw _ (List.mem_of_getElem? (i := 13) rfl)) (hw _ (List.mem_of_getElem? (i := 15) rfl)) (hw _ (List.mem_of_getElem? (i := 14) rfl)) (hw _ (List.mem_of_getElem? (i := 16) rfl)) (hw _ (List.mem_of_getElem? (i := 2) rfl)) (by decide) pn_1 pd_4 rfl H3.1 (ef_3_AIDD o (1 : Int32) (FP.i2d b_) (FP.i2d c2)) (add_go l Z a0 hw H3 (k := 1) (by decide) (by decide) rfl rfl q1 q2 q3 q4 q5 q6 q7 q8) rfl rfl (by decide) (leB rfl) (by decide) (by decide) at_93 rfl ?_
  rintro v h4 ⟨rfl, K4, H4⟩
  clear q1 q2 q3 q4 q5 q6 q7 q8
  have H4 : CS Z n0 h4 o b [0, 0, s2, w2] := H4
  refine Go.lload 98 at_96 rfl rfl ?_
  refine Go.iloadN 99 at_98 rfl rfl ?_
  refine Go.i2l 100 ((b_).toInt64) at_99 rfl rfl ?_
  refine Go.ladd 101 e at_100 rfl he ?_
  refine Go.lstore 103 #[.val (.int a), .val (.int b_), .val (.int c1), .val (.int c2), .val (.int k), .val (.int (1 : Int32)), .val (.int (0 : Int32)), .val (.int (0 : Int32)), .val (.long big), .second, .val (.double (FP.l2d big)), .second, .val (.double (FP.i2d b_)), .second, .val (.ref o), .val (.long e), .second, .unset, .unset, .unset, .unset, .unset, .unset, .unset, .unset] at_101 rfl rfl ?_
  refine Go.aload 105 at_103 rfl rfl rfl ?_
  refine Go.iload 107 at_105 rfl rfl ?_
  refine Go.callV 110 [(.int (1 : Int32))] [] (hw _ (List.mem_of_getElem? (i := 17) rfl)) (hw _ (List.mem_of_getElem? (i := 18) rfl)) (hw _ (List.mem_of_getElem? (i := 20) rfl)) (hw _ (List.mem_of_getElem? (i := 19) rfl)) (hw _ (List.mem_of_getElem? (i := 21) rfl)) (hw _ (List.mem_of_getElem? (i := 2) rfl)) (by decide) pn_1 pd_6 rfl H4.1 (ef_4_AI o (1 : Int32)) (value_go l Z a0 hw H4 (k := 2) (by decide) rfl) rfl rfl (by decide) (leB rfl) (by decide) (by decide) at_107 rfl ?_
  rintro _ _ ⟨rfl, rfl⟩
  refine Go.dstore 112 #[.val (.int a), .val (.int b_), .val (.int c1), .val (.int c2), .val (.int k), .val (.int (1 : Int32)), .val (.int (0 : Int32)), .val (.int (0 : Int32)), .val (.long big), .second, .val (.double (FP.l2d big)), .second, .val (.double (FP.i2d b_)), .second, .val (.ref o), .val (.long e), .second, .val (.double s2), .second, .unset, .unset, .unset, .unset, .unset, .unset] at_110 rfl rfl ?_
  refine Go.dload 114 at_112 rfl rfl ?_
  refine Go.lload 116 at_114 rfl rfl ?_
  refine Go.l2d 117 (FP.l2d e) at_116 rfl rfl ?_
  refine Go.dcmp 118 (sg _ _) at_117 rfl (cmpI ds2 dl2 _) ?_
  refine Go.ifCT 123 at_118 (by decide) (by decide) (sg_self rfl) ?_
  obtain ⟨r, hr⟩ := ofI64 (j := j) (by omega) (by omega)
  have hr2 : FP.d2l s2 = r := FP.Core.d2l_int (by rw [hr]; exact ds2)
  refine Go.dload 125 at_123 rfl rfl ?_
  refine Go.d2l 126 r at_125 rfl hr2 ?_
  refine Go.lstore 128 #[.val (.int a), .val (.int b_), .val (.int c1), .val (.int c2), .val (.int k), .val (.int (1 : Int32)), .val (.int (0 : Int32)), .val (.int (0 : Int32)), .val (.long big), .second, .val (.double (FP.l2d big)), .second, .val (.double (FP.i2d b_)), .second, .val (.ref o), .val (.long e), .second, .val (.double s2), .second, .val (.long r), .second, .unset, .unset, .unset, .unset] at_126 rfl rfl ?_
  refine Go.lload 130 at_128 rfl rfl ?_
  refine Go.lload 132 at_130 rfl rfl ?_
  refine Go.lsub 133 (e - r) at_132 rfl rfl ?_
  refine Go.lstore 135 #[.val (.int a), .val (.int b_), .val (.int c1), .val (.int c2), .val (.int k), .val (.int (1 : Int32)), .val (.int (0 : Int32)), .val (.int (0 : Int32)), .val (.long big), .second, .val (.double (FP.l2d big)), .second, .val (.double (FP.i2d b_)), .second, .val (.ref o), .val (.long e), .second, .val (.double s2), .second, .val (.long r), .second, .val (.long (e - r)), .second, .unset, .unset] at_133 rfl rfl ?_
  refine Go.iloadN 136 at_135 rfl rfl ?_
  refine Go.i2l 137 ((c1).toInt64) at_136 rfl rfl ?_
  refine Go.iloadN 138 at_137 rfl rfl ?_
  refine Go.i2l 139 ((c2).toInt64) at_138 rfl rfl ?_
  refine Go.ladd 140 (((c1).toInt64) + ((c2).toInt64)) at_139 rfl rfl ?_
  refine Go.lload 142 at_140 rfl rfl ?_
  refine Go.ladd 143 ((((c1).toInt64) + ((c2).toInt64)) + (e - r)) at_142 rfl rfl ?_
  have i5 : (((((c1).toInt64) + ((c2).toInt64)) + (e - r))).toInt = c1.toInt + c2.toInt + (X + b_.toInt - j) := toInt_ladd (toInt_ladd (Int32.toInt_toInt64 _) (Int32.toInt_toInt64 _) (by omega) (by omega) rfl) (toInt_lsub ie hr (by omega) (by omega) rfl) (by omega) (by omega) rfl
  have z5 : FP.Core.DInt _ (FP.l2d ((((c1).toInt64) + ((c2).toInt64)) + (e - r))) := FP.Core.l2d_int (by rw [i5]; omega)
  refine Go.l2d 144 (FP.l2d ((((c1).toInt64) + ((c2).toInt64)) + (e - r))) at_143 rfl rfl ?_
  refine Go.dstore 146 #[.val (.int a), .val (.int b_), .val (.int c1), .val (.int c2), .val (.int k), .val (.int (1 : Int32)), .val (.int (0 : Int32)), .val (.int (0 : Int32)), .val (.long big), .second, .val (.double (FP.l2d big)), .second, .val (.double (FP.i2d b_)), .second, .val (.ref o), .val (.long e), .second, .val (.double s2), .second, .val (.long r), .second, .val (.long (e - r)), .second, .val (.double (FP.l2d ((((c1).toInt64) + ((c2).toInt64)) + (e - r)))), .second] at_144 rfl rfl ?_
  refine Go.aload 148 at_146 rfl rfl rfl ?_
  refine Go.iload 150 at_148 rfl rfl ?_
  refine Go.callV 153 [(.int (1 : Int32))] [] (hw _ (List.mem_of_getElem? (i := 22) rfl)) (hw _ (List.mem_of_getElem? (i := 23) rfl)) (hw _ (List.mem_of_getElem? (i := 25) rfl)) (hw _ (List.mem_of_getElem? (i := 24) rfl)) (hw _ (List.mem_of_getElem? (i := 26) rfl)) (hw _ (List.mem_of_getElem? (i := 2) rfl)) (by decide) pn_1 pd_6 rfl H4.1 (ef_5_AI o (1 : Int32)) (correction_go l Z a0 hw H4 (k := 3) (by decide) rfl) rfl rfl (by decide) (leB rfl) (by decide) (by decide) at_150 rfl ?_
  rintro _ _ ⟨rfl, rfl⟩
  refine Go.dload 155 at_153 rfl rfl ?_
  refine Go.dcmp 156 (sg _ _) at_155 rfl (cmpI dw2 z5 _) ?_
  refine Go.ifCF 159 at_156 rfl (sg_self (by rw [i5] <;> omega)) ?_
  refine Go.aload 161 at_159 rfl rfl rfl ?_
  refine Go.iload 163 at_161 rfl rfl ?_
  refine Go.callV 166 [(.int (0 : Int32))] [] (hw _ (List.mem_of_getElem? (i := 17) rfl)) (hw _ (List.mem_of_getElem? (i := 18) rfl)) (hw _ (List.mem_of_getElem? (i := 20) rfl)) (hw _ (List.mem_of_getElem? (i := 19) rfl)) (hw _ (List.mem_of_getElem? (i := 21) rfl)) (hw _ (List.mem_of_getElem? (i := 2) rfl)) (by decide) pn_1 pd_6 rfl H4.1 (ef_4_AI o (0 : Int32)) (value_go l Z a0 hw H4 (k := 0) (by decide) rfl) rfl rfl (by decide) (leB rfl) (by decide) (by decide) at_163 rfl ?_
  rintro _ _ ⟨rfl, rfl⟩
  refine Go.dconst0 167 (0 : UInt64) at_166 rfl rfl ?_
  refine Go.dcmp 168 (sg 0 0) at_167 rfl (cmpI dint_zero dint_zero _) ?_
  refine Go.ifCF 171 at_168 rfl (sg_self rfl) ?_
  refine Go.aload 173 at_171 rfl rfl rfl ?_
  refine Go.iload 175 at_173 rfl rfl ?_
  refine Go.callV 178 [(.int (0 : Int32))] [] (hw _ (List.mem_of_getElem? (i := 22) rfl)) (hw _ (List.mem_of_getElem? (i := 23) rfl)) (hw _ (List.mem_of_getElem? (i := 25) rfl)) (hw _ (List.mem_of_getElem? (i := 24) rfl)) (hw _ (List.mem_of_getElem? (i := 26) rfl)) (hw _ (List.mem_of_getElem? (i := 2) rfl)) (by decide) pn_1 pd_6 rfl H4.1 (ef_5_AI o (0 : Int32)) (correction_go l Z a0 hw H4 (k := 1) (by decide) rfl) rfl rfl (by decide) (leB rfl) (by decide) (by decide) at_175 rfl ?_
  rintro _ _ ⟨rfl, rfl⟩
  refine Go.dconst0 179 (0 : UInt64) at_178 rfl rfl ?_
  refine Go.dcmp 180 (sg 0 0) at_179 rfl (cmpI dint_zero dint_zero _) ?_
  refine Go.ifCF 183 at_180 rfl (sg_self rfl) ?_
  refine Go.iconst 184 (1 : Int32) at_183 rfl (by decide) ?_
  refine Go.goto 188 at_184 (by decide) (by decide) ?_
  exact Go.zret at_188 rfl (Or.inr rfl) (by decide) (by decide) rfl
set_option maxRecDepth 65536 in
set_option maxHeartbeats 40000000 in
theorem law_11 (l : Launch) (Z : State) (a0 : Array Value) (hw : ∀ d ∈ tables_1, d.before a0 Z = true) (a b_ c1 c2 k sw : Int32) (hk : k &&& 1 = 1) (hs : XT.ushr k 1 &&& 1 = sw) (hs0 : sw.toInt ≠ 0) {h : Heap} {n0 : Nat} : Go l Z room_1 (x, code, maxLocals, ret) n0 Q1 h 0 0 0 #[.val (.int a), .val (.int b_), .val (.int c1), .val (.int c2), .val (.int k), .unset, .unset, .unset, .unset, .unset, .unset, .unset, .unset, .unset, .unset, .unset, .unset, .unset, .unset, .unset, .unset, .unset, .unset, .unset, .unset] [] := by
  have B_a := b32 a
  have B_b := b32 b_
  have B_1 := b32 c1
  have B_2 := b32 c2
  obtain ⟨X, hX⟩ : ∃ X : Int, X = a.toInt * 2147483648 := ⟨_, rfl⟩
  obtain ⟨big, hbig⟩ : ∃ big : Int64, a.toInt64 <<< ((31 : Int32).toInt64 &&& 63) = big := ⟨_, rfl⟩
  have ib : big.toInt = X := by rw [← hbig, shl31, hX]
  have dX : FP.Core.DInt X (FP.l2d big) := l2d_rep ib (by rw [hX]; omega)
  have dY := FP.Core.i2d_int b_
  have d1 := FP.Core.i2d_int c1
  have d2 := FP.Core.i2d_int c2
  obtain ⟨e, he⟩ : ∃ e : Int64, big + b_.toInt64 = e := ⟨_, rfl⟩
  have ie : e.toInt = X + b_.toInt := by rw [← he]; exact toInt_ladd ib (Int32.toInt_toInt64 _) (by omega) (by omega) rfl
  refine Go.iload 2 at_0 rfl rfl ?_
  refine Go.iconst 3 (1 : Int32) at_2 rfl (by decide) ?_
  refine Go.iand 4 (1 : Int32) at_3 rfl hk ?_
  refine Go.istore 6 #[.val (.int a), .val (.int b_), .val (.int c1), .val (.int c2), .val (.int k), .val (.int (1 : Int32)), .unset, .unset, .unset, .unset, .unset, .unset, .unset, .unset, .unset, .unset, .unset, .unset, .unset, .unset, .unset, .unset, .unset, .unset, .unset] at_4 rfl rfl ?_
  refine Go.iconst 7 (1 : Int32) at_6 rfl (by decide) ?_
  refine Go.iload 9 at_7 rfl rfl ?_
  refine Go.isub 10 (0 : Int32) at_9 rfl (by decide) ?_
  refine Go.istore 12 #[.val (.int a), .val (.int b_), .val (.int c1), .val (.int c2), .val (.int k), .val (.int (1 : Int32)), .val (.int (0 : Int32)), .unset, .unset, .unset, .unset, .unset, .unset, .unset, .unset, .unset, .unset, .unset, .unset, .unset, .unset, .unset, .unset, .unset, .unset] at_10 rfl rfl ?_
  refine Go.iload 14 at_12 rfl rfl ?_
  refine Go.iconst 15 (1 : Int32) at_14 rfl (by decide) ?_
  refine Go.iushr 16 (XT.ushr k (1 : Int32)) at_15 rfl rfl ?_
  refine Go.iconst 17 (1 : Int32) at_16 rfl (by decide) ?_
  refine Go.iand 18 sw at_17 rfl hs ?_
  refine Go.ifCF 21 at_18 rfl (show (sw).toInt ≠ 0 from by omega) ?_
  refine Go.iconst 22 (1 : Int32) at_21 rfl (by decide) ?_
  refine Go.goto 26 at_22 (by decide) (by decide) ?_
  refine Go.istore 28 #[.val (.int a), .val (.int b_), .val (.int c1), .val (.int c2), .val (.int k), .val (.int (1 : Int32)), .val (.int (0 : Int32)), .val (.int (1 : Int32)), .unset, .unset, .unset, .unset, .unset, .unset, .unset, .unset, .unset, .unset, .unset, .unset, .unset, .unset, .unset, .unset, .unset] at_26 rfl rfl ?_
  refine Go.iloadN 29 at_28 rfl rfl ?_
  refine Go.i2l 30 ((a).toInt64) at_29 rfl rfl ?_
  refine Go.bipush 32 (31 : Int32) at_30 rfl (by decide) ?_
  refine Go.lshl 33 big at_32 rfl hbig ?_
  refine Go.lstore 35 #[.val (.int a), .val (.int b_), .val (.int c1), .val (.int c2), .val (.int k), .val (.int (1 : Int32)), .val (.int (0 : Int32)), .val (.int (1 : Int32)), .val (.long big), .second, .unset, .unset, .unset, .unset, .unset, .unset, .unset, .unset, .unset, .unset, .unset, .unset, .unset, .unset, .unset] at_33 rfl rfl ?_
  refine Go.lload 37 at_35 rfl rfl ?_
  refine Go.l2d 38 (FP.l2d big) at_37 rfl rfl ?_
  refine Go.dstore 40 #[.val (.int a), .val (.int b_), .val (.int c1), .val (.int c2), .val (.int k), .val (.int (1 : Int32)), .val (.int (0 : Int32)), .val (.int (1 : Int32)), .val (.long big), .second, .val (.double (FP.l2d big)), .second, .unset, .unset, .unset, .unset, .unset, .unset, .unset, .unset, .unset, .unset, .unset, .unset, .unset] at_38 rfl rfl ?_
  refine Go.iloadN 41 at_40 rfl rfl ?_
  refine Go.i2d 42 (FP.i2d b_) at_41 rfl rfl ?_
  refine Go.dstore 44 #[.val (.int a), .val (.int b_), .val (.int c1), .val (.int c2), .val (.int k), .val (.int (1 : Int32)), .val (.int (0 : Int32)), .val (.int (1 : Int32)), .val (.long big), .second, .val (.double (FP.l2d big)), .second, .val (.double (FP.i2d b_)), .second, .unset, .unset, .unset, .unset, .unset, .unset, .unset, .unset, .unset, .unset, .unset] at_42 rfl rfl ?_
  refine Go.new 47 (hw _ (List.mem_of_getElem? (i := 0) rfl)) (hw _ (List.mem_of_getElem? (i := 1) rfl)) (hw _ (List.mem_of_getElem? (i := 2) rfl)) at_44 rfl (by decide) (by decide) ?_
  intro h1 o E1 g1 g2 na X1 D1
  have F1 : Fld Z h1 o "com/example/rorqual/rorqual/CompensatedSums" "sums" "[D" .null := D1 (Or.inl (hw _ (List.mem_of_getElem? (i := 11) rfl))) (ty := .array .double) (by decide)
  refine Go.dup 48 at_47 rfl rfl ?_
  refine Go.iconst 49 (2 : Int32) at_48 rfl (by decide) ?_
  refine Go.callN 52 [(.int (2 : Int32))] [(.ref o)] rfl (hw _ (List.mem_of_getElem? (i := 3) rfl)) (hw _ (List.mem_of_getElem? (i := 4) rfl)) (hw _ (List.mem_of_getElem? (i := 5) rfl)) (hw _ (List.mem_of_getElem? (i := 2) rfl)) (by decide) pn_1 pd_2 rfl (ef_1_AI o (2 : Int32)) (init_go l Z a0 hw X1 F1 na (k := 2) (by decide) (by decide)) rfl rfl (by decide) (leB rfl) (by decide) (by decide) at_49 rfl ?_
  rintro v h2 ⟨rfl, K2, b, H2⟩
  have H2 : CS Z n0 h2 o b [0, 0, 0, 0] := H2
  refine Go.astore 54 #[.val (.int a), .val (.int b_), .val (.int c1), .val (.int c2), .val (.int k), .val (.int (1 : Int32)), .val (.int (0 : Int32)), .val (.int (1 : Int32)), .val (.long big), .second, .val (.double (FP.l2d big)), .second, .val (.double (FP.i2d b_)), .second, .val (.ref o), .unset, .unset, .unset, .unset, .unset, .unset, .unset, .unset, .unset, .unset] at_52 rfl rfl rfl ?_
  refine Go.aload 56 at_54 rfl rfl rfl ?_
  refine Go.iload 58 at_56 rfl rfl ?_
  refine Go.iload 60 at_58 rfl rfl ?_
  refine Go.ifCF 63 at_60 rfl (show (1 : Int) ≠ 0 from by decide) ?_
  refine Go.dload 65 at_63 rfl rfl ?_
  refine Go.goto 70 at_65 (by decide) (by decide) ?_
  refine Go.iloadN 71 at_70 rfl rfl ?_
  refine Go.i2d 72 (FP.i2d c1) at_71 rfl rfl ?_
  obtain ⟨s1, f, t1, t2, t3, lo, cc, w1, ⟨q1, q2, q3, q4, q5, q6, q7, q8⟩, ds1, dw1⟩ := add_first dY d1 (by omega) (by omega)
  refine Go.callV 75 [(.int (1 : Int32)), (.double (FP.i2d b_)), (.double (FP.i2d c1))] [] (hw _ (List.mem_of_getElem? (i := 12) rfl)) (hw _ (List.mem_of_getElem? (i := 13) rfl)) (hw _ (List.mem_of_getElem? (i := 15) rfl)) (hw _ (List.mem_of_getElem? (i := 14) rfl)) (hw _ (List.mem_of_getElem? (i := 16) rfl)) (hw _ (List.mem_of_getElem? (i := 2) rfl)) (by decide) pn_1 pd_4 rfl H2.1 (ef_3_AIDD o (1 : Int32) (FP.i2d b_) (FP.i2d c1)) (add_go l Z a0 hw H2 (k := 1) (by decide) (by decide) rfl rfl q1 q2 q3 q4 q5 q6 q7 q8) rfl rfl (by decide) (leB rfl) (by decide) (by decide) at_72 rfl ?_
  rintro v h3 ⟨rfl, K3, H3⟩
  clear q1 q2 q3 q4 q5 q6 q7 q8
  have H3 : CS Z n0 h3 o b [0, 0, s1, w1] := H3
  refine Go.aload 77 at_75 rfl rfl rfl ?_
  refine Go.iload 79 at_77 rfl rfl ?_
  refine Go.iload 81 at_79 rfl rfl ?_
  refine Go.ifCF 84 at_81 rfl (show (1 : Int) ≠ 0 from by decide) ?_
  refine Go.dload 86 at_84 rfl rfl ?_
  refine Go.goto 91 at_86 (by decide) (by decide) ?_
  refine Go.iloadN 92 at_91 rfl rfl ?_
  refine Go.i2d 93 (FP.i2d c2) at_92 rfl rfl ?_
  obtain ⟨s2, f2, u1, u2, u3, lo2, cc2, w2, j, ⟨q1, q2, q3, q4, q5, q6, q7, q8⟩, ds2, dl2, nj, dw2⟩ := add_second (e := e) ds1 dw1 dX d2 (by omega) (by omega) (by omega) (by omega) (Or.inl (by omega)) (by omega)
  refine Go.callV 96 [(.int (1 : Int32)), (.double (FP.l2d big)), (.double (FP.i2d c2))] [] (hw _ (List.mem_of_getElem? (i := 12) rfl)) (hw _ (List.mem_of_getElem? (i := 13) rfl)) (hw _ (List.mem_of_getElem? (i := 15) rfl)) (hw _ (List.mem_of_getElem? (i := 14) rfl)) (hw _ (List.mem_of_getElem? (i := 16) rfl)) (hw _ (List.mem_of_getElem? (i := 2) rfl)) (by decide) pn_1 pd_4 rfl H3.1 (ef_3_AIDD o (1 : Int32) (FP.l2d big) (FP.i2d c2)) (add_go l Z a0 hw H3 (k := 1) (by decide) (by decide) rfl rfl q1 q2 q3 q4 q5 q6 q7 q8) rfl rfl (by decide) (leB rfl) (by decide) (by decide) at_93 rfl ?_
  rintro v h4 ⟨rfl, K4, H4⟩
  clear q1 q2 q3 q4 q5 q6 q7 q8
  have H4 : CS Z n0 h4 o b [0, 0, s2, w2] := H4
  refine Go.lload 98 at_96 rfl rfl ?_
  refine Go.iloadN 99 at_98 rfl rfl ?_
  refine Go.i2l 100 ((b_).toInt64) at_99 rfl rfl ?_
  refine Go.ladd 101 e at_100 rfl he ?_
  refine Go.lstore 103 #[.val (.int a), .val (.int b_), .val (.int c1), .val (.int c2), .val (.int k), .val (.int (1 : Int32)), .val (.int (0 : Int32)), .val (.int (1 : Int32)), .val (.long big), .second, .val (.double (FP.l2d big)), .second, .val (.double (FP.i2d b_)), .second, .val (.ref o), .val (.long e), .second, .unset, .unset, .unset, .unset, .unset, .unset, .unset, .unset] at_101 rfl rfl ?_
  refine Go.aload 105 at_103 rfl rfl rfl ?_
  refine Go.iload 107 at_105 rfl rfl ?_
  refine Go.callV 110 [(.int (1 : Int32))] [] (hw _ (List.mem_of_getElem? (i := 17) rfl)) (hw _ (List.mem_of_getElem? (i := 18) rfl)) (hw _ (List.mem_of_getElem? (i := 20) rfl)) (hw _ (List.mem_of_getElem? (i := 19) rfl)) (hw _ (List.mem_of_getElem? (i := 21) rfl)) (hw _ (List.mem_of_getElem? (i := 2) rfl)) (by decide) pn_1 pd_6 rfl H4.1 (ef_4_AI o (1 : Int32)) (value_go l Z a0 hw H4 (k := 2) (by decide) rfl) rfl rfl (by decide) (leB rfl) (by decide) (by decide) at_107 rfl ?_
  rintro _ _ ⟨rfl, rfl⟩
  refine Go.dstore 112 #[.val (.int a), .val (.int b_), .val (.int c1), .val (.int c2), .val (.int k), .val (.int (1 : Int32)), .val (.int (0 : Int32)), .val (.int (1 : Int32)), .val (.long big), .second, .val (.double (FP.l2d big)), .second, .val (.double (FP.i2d b_)), .second, .val (.ref o), .val (.long e), .second, .val (.double s2), .second, .unset, .unset, .unset, .unset, .unset, .unset] at_110 rfl rfl ?_
  refine Go.dload 114 at_112 rfl rfl ?_
  refine Go.lload 116 at_114 rfl rfl ?_
  refine Go.l2d 117 (FP.l2d e) at_116 rfl rfl ?_
  refine Go.dcmp 118 (sg _ _) at_117 rfl (cmpI ds2 dl2 _) ?_
  refine Go.ifCT 123 at_118 (by decide) (by decide) (sg_self rfl) ?_
  obtain ⟨r, hr⟩ := ofI64 (j := j) (by omega) (by omega)
  have hr2 : FP.d2l s2 = r := FP.Core.d2l_int (by rw [hr]; exact ds2)
  refine Go.dload 125 at_123 rfl rfl ?_
  refine Go.d2l 126 r at_125 rfl hr2 ?_
  refine Go.lstore 128 #[.val (.int a), .val (.int b_), .val (.int c1), .val (.int c2), .val (.int k), .val (.int (1 : Int32)), .val (.int (0 : Int32)), .val (.int (1 : Int32)), .val (.long big), .second, .val (.double (FP.l2d big)), .second, .val (.double (FP.i2d b_)), .second, .val (.ref o), .val (.long e), .second, .val (.double s2), .second, .val (.long r), .second, .unset, .unset, .unset, .unset] at_126 rfl rfl ?_
  refine Go.lload 130 at_128 rfl rfl ?_
  refine Go.lload 132 at_130 rfl rfl ?_
  refine Go.lsub 133 (e - r) at_132 rfl rfl ?_
  refine Go.lstore 135 #[.val (.int a), .val (.int b_), .val (.int c1), .val (.int c2), .val (.int k), .val (.int (1 : Int32)), .val (.int (0 : Int32)), .val (.int (1 : Int32)), .val (.long big), .second, .val (.double (FP.l2d big)), .second, .val (.double (FP.i2d b_)), .second, .val (.ref o), .val (.long e), .second, .val (.double s2), .second, .val (.long r), .second, .val (.long (e - r)), .second, .unset, .unset] at_133 rfl rfl ?_
  refine Go.iloadN 136 at_135 rfl rfl ?_
  refine Go.i2l 137 ((c1).toInt64) at_136 rfl rfl ?_
  refine Go.iloadN 138 at_137 rfl rfl ?_
  refine Go.i2l 139 ((c2).toInt64) at_138 rfl rfl ?_
  refine Go.ladd 140 (((c1).toInt64) + ((c2).toInt64)) at_139 rfl rfl ?_
  refine Go.lload 142 at_140 rfl rfl ?_
  refine Go.ladd 143 ((((c1).toInt64) + ((c2).toInt64)) + (e - r)) at_142 rfl rfl ?_
  have i5 : (((((c1).toInt64) + ((c2).toInt64)) + (e - r))).toInt = c1.toInt + c2.toInt + (X + b_.toInt - j) := toInt_ladd (toInt_ladd (Int32.toInt_toInt64 _) (Int32.toInt_toInt64 _) (by omega) (by omega) rfl) (toInt_lsub ie hr (by omega) (by omega) rfl) (by omega) (by omega) rfl
  have z5 : FP.Core.DInt _ (FP.l2d ((((c1).toInt64) + ((c2).toInt64)) + (e - r))) := FP.Core.l2d_int (by rw [i5]; omega)
  refine Go.l2d 144 (FP.l2d ((((c1).toInt64) + ((c2).toInt64)) + (e - r))) at_143 rfl rfl ?_
  refine Go.dstore 146 #[.val (.int a), .val (.int b_), .val (.int c1), .val (.int c2), .val (.int k), .val (.int (1 : Int32)), .val (.int (0 : Int32)), .val (.int (1 : Int32)), .val (.long big), .second, .val (.double (FP.l2d big)), .second, .val (.double (FP.i2d b_)), .second, .val (.ref o), .val (.long e), .second, .val (.double s2), .second, .val (.long r), .second, .val (.long (e - r)), .second, .val (.double (FP.l2d ((((c1).toInt64) + ((c2).toInt64)) + (e - r)))), .second] at_144 rfl rfl ?_
  refine Go.aload 148 at_146 rfl rfl rfl ?_
  refine Go.iload 150 at_148 rfl rfl ?_
  refine Go.callV 153 [(.int (1 : Int32))] [] (hw _ (List.mem_of_getElem? (i := 22) rfl)) (hw _ (List.mem_of_getElem? (i := 23) rfl)) (hw _ (List.mem_of_getElem? (i := 25) rfl)) (hw _ (List.mem_of_getElem? (i := 24) rfl)) (hw _ (List.mem_of_getElem? (i := 26) rfl)) (hw _ (List.mem_of_getElem? (i := 2) rfl)) (by decide) pn_1 pd_6 rfl H4.1 (ef_5_AI o (1 : Int32)) (correction_go l Z a0 hw H4 (k := 3) (by decide) rfl) rfl rfl (by decide) (leB rfl) (by decide) (by decide) at_150 rfl ?_
  rintro _ _ ⟨rfl, rfl⟩
  refine Go.dload 155 at_153 rfl rfl ?_
  refine Go.dcmp 156 (sg _ _) at_155 rfl (cmpI dw2 z5 _) ?_
  refine Go.ifCF 159 at_156 rfl (sg_self (by rw [i5] <;> omega)) ?_
  refine Go.aload 161 at_159 rfl rfl rfl ?_
  refine Go.iload 163 at_161 rfl rfl ?_
  refine Go.callV 166 [(.int (0 : Int32))] [] (hw _ (List.mem_of_getElem? (i := 17) rfl)) (hw _ (List.mem_of_getElem? (i := 18) rfl)) (hw _ (List.mem_of_getElem? (i := 20) rfl)) (hw _ (List.mem_of_getElem? (i := 19) rfl)) (hw _ (List.mem_of_getElem? (i := 21) rfl)) (hw _ (List.mem_of_getElem? (i := 2) rfl)) (by decide) pn_1 pd_6 rfl H4.1 (ef_4_AI o (0 : Int32)) (value_go l Z a0 hw H4 (k := 0) (by decide) rfl) rfl rfl (by decide) (leB rfl) (by decide) (by decide) at_163 rfl ?_
  rintro _ _ ⟨rfl, rfl⟩
  refine Go.dconst0 167 (0 : UInt64) at_166 rfl rfl ?_
  refine Go.dcmp 168 (sg 0 0) at_167 rfl (cmpI dint_zero dint_zero _) ?_
  refine Go.ifCF 171 at_168 rfl (sg_self rfl) ?_
  refine Go.aload 173 at_171 rfl rfl rfl ?_
  refine Go.iload 175 at_173 rfl rfl ?_
  refine Go.callV 178 [(.int (0 : Int32))] [] (hw _ (List.mem_of_getElem? (i := 22) rfl)) (hw _ (List.mem_of_getElem? (i := 23) rfl)) (hw _ (List.mem_of_getElem? (i := 25) rfl)) (hw _ (List.mem_of_getElem? (i := 24) rfl)) (hw _ (List.mem_of_getElem? (i := 26) rfl)) (hw _ (List.mem_of_getElem? (i := 2) rfl)) (by decide) pn_1 pd_6 rfl H4.1 (ef_5_AI o (0 : Int32)) (correction_go l Z a0 hw H4 (k := 1) (by decide) rfl) rfl rfl (by decide) (leB rfl) (by decide) (by decide) at_175 rfl ?_
  rintro _ _ ⟨rfl, rfl⟩
  refine Go.dconst0 179 (0 : UInt64) at_178 rfl rfl ?_
  refine Go.dcmp 180 (sg 0 0) at_179 rfl (cmpI dint_zero dint_zero _) ?_
  refine Go.ifCF 183 at_180 rfl (sg_self rfl) ?_
  refine Go.iconst 184 (1 : Int32) at_183 rfl (by decide) ?_
  refine Go.goto 188 at_184 (by decide) (by decide) ?_
  exact Go.zret at_188 rfl (Or.inr rfl) (by decide) (by decide) rfl
theorem law_go (l : Launch) (Z : State) (a0 : Array Value) (hw : ∀ d ∈ tables_1, d.before a0 Z = true) (a b_ c1 c2 k : Int32) {h : Heap} {n0 : Nat} : Go l Z room_1 (x, code, maxLocals, ret) n0 Q1 h 0 0 0 #[.val (.int a), .val (.int b_), .val (.int c1), .val (.int c2), .val (.int k), .unset, .unset, .unset, .unset, .unset, .unset, .unset, .unset, .unset, .unset, .unset, .unset, .unset, .unset, .unset, .unset, .unset, .unset, .unset, .unset] [] := by
  by_cases hs : (XT.ushr k 1 &&& 1).toInt = 0
  · rcases and1 k with hk | hk
    · exact law_00 l Z a0 hw a b_ c1 c2 k _ hk rfl hs
    · exact law_10 l Z a0 hw a b_ c1 c2 k _ hk rfl hs
  · rcases and1 k with hk | hk
    · exact law_01 l Z a0 hw a b_ c1 c2 k _ hk rfl hs
    · exact law_11 l Z a0 hw a b_ c1 c2 k _ hk rfl hs
set_option maxRecDepth 65536 in
set_option maxHeartbeats 40000000 in
theorem comes_1 {Post : Tables → Env → Array Value → State → Outcome → State → Prop} (hpost : ∀ tb e args s v u, (limb_1_1.after args s (.returned v) u = true ∧ limb_1_2.after args s (.returned v) u = true ∧ True) → FrameEnd s (.returned v) u (Jvm.fieldLocs frame_1_writes args s ++ Jvm.arrayLocs frame_1_arrays args s ++ Jvm.staticLocs frame_1_statics s) 16 128 → Post tb e args s (.returned v) u) :
    ArmFor flags0 classFile x code maxLocals ret World_1 tables_1 room_1 Calls_1 rest_1 Pre_1 Post := by
  intro l hfl _ _ p e ha hc hk s m args below hf hA hF happ hP
  obtain ⟨hcalls, hrest, hpre⟩ := hP
  obtain ⟨-, -, -, hnamed, -, -, -, hat⟩ := (Spec.applies_iff hf).mp happ
  obtain ⟨hg, hn⟩ := and_e (Cond.before_iff.mp (show (Jvm.Cond.and given_1 narrow_1).before args s = true from hpre))
  obtain ⟨h1, g0⟩ := and_e hg
  obtain ⟨k0, g1⟩ := and_e g0
  obtain ⟨k1, g2⟩ := and_e g1
  obtain ⟨k2, g3⟩ := and_e g2
  obtain ⟨k3, g4⟩ := and_e g3
  obtain ⟨w0, w1, w2, w3, w4, rfl⟩ : ∃ w0 w1 w2 w3 w4 : Value, args = #[w0, w1, w2, w3, w4] := by
    have hs : args.size = 5 := by simpa [Cond.value, given_1] using h1
    obtain ⟨L⟩ := args
    match L, hs with
    | [w0, w1, w2, w3, w4], _ => exact ⟨w0, w1, w2, w3, w4, rfl⟩
  have hw := fun d (hd : d ∈ tables_1) => atoms_spec (ws := Jvm.Cond.code x code maxLocals ret :: tables_1) hat d (List.mem_cons_of_mem _ hd)
  obtain ⟨i0, e0⟩ := is_v k0
  obtain rfl : w0 = (.int i0) := Option.some.inj e0
  obtain ⟨i1, e1⟩ := is_v k1
  obtain rfl : w1 = (.int i1) := Option.some.inj e1
  obtain ⟨i2, e2⟩ := is_v k2
  obtain rfl : w2 = (.int i2) := Option.some.inj e2
  obtain ⟨i3, e3⟩ := is_v k3
  obtain rfl : w3 = (.int i3) := Option.some.inj e3
  obtain ⟨i4, e4⟩ := is_v g4
  obtain rfl : w4 = (.int i4) := Option.some.inj e4
  obtain ⟨n, o, h1, h2, h3, _, L, rfl, ⟨rfl, -, N⟩, hq⟩ := (law_go l s _ hw i0 i1 i2 i3 i4 (h := s.heap) (n0 := s.heap.size)).met (ws := tables_1) (Q := Q1) law_pn (Nat.le_refl s.heap.size) (ef_0_IIIII i0 i1 i2 i3 i4) p e ha hc hk s m _ below hf ((Spec.applies_iff_loose hf).mp happ).1 ⟨rfl, State.WarmedH.refl s, rfl⟩ trivial
  refine ⟨n, _, h1, h2, h3, hpost _ _ _ _ _ _ ⟨Cond.after_iff.mpr rfl, Cond.after_iff.mpr (eq_i res_at (Term.int_eval (1)) rfl), trivial⟩ ⟨hq.1, hq.2.1, (hq.2.2.sift fun y hy => Or.inr (N y hy)).mono (by decide) (by decide)⟩⟩
theorem main_1_1 : Claimed_1_1 := comes_1 fun _ _ _ _ _ _ h hF => ⟨h.1, hF⟩
theorem main_1_2 : Claimed_1_2 := comes_1 fun _ _ _ _ _ _ h hF => ⟨h.2.1, hF⟩
end Jvm.Pilot.@@N@@
namespace Jvm.Pilot.@@N@@
open Jvm Jvm.ClassFile Sem Op Lib Jvm.Free Jvm.Stand Jvm.Pilot.@@N@@.Jvm.D
/-! MADE BY PROGRAM (witnessworld.py) out of the Statement's table words and the real class files: 11 classes; the members and pool entries that the words name. The judged class is class 1, her method 1. -/
namespace start1
open Jvm.ClassFile
def u (s : String) : CpInfo := .utf8 (stringToUtf16 s)
/-- a pool by its gaps: so many unusable entries, then the entry; so many at the end -/
def gap : Nat → List CpInfo → List CpInfo
  | 0, r => r
  | n + 1, r => .unusable :: gap n r
def poolList (es : List (Nat × CpInfo)) (last : Nat) : List CpInfo := es.foldr (fun e r => gap e.1 (e.2 :: r)) (gap last [])
def pool (es : List (Nat × CpInfo)) (last : Nat) : Array CpInfo := ⟨poolList es last⟩
def fileOf (pool : Array CpInfo) (this : Nat) (attrs : Array Attribute := #[]) (ms : Array MethodInfo := #[]) (fl : Nat := 33) (sup : Nat := 0) (ifs : Array Nat := #[]) (fds : Array FieldInfo := #[]) : ClassFile where
  minorVersion := 0
  majorVersion := 65
  constantPool := pool
  accessFlags := fl
  thisClass := this
  superClass := sup
  interfaces := ifs
  fields := fds
  methods := ms
  attributes := attrs
def plain (name : String) (sup : Option ClassId) : Class where
  name := name
  kind := .ordinary
  loader := none
  accessFlags := 33
  super := sup
  interfaces := #[]
  cf := none
  fields := #[]
  methods := #[]
  instanceTypes := #[]
  staticTypes := #[]
  resolved := #[]
  callSites := []
  init := .initialized
  statics := none
  mirror := none

def pool0 : Array CpInfo := pool [(5, u "<init>"), (0, u "()V"), (1, .class_ 10), (1, u "java/lang/Object")] 113

def k0c0 : Code := { maxStack := 0, maxLocals := 1, code := object_method_1_code, exceptionTable := #[], attributes := #[] }
def k0m0 : Method := { name := "<init>", desc := "()V", sig := { parameters := [], returnType := none }, accessFlags := 1, code := some k0c0 }
/-- java/lang/Object -/
def k0 : Class := { plain "java/lang/Object" none with
  accessFlags := 33
  interfaces := #[]
  cf := some (fileOf pool0 8 #[] #[{ accessFlags := 1, nameIndex := 5, descriptorIndex := 6, attributes := #[] }] 33 0 #[] #[])
  fields := #[]
  methods := #[k0m0]
  instanceTypes := #[]
  staticTypes := #[]
  resolved := Array.replicate 124 none
  statics := none }

def pool1 : Array CpInfo := pool [(2, .class_ 4), (1, u "java/lang/Object"), (0, u "<init>"), (0, u "()V"), (0, .class_ 8), (0, u "com/example/rorqual/rorqual/CompensatedSums"), (0, .methodref 7 10), (0, .nameAndType 5 11), (0, u "(I)V"), (0, .methodref 7 13), (0, .nameAndType 14 15), (0, u "add"), (0, u "(IDD)V"), (0, .methodref 7 17), (0, .nameAndType 18 19), (0, u "value"), (0, u "(I)D"), (0, .methodref 7 21), (0, .nameAndType 22 19), (0, u "correction"), (0, .class_ 24), (0, u "com/example/rorqual/rorqual/CompensatedSumsAddPinLaw"), (2, u "law"), (0, u "(IIIII)Z")] 3

def k1m0 : Method := { name := "<init>", desc := "()V", sig := { parameters := [], returnType := none }, accessFlags := 1, code := none }
def k1c1 : Code := { maxStack := 6, maxLocals := 25, code := code, exceptionTable := #[], attributes := #[] }
def k1m1 : Method := { name := "law", desc := "(IIIII)Z", sig := { parameters := [.int, .int, .int, .int, .int], returnType := some .boolean }, accessFlags := 9, code := some k1c1 }
/-- com/example/rorqual/rorqual/CompensatedSumsAddPinLaw -/
def k1 : Class := { plain "com/example/rorqual/rorqual/CompensatedSumsAddPinLaw" (some 0) with
  accessFlags := 49
  interfaces := #[]
  cf := some (fileOf pool1 23 #[] #[{ accessFlags := 1, nameIndex := 5, descriptorIndex := 6, attributes := #[] }, { accessFlags := 9, nameIndex := 27, descriptorIndex := 28, attributes := #[] }] 49 2 #[] #[])
  fields := #[]
  methods := #[k1m0, k1m1]
  instanceTypes := #[]
  staticTypes := #[]
  resolved := Array.replicate 32 none
  statics := none }

def pool2 : Array CpInfo := pool [(1, .methodref 2 3), (0, .class_ 4), (0, .nameAndType 5 6), (0, u "java/lang/Object"), (0, u "<init>"), (0, u "()V"), (0, .fieldref 8 9), (0, .class_ 10), (0, .nameAndType 11 12), (0, u "com/example/rorqual/rorqual/CompensatedSums"), (0, u "sums"), (0, u "[D"), (24, u "add"), (0, u "(IDD)V"), (2, u "(I)V"), (11, u "value"), (0, u "(I)D"), (0, u "correction")] 9

def k2c0 : Code := { maxStack := 3, maxLocals := 2, code := prog_12_method_1_code, exceptionTable := #[], attributes := #[] }
def k2m0 : Method := { name := "<init>", desc := "(I)V", sig := { parameters := [.int], returnType := none }, accessFlags := 0, code := some k2c0 }
def k2c1 : Code := { maxStack := 3, maxLocals := 2, code := prog_12_method_5_code, exceptionTable := #[], attributes := #[] }
def k2m1 : Method := { name := "value", desc := "(I)D", sig := { parameters := [.int], returnType := some .double }, accessFlags := 0, code := some k2c1 }
def k2c2 : Code := { maxStack := 3, maxLocals := 2, code := prog_12_method_6_code, exceptionTable := #[], attributes := #[] }
def k2m2 : Method := { name := "correction", desc := "(I)D", sig := { parameters := [.int], returnType := some .double }, accessFlags := 0, code := some k2c2 }
def k2c3 : Code := { maxStack := 8, maxLocals := 14, code := prog_12_method_8_code, exceptionTable := #[], attributes := #[] }
def k2m3 : Method := { name := "add", desc := "(IDD)V", sig := { parameters := [.int, .double, .double], returnType := none }, accessFlags := 0, code := some k2c3 }
/-- com/example/rorqual/rorqual/CompensatedSums -/
def k2 : Class := { plain "com/example/rorqual/rorqual/CompensatedSums" (some 0) with
  accessFlags := 32
  interfaces := #[]
  cf := some (fileOf pool2 8 #[] #[{ accessFlags := 0, nameIndex := 5, descriptorIndex := 41, attributes := #[] }, { accessFlags := 0, nameIndex := 53, descriptorIndex := 54, attributes := #[] }, { accessFlags := 0, nameIndex := 55, descriptorIndex := 54, attributes := #[] }, { accessFlags := 0, nameIndex := 37, descriptorIndex := 38, attributes := #[] }] 32 2 #[] #[{ accessFlags := 2, nameIndex := 11, descriptorIndex := 12, attributes := #[] }])
  fields := #[{ name := "sums", type := (.array .double), accessFlags := 2, slot := 0, constantValue := 0 }]
  methods := #[k2m0, k2m1, k2m2, k2m3]
  instanceTypes := #[(.array .double)]
  staticTypes := #[]
  resolved := Array.replicate 65 none
  statics := none }

def pool3 : Array CpInfo := pool [(1, u "java/lang/Cloneable"), (0, .class_ 1), (0, u "java/lang/Object"), (0, .class_ 3)] 3

/-- java/lang/Cloneable -/
def k3 : Class := { plain "java/lang/Cloneable" (some 0) with
  accessFlags := 1537
  interfaces := #[]
  cf := some (fileOf pool3 2 #[] #[] 1537 4 #[] #[])
  fields := #[]
  methods := #[]
  instanceTypes := #[]
  staticTypes := #[]
  resolved := Array.replicate 8 none
  statics := none }

def pool4 : Array CpInfo := pool [(1, u "java/io/Serializable"), (0, .class_ 1), (0, u "java/lang/Object"), (0, .class_ 3)] 3

/-- java/io/Serializable -/
def k4 : Class := { plain "java/io/Serializable" (some 0) with
  accessFlags := 1537
  interfaces := #[]
  cf := some (fileOf pool4 2 #[] #[] 1537 4 #[] #[])
  fields := #[]
  methods := #[]
  instanceTypes := #[]
  staticTypes := #[]
  resolved := Array.replicate 8 none
  statics := none }

/-- the primitive byte -/
def k5 : Class := { plain "byte" none with kind := .primitive 'B', accessFlags := 0x411 }
/-- [B -/
def k6 : Class := { plain "[B" (some 0) with kind := .array 5 .byte, interfaces := #[3, 4], accessFlags := 1041 }

/-- the primitive double -/
def k7 : Class := { plain "double" none with kind := .primitive 'D', accessFlags := 0x411 }
/-- [D -/
def k8 : Class := { plain "[D" (some 0) with kind := .array 7 .double, interfaces := #[3, 4], accessFlags := 1041 }

/-- the primitive int -/
def k9 : Class := { plain "int" none with kind := .primitive 'I', accessFlags := 0x411 }
/-- [I -/
def k10 : Class := { plain "[I" (some 0) with kind := .array 9 .int, interfaces := #[3, 4], accessFlags := 1041 }

def heap : Heap := #[]
def classes : Array Class := #[k0, k1, k2, k3, k4, k5, k6, k7, k8, k9, k10]
def interned : List (Array UInt16 × Addr) := []
def slotsUsed : Nat := 0
def theMethod : MethodId := ⟨1, 1⟩
def args0 : Array Value := #[.int 7, .int 3, .int 4, .int 5, .int 6]
def aboutOver (below : List Frame) : State where
  vm := { classes := classes, interned := interned.toArray }
  heap := heap
  slotsUsed := slotsUsed
  threads := #[{ frames := .invoking theMethod args0 :: below }]
def below0 : List Frame := [.native { method := ⟨0, 0⟩, args := #[] }]
def about1 : State := aboutOver below0
def p0 : Program := .bare "" "" ""
def e0 : Env := launch0.env 0 0 0
theorem w_frames : about1.frames = Frame.invoking theMethod args0 :: below0 := rfl
set_option maxRecDepth 65536 in
theorem w_args : argsFit about1.vm theMethod args0 = true := by decide +kernel
set_option maxRecDepth 65536 in
theorem w_heap : heapFits about1 = true := by decide +kernel
set_option maxRecDepth 65536 in
theorem w_runnable : about1.curStatus? = some .runnable := by decide +kernel
set_option maxRecDepth 65536 in
theorem w_alone : about1.alone = true := by decide +kernel
set_option maxRecDepth 65536 in
theorem w_named : about1.methodNamed? x = some theMethod := by decide +kernel
set_option maxRecDepth 65536 in
theorem w_hears : about1.hears theMethod below0 = true := by decide +kernel
set_option maxRecDepth 65536 in
theorem w_ripe : about1.ripe theMethod args0 below0 = true := by decide +kernel
theorem w_running : about1.status = .running := rfl
set_option maxRecDepth 65536 in
theorem w_room : about1.hasRoom e0.platform room_1 = true :=
  launch0.hasRoom_least _ room_1 (by decide +kernel) (by decide +kernel) (by decide +kernel) (by decide +kernel) (by decide +kernel) (by decide +kernel)
theorem allAtoms_all (ts : List Jvm.Cond) (a : Array Jvm.Value) (st : Jvm.State) : (allAtoms ts).before a st = ts.all (fun c => c.before a st) := by
  induction ts with
  | nil => rfl
  | cons c t ih =>
    show (Jvm.Cond.and c (allAtoms t)).before a st = _
    rw [Jvm.Cond.before_and, ih, List.all_cons]
def words1 : List Jvm.Cond := Jvm.Cond.code x code maxLocals ret :: tables_1
/-- a 'code' word, met by the world's own term for the bytes: nothing is compared byte by byte -/
theorem code_word {y : MethodName} {bytes : ByteArray} {mx : Nat} {rt : Option FieldType} {a : Array Value} {s : State} {m : MethodId} {meth : Method} {c : Code} (h1 : s.methodNamed? y = some m) (h2 : s.vm.method? m = some meth) (h3 : meth.code = some c) (h4 : c.code = bytes)
    (h5 : (c.maxLocals == mx && c.exceptionTable.isEmpty && decide (c.maxStack ≤ mostOperands) && decide (meth.sig.returnType = rt) && !meth.locks && decide (parseMethodDescriptor y.desc = some meth.sig)) = true) : (Jvm.Cond.code y bytes mx rt).before a s = true := by
  simp only [Bool.and_eq_true, beq_iff_eq, Bool.not_eq_true', decide_eq_true_eq] at h5
  obtain ⟨⟨⟨⟨⟨g1, g2⟩, g3⟩, g4⟩, g5⟩, g6⟩ := h5
  simp [Cond.before, Cond.holds, Cond.value, h1, h2, h3, h4, g1, g2, g3, g4, g5, g6]
def isCode : Jvm.Cond → Bool
  | .code _ _ _ _ => true
  | _ => false
theorem all_split {L : List Jvm.Cond} {P : Jvm.Cond → Bool} (h1 : L.all (fun c => isCode c || P c) = true) (h2 : ∀ c ∈ L.filter isCode, P c = true) : L.all P = true := by
  refine List.all_eq_true.mpr fun c hc => ?_
  have h := List.all_eq_true.mp h1 c hc
  rcases Bool.eq_false_or_eq_true (isCode c) with hi | hi
  · exact h2 c (List.mem_filter.mpr ⟨hc, hi⟩)
  · simpa [hi] using h
set_option maxRecDepth 65536 in
theorem w_c0 : (Jvm.Cond.code x code maxLocals ret).before args0 about1 = true := code_word (m := ⟨1, 1⟩) (meth := k1m1) (c := k1c1) (by decide +kernel) rfl rfl rfl (by decide +kernel)
set_option maxRecDepth 65536 in
theorem w_c1 : (Jvm.Cond.code ({ cls := "com/example/rorqual/rorqual/CompensatedSums", name := "<init>", desc := "(I)V" } : Jvm.MethodName) prog_12_method_1_code (2 : Nat) (Option.none : Option Jvm.ClassFile.FieldType)).before args0 about1 = true := code_word (m := ⟨2, 0⟩) (meth := k2m0) (c := k2c0) (by decide +kernel) rfl rfl rfl (by decide +kernel)
set_option maxRecDepth 65536 in
theorem w_c2 : (Jvm.Cond.code ({ cls := "java/lang/Object", name := "<init>", desc := "()V" } : Jvm.MethodName) object_method_1_code (1 : Nat) (Option.none : Option Jvm.ClassFile.FieldType)).before args0 about1 = true := code_word (m := ⟨0, 0⟩) (meth := k0m0) (c := k0c0) (by decide +kernel) rfl rfl rfl (by decide +kernel)
set_option maxRecDepth 65536 in
theorem w_c3 : (Jvm.Cond.code ({ cls := "com/example/rorqual/rorqual/CompensatedSums", name := "add", desc := "(IDD)V" } : Jvm.MethodName) prog_12_method_8_code (14 : Nat) (Option.none : Option Jvm.ClassFile.FieldType)).before args0 about1 = true := code_word (m := ⟨2, 3⟩) (meth := k2m3) (c := k2c3) (by decide +kernel) rfl rfl rfl (by decide +kernel)
set_option maxRecDepth 65536 in
theorem w_c4 : (Jvm.Cond.code ({ cls := "com/example/rorqual/rorqual/CompensatedSums", name := "value", desc := "(I)D" } : Jvm.MethodName) prog_12_method_5_code (2 : Nat) (Option.some Jvm.ClassFile.FieldType.double)).before args0 about1 = true := code_word (m := ⟨2, 1⟩) (meth := k2m1) (c := k2c1) (by decide +kernel) rfl rfl rfl (by decide +kernel)
set_option maxRecDepth 65536 in
theorem w_c5 : (Jvm.Cond.code ({ cls := "com/example/rorqual/rorqual/CompensatedSums", name := "correction", desc := "(I)D" } : Jvm.MethodName) prog_12_method_6_code (2 : Nat) (Option.some Jvm.ClassFile.FieldType.double)).before args0 about1 = true := code_word (m := ⟨2, 2⟩) (meth := k2m2) (c := k2c2) (by decide +kernel) rfl rfl rfl (by decide +kernel)
def codes1 : List Jvm.Cond := [Jvm.Cond.code x code maxLocals ret, Jvm.Cond.code ({ cls := "com/example/rorqual/rorqual/CompensatedSums", name := "<init>", desc := "(I)V" } : Jvm.MethodName) prog_12_method_1_code (2 : Nat) (Option.none : Option Jvm.ClassFile.FieldType), Jvm.Cond.code ({ cls := "java/lang/Object", name := "<init>", desc := "()V" } : Jvm.MethodName) object_method_1_code (1 : Nat) (Option.none : Option Jvm.ClassFile.FieldType), Jvm.Cond.code ({ cls := "com/example/rorqual/rorqual/CompensatedSums", name := "add", desc := "(IDD)V" } : Jvm.MethodName) prog_12_method_8_code (14 : Nat) (Option.none : Option Jvm.ClassFile.FieldType), Jvm.Cond.code ({ cls := "com/example/rorqual/rorqual/CompensatedSums", name := "value", desc := "(I)D" } : Jvm.MethodName) prog_12_method_5_code (2 : Nat) (Option.some Jvm.ClassFile.FieldType.double), Jvm.Cond.code ({ cls := "com/example/rorqual/rorqual/CompensatedSums", name := "correction", desc := "(I)D" } : Jvm.MethodName) prog_12_method_6_code (2 : Nat) (Option.some Jvm.ClassFile.FieldType.double)]
set_option maxRecDepth 65536 in
theorem codes_eq : words1.filter isCode = codes1 := rfl
theorem w_codes : ∀ c ∈ words1.filter isCode, c.before args0 about1 = true := by
  rw [codes_eq]
  intro c hc
  simp only [codes1, List.mem_cons, List.not_mem_nil, or_false] at hc
  rcases hc with rfl | rfl | rfl | rfl | rfl | rfl
  · exact w_c0
  · exact w_c1
  · exact w_c2
  · exact w_c3
  · exact w_c4
  · exact w_c5
set_option maxRecDepth 65536 in
theorem w_t1 : (words1.take 24).all (fun c => isCode c || c.before args0 about1) = true := by decide +kernel
set_option maxRecDepth 65536 in
theorem w_t2 : (words1.drop 24).all (fun c => isCode c || c.before args0 about1) = true := by decide +kernel
theorem w_tables : (allAtoms (Jvm.Cond.code x code maxLocals ret :: tables_1)).before args0 about1 = true := by
  rw [allAtoms_all]
  show words1.all (fun c => c.before args0 about1) = true
  refine all_split ?_ w_codes
  rw [← List.take_append_drop 24 words1, List.all_append, w_t1, w_t2]
  rfl
set_option maxRecDepth 65536 in
theorem w_case : (Jvm.Cond.and given_1 narrow_1).before args0 about1 = true := by decide +kernel
theorem w_applies : (headSpec (Jvm.Cond.code x code maxLocals ret :: tables_1) room_1).applies x e0.platform about1 = true :=
  (Spec.applies_iff w_frames).mpr ⟨w_running, w_runnable, w_alone, w_named, w_hears, w_ripe, w_room, w_tables⟩
theorem atStart : AtStart classFile x code maxLocals ret World_1 tables_1 room_1 Calls_1 rest_1 Pre_1 launch0 p0 e0 about1 theMethod args0 below0 :=
  ⟨lists_1, trivial, launch0.admits_env _ _ _, launch0.least_env, fairChoices_fair.cas, fairChoices_fair.clock, w_frames, w_args, w_heap, w_applies, trivial, trivial, w_case⟩
end start1
theorem witness_1 : WitnessClaimed_1 := ⟨start1.p0, start1.e0, start1.about1, start1.theMethod, start1.args0, start1.below0, start1.atStart⟩
end Jvm.Pilot.@@N@@
