import JvmDerived
import JvmDerived.Pilot.@@N@@Statement
import JvmDerived.Pilot.@@N@@Code
set_option linter.unusedVariables false
set_option linter.unusedSimpArgs false
@@BLOCK:LamKit.lean.txt@@
namespace Jvm.Pilot.@@N@@
open Jvm Jvm.ClassFile Sem Op Lib Jvm.Free Jvm.Stand Jvm.LawKit Jvm.RoadKit Bundle Jvm.Pilot.@@N@@.Jvm.D
section Own
variable {p : Program} {l : Launch} {e : Env} {R : Room} {s : State} {m : MethodId} {args : Array Value} {below : List Frame} {meth : Method} {c : Code} {T T' : State} {cells slots : Nat} {Z : State} {bytes : ByteArray} {mL : Nat} {ret : Option FieldType} {own nm : String} {Q : Option Value → Heap → Prop} {cC cS : Nat} {pc : Nat} {Ls : Array Slot} {st : List Value} {a0 : Array Value} {g g' : JFrame}
/-- the walk stands at T, so many cells and slots made, nothing old written -/
def Wk (l : Launch) (Z : State) (R : Room) (bytes : ByteArray) (mL : Nat) (ret : Option FieldType) (own nm : String) (p : Program) (e : Env) (s : State) (m : MethodId) (args : Array Value) (below : List Frame) (meth : Method) (c : Code) (T : State) (cells slots : Nat) : Prop :=
  (p.tables.exec = Jvm.exec ∧ c.code = bytes ∧ c.maxLocals = mL ∧ meth.sig.returnType = ret ∧ meth.locks = false ∧ s.vm.findClass own = some m.cls ∧ meth.name = nm ∧ Z.WarmedH s.vm) ∧
  ∃ locs, Stand p l e R s m args below meth c T locs cells slots ∧ Fr Z.heap.size locs ∧ Ext Z.heap T.heap
/-- from T with frame g the method comes to its end, and Q holds there -/
def Ends (p : Program) (e : Env) (below : List Frame) (s : State) (Z : State) (Q : Option Value → Heap → Prop) (cC cS : Nat) (T : State) (g : JFrame) : Prop :=
  ∃ t o, Steps p.tables e below (T.setTop g) t ∧ t.status = .running ∧ Ended t below o ∧ ∃ v L, o = .returned v ∧ (Fr Z.heap.size L ∧ Ext Z.heap t.heap ∧ Q v t.heap) ∧ FrameEnd s o t L cC cS
/-- a method's contract -/
def Ct (l : Launch) (Z : State) (y : MethodName) (bytes : ByteArray) (mL : Nat) (ret : Option FieldType) (rm : Room) (as' : Array Value) (h : Heap) (Q : Option Value → Heap → Prop) : Prop :=
  ∀ ws, MetFree l y (head1 (Jvm.Cond.code y bytes mL ret :: ws) rm) (fun a U => a = as' ∧ Z.WarmedH U.vm ∧ U.heap = h) (fun _ _ _ _ _ => True) (fun _ U o U' => ∃ v L, o = .returned v ∧ (Fr Z.heap.size L ∧ Ext Z.heap U'.heap ∧ Q v U'.heap) ∧ FrameEnd U o U' L rm.cells rm.slots)
theorem Wk.hx (X : Wk l Z R bytes mL ret own nm p e s m args below meth c T cells slots) : p.tables.exec = Jvm.exec := X.1.1
theorem Wk.hb (X : Wk l Z R bytes mL ret own nm p e s m args below meth c T cells slots) {pc : Nat} {r : Except DecodeError (Instr × Nat)} (h : decode bytes pc = r) : decode c.code pc = r := X.1.2.1 ▸ h
theorem Wk.hown (X : Wk l Z R bytes mL ret own nm p e s m args below meth c T cells slots) : s.vm.findClass own = some m.cls := X.1.2.2.2.2.2.1
theorem Wk.hH (X : Wk l Z R bytes mL ret own nm p e s m args below meth c T cells slots) : Z.WarmedH s.vm := X.1.2.2.2.2.2.2.2
theorem Wk.hZ (X : Wk l Z R bytes mL ret own nm p e s m args below meth c T cells slots) : Z.Warmed39 s.vm := X.hH.wide
theorem Wk.at (X : Wk l Z R bytes mL ret own nm p e s m args below meth c T cells slots) : At T m c below := by obtain ⟨-, _, X, -⟩ := X; exact X.here
theorem Wk.old (X : Wk l Z R bytes mL ret own nm p e s m args below meth c T cells slots) : Ext Z.heap T.heap := by obtain ⟨-, _, -, -, X⟩ := X; exact X
theorem Wk.le (X : Wk l Z R bytes mL ret own nm p e s m args below meth c T cells slots) : Z.heap.size ≤ T.heap.size := X.old.1
theorem Wk.size (X : Wk l Z R bytes mL ret own nm p e s m args below meth c T cells slots) (h : Ls.size = mL) {pc : Nat} {st : List Value} : (mkF m pc Ls st).locals.size = c.maxLocals := h.trans X.1.2.2.1.symm
theorem Wk.more (X : Wk l Z R bytes mL ret own nm p e s m args below meth c T cells slots) {cells' slots' : Nat} (h1 : cells ≤ cells') (h2 : slots ≤ slots') : Wk l Z R bytes mL ret own nm p e s m args below meth c T cells' slots' := by
  obtain ⟨q, locs, Y, r⟩ := X; exact ⟨q, locs, Y.more h1 h2, r⟩
theorem E_by (f : ∀ target, Steps p.tables e below (T'.setTop g') target → Steps p.tables e below (T.setTop g) target) (k : Ends p e below s Z Q cC cS T' g') : Ends p e below s Z Q cC cS T g := by
  obtain ⟨t, o, h1, r⟩ := k; exact ⟨t, o, f _ h1, r⟩
theorem E_tr (f : Steps p.tables e below (T.setTop g) (T'.setTop g')) (k : Ends p e below s Z Q cC cS T' g') : Ends p e below s Z Q cC cS T g := E_by (fun _ q => f.trans q) k
theorem Keep.of_ext {h h' : Heap} (E : Ext h h') : Keep h h' [] := (Keep.refl h []).ext E
theorem own_keq {h h1 h2 : Heap} {ws : List Addr} (K : Keep h h1 ws) (q : h2 = h1) : Keep h h2 ws := q ▸ K
theorem Keep.old {h h' : Heap} {ws : List Addr} (O : Ext Z.heap h) (K : Keep h h' ws) (q : ∀ x ∈ ws, Z.heap.size ≤ x) : Ext Z.heap h' := ⟨Nat.le_trans O.1 K.1, fun x c r => K.2.1 x c (O.2 x c r) fun z => absurd (Array.getElem?_eq_some_iff.mp r).1 (Nat.not_lt.mpr (q x z))⟩
theorem Ct.of_body {y1 y2 y3 : String} {rm : Room} {as' : Array Value} {h : Heap} (pn : plainFor ⟨y1, y2, y3⟩ = true) (O : Ext Z.heap h) (ef : ∀ m, entryFrame m as' mL = mkF m 0 Ls [])
    (k : ∀ {p : Program} {e : Env} {s : State} {m : MethodId} {below : List Frame} {meth : Method} {c : Code} {T : State}, Wk l Z rm bytes mL ret y1 y2 p e s m as' below meth c T 0 0 → T.heap = h → Ends p e below s Z Q rm.cells rm.slots T (mkF m 0 Ls [])) : Ct l Z ⟨y1, y2, y3⟩ bytes mL ret rm as' h Q := by
  intro ws
  refine MetFree.of_bodySF pn hisR ?_
  intro p e s m args below meth c s₁ Bd hml0 hP hK
  obtain ⟨rfl, hZ, hh⟩ := hP
  have e0 : s₁.heap = h := by rw [← hh, Bd.state]; rfl
  have X : Wk l Z rm bytes mL ret y1 y2 p e s m args below meth c s₁ 0 0 := ⟨⟨Bd.exec, Bd.bytes, hml0, Bd.returns, Bd.notSynchronized, findClass_of_methodNamed Bd.named, (name_of_methodNamed Bd.named Bd.method).1, hZ⟩, [], Stand.of_body Bd, Fr.nil _, e0 ▸ O⟩
  obtain ⟨t, o, h1, r⟩ := k X e0
  exact ⟨t, o, castTop (ef m) h1, r⟩
theorem Ct.back {y : MethodName} {rm : Room} {as' : Array Value} {h : Heap} {mL' : Nat} {bytes' : ByteArray} {ret' : Option FieldType} {Q' : Option Value → Heap → Prop} (hC : Ct l Z y bytes' mL' ret' rm as' h Q') {len W : Nat}
    (hZ : Z.WarmedH s.vm) (wc : (Jvm.Cond.code y bytes' mL' ret').before a0 Z = true) (wz : (Jvm.Cond.initialized y.cls).before a0 Z = true) (hf : rm.frames + 1 ≤ R.frames) (hl : W + (mL' + 11) + rm.locals ≤ R.locals) :
    Back l R p e below s args y len W (fun A a => a = as' ∧ A.U.heap = h ∧ A.cells + rm.cells ≤ R.cells ∧ A.slots + rm.slots ≤ R.slots)
      (fun A _ v B => ∃ L, (Fr Z.heap.size L ∧ Ext Z.heap B.U.heap ∧ Q' v B.U.heap) ∧ B.locs = A.locs ++ L ∧ B.cells = A.cells + rm.cells ∧ B.slots = A.slots + rm.slots) :=
  Back.of_free (bytes := bytes') (maxL := mL') (ret := ret') (E := fun _ _ o t L k n => k = rm.cells ∧ n = rm.slots ∧ ∃ v, o = .returned v ∧ (Fr Z.heap.size L ∧ Ext Z.heap t.heap ∧ Q' v t.heap)) (hC []) hf hl
    (fun m meth c A a Y hp => have hU : Z.Warmed39 A.U.vm := (State.WarmedH.trans hZ Y.warmed).wide
      ⟨by show (Cond.and _ .tt).before a A.U = true; rw [Cond.before_and, mvT hU wc]; rfl, mvT hU wc, mvT hU wz, hp.2.2.1, hp.2.2.2⟩)
    (fun m meth c A a g mk Y hp => ⟨hp.1, State.WarmedH.trans hZ Y.warmed, hp.2.1⟩) (fun _ _ _ _ _ _ _ _ _ => trivial)
    (fun _ _ _ _ ⟨v, L, h1, h2, h3⟩ => ⟨L, _, _, h3, rfl, rfl, v, h1, h2⟩)
    (fun m meth c A a g mk v t L k n Y hp _ _ ⟨e1, e2, v', e3, e4⟩ => by cases e3; subst e1 e2; exact ⟨L, e4, rfl, rfl, rfl⟩)
theorem E_aloadN (X : Wk l Z R bytes mL ret own nm p e s m args below meth c T cells slots) {j : Fin 4} {v : Value} (hd : decode bytes pc = .ok (.aload_n j, 1)) (hl : Ls[j.val]? = some (.val v)) (hv : v.isRef = true) {pc' : Nat} (hp : pc + 1 = pc') (k : Ends p e below s Z Q cC cS T (mkF m pc' Ls (v :: st))) : Ends p e below s Z Q cC cS T (mkF m pc Ls (st)) := by
  subst hp; exact E_by (fun _ q => XS.aloadN X.at X.hx rfl (X.hb hd) hl hv q) k
theorem E_aload (X : Wk l Z R bytes mL ret own nm p e s m args below meth c T cells slots) {j : Nat} {v : Value} (hd : decode bytes pc = .ok (.aload j, 2)) (hl : Ls[j]? = some (.val v)) (hv : v.isRef = true) {pc' : Nat} (hp : pc + 2 = pc') (k : Ends p e below s Z Q cC cS T (mkF m pc' Ls (v :: st))) : Ends p e below s Z Q cC cS T (mkF m pc Ls (st)) := by
  subst hp; exact E_by (fun _ q => XS.aload X.at X.hx rfl (X.hb hd) hl hv q) k
theorem E_iloadN (X : Wk l Z R bytes mL ret own nm p e s m args below meth c T cells slots) {j : Fin 4} {v : Int32} (hd : decode bytes pc = .ok (.iload_n j, 1)) (hl : Ls[j.val]? = some (.val (.int v))) {pc' : Nat} (hp : pc + 1 = pc') (k : Ends p e below s Z Q cC cS T (mkF m pc' Ls (.int v :: st))) : Ends p e below s Z Q cC cS T (mkF m pc Ls (st)) := by
  subst hp; exact E_by (fun _ q => XS.iloadN X.at X.hx rfl (X.hb hd) hl q) k
theorem E_iload (X : Wk l Z R bytes mL ret own nm p e s m args below meth c T cells slots) {j : Nat} {v : Int32} (hd : decode bytes pc = .ok (.iload j, 2)) (hl : Ls[j]? = some (.val (.int v))) {pc' : Nat} (hp : pc + 2 = pc') (k : Ends p e below s Z Q cC cS T (mkF m pc' Ls (.int v :: st))) : Ends p e below s Z Q cC cS T (mkF m pc Ls (st)) := by
  subst hp; exact E_by (fun _ q => XS.iload X.at X.hx rfl (X.hb hd) hl q) k
theorem E_aconstNull (X : Wk l Z R bytes mL ret own nm p e s m args below meth c T cells slots) (hd : decode bytes pc = .ok (.aconst_null, 1)) {pc' : Nat} (hp : pc + 1 = pc') (k : Ends p e below s Z Q cC cS T (mkF m pc' Ls (.null :: st))) : Ends p e below s Z Q cC cS T (mkF m pc Ls (st)) := by
  subst hp; exact E_by (fun _ q => XS.aconstNull X.at X.hx rfl (X.hb hd) q) k
theorem E_iconst (X : Wk l Z R bytes mL ret own nm p e s m args below meth c T cells slots) {i : Int} {v : Int32} (hd : decode bytes pc = .ok (.iconst i, 1)) (hv : Int32.ofInt i = v) {pc' : Nat} (hp : pc + 1 = pc') (k : Ends p e below s Z Q cC cS T (mkF m pc' Ls (.int v :: st))) : Ends p e below s Z Q cC cS T (mkF m pc Ls st) := by
  subst hp hv; exact E_by (fun _ q => XS.iconst X.at X.hx rfl (X.hb hd) q) k
theorem E_bipush (X : Wk l Z R bytes mL ret own nm p e s m args below meth c T cells slots) {i : Int} {v : Int32} (hd : decode bytes pc = .ok (.bipush i, 2)) (hv : (Int8.ofInt i).toInt32 = v) {pc' : Nat} (hp : pc + 2 = pc') (k : Ends p e below s Z Q cC cS T (mkF m pc' Ls (.int v :: st))) : Ends p e below s Z Q cC cS T (mkF m pc Ls st) := by
  subst hp hv; exact E_by (fun _ q => XS.bipush X.at X.hx rfl (X.hb hd) q) k
theorem E_sipush (X : Wk l Z R bytes mL ret own nm p e s m args below meth c T cells slots) {i : Int} {v : Int32} (hd : decode bytes pc = .ok (.sipush i, 3)) (hv : (Int16.ofInt i).toInt32 = v) {pc' : Nat} (hp : pc + 3 = pc') (k : Ends p e below s Z Q cC cS T (mkF m pc' Ls (.int v :: st))) : Ends p e below s Z Q cC cS T (mkF m pc Ls st) := by
  subst hp hv; exact E_by (fun _ q => XS.sipush X.at X.hx rfl (X.hb hd) q) k
theorem E_iadd (X : Wk l Z R bytes mL ret own nm p e s m args below meth c T cells slots) {x y v : Int32} (hd : decode bytes pc = .ok (.iadd, 1)) (hv : x + y = v) {pc' : Nat} (hp : pc + 1 = pc') (k : Ends p e below s Z Q cC cS T (mkF m pc' Ls (.int v :: st))) : Ends p e below s Z Q cC cS T (mkF m pc Ls (.int y :: .int x :: st)) := by
  subst hp hv; exact E_by (fun _ q => XS.iadd X.at X.hx rfl (X.hb hd) rfl q) k
theorem E_isub (X : Wk l Z R bytes mL ret own nm p e s m args below meth c T cells slots) {x y v : Int32} (hd : decode bytes pc = .ok (.isub, 1)) (hv : x - y = v) {pc' : Nat} (hp : pc + 1 = pc') (k : Ends p e below s Z Q cC cS T (mkF m pc' Ls (.int v :: st))) : Ends p e below s Z Q cC cS T (mkF m pc Ls (.int y :: .int x :: st)) := by
  subst hp hv; exact E_by (fun _ q => XS.isub X.at X.hx rfl (X.hb hd) rfl q) k
theorem E_imul (X : Wk l Z R bytes mL ret own nm p e s m args below meth c T cells slots) {x y v : Int32} (hd : decode bytes pc = .ok (.imul, 1)) (hv : x * y = v) {pc' : Nat} (hp : pc + 1 = pc') (k : Ends p e below s Z Q cC cS T (mkF m pc' Ls (.int v :: st))) : Ends p e below s Z Q cC cS T (mkF m pc Ls (.int y :: .int x :: st)) := by
  subst hp hv; exact E_by (fun _ q => XS.imul X.at X.hx rfl (X.hb hd) rfl q) k
theorem E_iand (X : Wk l Z R bytes mL ret own nm p e s m args below meth c T cells slots) {x y v : Int32} (hd : decode bytes pc = .ok (.iand, 1)) (hv : x &&& y = v) {pc' : Nat} (hp : pc + 1 = pc') (k : Ends p e below s Z Q cC cS T (mkF m pc' Ls (.int v :: st))) : Ends p e below s Z Q cC cS T (mkF m pc Ls (.int y :: .int x :: st)) := by
  subst hp hv; exact E_by (fun _ q => XS.iand X.at X.hx rfl (X.hb hd) rfl q) k
theorem E_ior (X : Wk l Z R bytes mL ret own nm p e s m args below meth c T cells slots) {x y v : Int32} (hd : decode bytes pc = .ok (.ior, 1)) (hv : x ||| y = v) {pc' : Nat} (hp : pc + 1 = pc') (k : Ends p e below s Z Q cC cS T (mkF m pc' Ls (.int v :: st))) : Ends p e below s Z Q cC cS T (mkF m pc Ls (.int y :: .int x :: st)) := by
  subst hp hv; exact E_by (fun _ q => XS.ior X.at X.hx rfl (X.hb hd) rfl q) k
theorem E_ixor (X : Wk l Z R bytes mL ret own nm p e s m args below meth c T cells slots) {x y v : Int32} (hd : decode bytes pc = .ok (.ixor, 1)) (hv : x ^^^ y = v) {pc' : Nat} (hp : pc + 1 = pc') (k : Ends p e below s Z Q cC cS T (mkF m pc' Ls (.int v :: st))) : Ends p e below s Z Q cC cS T (mkF m pc Ls (.int y :: .int x :: st)) := by
  subst hp hv; exact E_by (fun _ q => XS.ixor X.at X.hx rfl (X.hb hd) rfl q) k
theorem E_ishl (X : Wk l Z R bytes mL ret own nm p e s m args below meth c T cells slots) {x y v : Int32} (hd : decode bytes pc = .ok (.ishl, 1)) (hv : x <<< (y &&& 31) = v) {pc' : Nat} (hp : pc + 1 = pc') (k : Ends p e below s Z Q cC cS T (mkF m pc' Ls (.int v :: st))) : Ends p e below s Z Q cC cS T (mkF m pc Ls (.int y :: .int x :: st)) := by
  subst hp hv; exact E_by (fun _ q => XS.ishl X.at X.hx rfl (X.hb hd) rfl q) k
theorem E_ishr (X : Wk l Z R bytes mL ret own nm p e s m args below meth c T cells slots) {x y v : Int32} (hd : decode bytes pc = .ok (.ishr, 1)) (hv : x >>> (y &&& 31) = v) {pc' : Nat} (hp : pc + 1 = pc') (k : Ends p e below s Z Q cC cS T (mkF m pc' Ls (.int v :: st))) : Ends p e below s Z Q cC cS T (mkF m pc Ls (.int y :: .int x :: st)) := by
  subst hp hv; exact E_by (fun _ q => XS.ishr X.at X.hx rfl (X.hb hd) rfl q) k
theorem E_iushr (X : Wk l Z R bytes mL ret own nm p e s m args below meth c T cells slots) {x y v : Int32} (hd : decode bytes pc = .ok (.iushr, 1)) (hv : (x.toUInt32 >>> (y &&& 31).toUInt32).toInt32 = v) {pc' : Nat} (hp : pc + 1 = pc') (k : Ends p e below s Z Q cC cS T (mkF m pc' Ls (.int v :: st))) : Ends p e below s Z Q cC cS T (mkF m pc Ls (.int y :: .int x :: st)) := by
  subst hp hv; exact E_by (fun _ q => XS.iushr X.at X.hx rfl (X.hb hd) rfl q) k
theorem E_ineg (X : Wk l Z R bytes mL ret own nm p e s m args below meth c T cells slots) {x v : Int32} (hd : decode bytes pc = .ok (.ineg, 1)) (hv : -x = v) {pc' : Nat} (hp : pc + 1 = pc') (k : Ends p e below s Z Q cC cS T (mkF m pc' Ls (.int v :: st))) : Ends p e below s Z Q cC cS T (mkF m pc Ls (.int x :: st)) := by
  subst hp hv; exact E_by (fun _ q => XS.ineg X.at X.hx rfl (X.hb hd) rfl q) k
theorem E_i2c (X : Wk l Z R bytes mL ret own nm p e s m args below meth c T cells slots) {x v : Int32} (hd : decode bytes pc = .ok (.i2c, 1)) (hv : x.toUInt32.toUInt16.toUInt32.toInt32 = v) {pc' : Nat} (hp : pc + 1 = pc') (k : Ends p e below s Z Q cC cS T (mkF m pc' Ls (.int v :: st))) : Ends p e below s Z Q cC cS T (mkF m pc Ls (.int x :: st)) := by
  subst hp hv; exact E_by (fun _ q => XS.i2c X.at X.hx rfl (X.hb hd) rfl q) k
theorem E_i2b (X : Wk l Z R bytes mL ret own nm p e s m args below meth c T cells slots) {x v : Int32} (hd : decode bytes pc = .ok (.i2b, 1)) (hv : x.toInt8.toInt32 = v) {pc' : Nat} (hp : pc + 1 = pc') (k : Ends p e below s Z Q cC cS T (mkF m pc' Ls (.int v :: st))) : Ends p e below s Z Q cC cS T (mkF m pc Ls (.int x :: st)) := by
  subst hp hv; exact E_by (fun _ q => XS.i2b X.at X.hx rfl (X.hb hd) rfl q) k
theorem E_i2s (X : Wk l Z R bytes mL ret own nm p e s m args below meth c T cells slots) {x v : Int32} (hd : decode bytes pc = .ok (.i2s, 1)) (hv : x.toInt16.toInt32 = v) {pc' : Nat} (hp : pc + 1 = pc') (k : Ends p e below s Z Q cC cS T (mkF m pc' Ls (.int v :: st))) : Ends p e below s Z Q cC cS T (mkF m pc Ls (.int x :: st)) := by
  subst hp hv; exact E_by (fun _ q => XS.i2s X.at X.hx rfl (X.hb hd) rfl q) k
theorem E_lmul (X : Wk l Z R bytes mL ret own nm p e s m args below meth c T cells slots) {x y : Int64} (hd : decode bytes pc = .ok (.lmul, 1)) {pc' : Nat} (hp : pc + 1 = pc') (k : Ends p e below s Z Q cC cS T (mkF m pc' Ls (.long (x * y) :: st))) : Ends p e below s Z Q cC cS T (mkF m pc Ls (.long y :: .long x :: st)) := by
  subst hp; exact E_by (fun _ q => XT.lmul X.at X.hx rfl (X.hb hd) rfl q) k
theorem E_i2l (X : Wk l Z R bytes mL ret own nm p e s m args below meth c T cells slots) {x : Int32} (hd : decode bytes pc = .ok (.i2l, 1)) {pc' : Nat} (hp : pc + 1 = pc') (k : Ends p e below s Z Q cC cS T (mkF m pc' Ls (.long x.toInt64 :: st))) : Ends p e below s Z Q cC cS T (mkF m pc Ls (.int x :: st)) := by
  subst hp; exact E_by (fun _ q => XT.i2l X.at X.hx rfl (X.hb hd) rfl q) k
theorem E_l2i (X : Wk l Z R bytes mL ret own nm p e s m args below meth c T cells slots) {x : Int64} (hd : decode bytes pc = .ok (.l2i, 1)) {pc' : Nat} (hp : pc + 1 = pc') (k : Ends p e below s Z Q cC cS T (mkF m pc' Ls (.int x.toInt32 :: st))) : Ends p e below s Z Q cC cS T (mkF m pc Ls (.long x :: st)) := by
  subst hp; exact E_by (fun _ q => XT.l2i X.at X.hx rfl (X.hb hd) rfl q) k
theorem E_lcmp (X : Wk l Z R bytes mL ret own nm p e s m args below meth c T cells slots) {x y : Int64} (hd : decode bytes pc = .ok (.lcmp, 1)) {pc' : Nat} (hp : pc + 1 = pc') (k : Ends p e below s Z Q cC cS T (mkF m pc' Ls (.int (XT.cmpL x y) :: st))) : Ends p e below s Z Q cC cS T (mkF m pc Ls (.long y :: .long x :: st)) := by
  subst hp; exact E_by (fun _ q => XT.lcmp X.at X.hx rfl (X.hb hd) rfl q) k
theorem E_lloadN (X : Wk l Z R bytes mL ret own nm p e s m args below meth c T cells slots) {j : Fin 4} {v : Int64} (hd : decode bytes pc = .ok (.lload_n j, 1)) (hl : Ls[j.val]? = some (.val (.long v))) {pc' : Nat} (hp : pc + 1 = pc') (k : Ends p e below s Z Q cC cS T (mkF m pc' Ls (.long v :: st))) : Ends p e below s Z Q cC cS T (mkF m pc Ls (st)) := by
  subst hp; exact E_by (fun _ q => XT.lloadN X.at X.hx rfl (X.hb hd) hl q) k
theorem E_lload (X : Wk l Z R bytes mL ret own nm p e s m args below meth c T cells slots) {j : Nat} {v : Int64} (hd : decode bytes pc = .ok (.lload j, 2)) (hl : Ls[j]? = some (.val (.long v))) {pc' : Nat} (hp : pc + 2 = pc') (k : Ends p e below s Z Q cC cS T (mkF m pc' Ls (.long v :: st))) : Ends p e below s Z Q cC cS T (mkF m pc Ls (st)) := by
  subst hp; exact E_by (fun _ q => XT.lload X.at X.hx rfl (X.hb hd) hl q) k
theorem E_lconst (X : Wk l Z R bytes mL ret own nm p e s m args below meth c T cells slots) {j : Fin 2} (hd : decode bytes pc = .ok (.lconst j, 1)) {pc' : Nat} (hp : pc + 1 = pc') (k : Ends p e below s Z Q cC cS T (mkF m pc' Ls (.long (Int64.ofNat j) :: st))) : Ends p e below s Z Q cC cS T (mkF m pc Ls (st)) := by
  subst hp; exact E_by (fun _ q => XT.lconst X.at X.hx rfl (X.hb hd) q) k
theorem E_lstoreN (X : Wk l Z R bytes mL ret own nm p e s m args below meth c T cells slots) {j : Fin 4} {x : Int64} (hd : decode bytes pc = .ok (.lstore_n j, 1)) {l' : Array Slot} (hl : storeLocals Ls j.val (.long x) = some l') {pc' : Nat} (hp : pc + 1 = pc') (k : Ends p e below s Z Q cC cS T (mkF m pc' l' (st))) : Ends p e below s Z Q cC cS T (mkF m pc Ls (.long x :: st)) := by
  subst hp; exact E_by (fun _ q => XT.lstoreN X.at X.hx rfl (X.hb hd) rfl hl q) k
theorem E_lstore (X : Wk l Z R bytes mL ret own nm p e s m args below meth c T cells slots) {j : Nat} {x : Int64} (hd : decode bytes pc = .ok (.lstore j, 2)) {l' : Array Slot} (hl : storeLocals Ls j (.long x) = some l') {pc' : Nat} (hp : pc + 2 = pc') (k : Ends p e below s Z Q cC cS T (mkF m pc' l' (st))) : Ends p e below s Z Q cC cS T (mkF m pc Ls (.long x :: st)) := by
  subst hp; exact E_by (fun _ q => XT.lstore X.at X.hx rfl (X.hb hd) rfl hl q) k
theorem E_dup (X : Wk l Z R bytes mL ret own nm p e s m args below meth c T cells slots) {v : Value} (hd : decode bytes pc = .ok (.dup, 1)) (hc : v.category = 1) {pc' : Nat} (hp : pc + 1 = pc') (k : Ends p e below s Z Q cC cS T (mkF m pc' Ls (v :: v :: st))) : Ends p e below s Z Q cC cS T (mkF m pc Ls (v :: st)) := by
  subst hp; exact E_by (fun _ q => XS.dup X.at X.hx rfl (X.hb hd) rfl hc q) k
theorem E_dupx1 (X : Wk l Z R bytes mL ret own nm p e s m args below meth c T cells slots) {v u : Value} (hd : decode bytes pc = .ok (.dup_x1, 1)) (hc : v.category = 1) (hc2 : u.category = 1) {pc' : Nat} (hp : pc + 1 = pc') (k : Ends p e below s Z Q cC cS T (mkF m pc' Ls (v :: u :: v :: st))) : Ends p e below s Z Q cC cS T (mkF m pc Ls (v :: u :: st)) := by
  subst hp; exact E_by (fun _ q => XT.dupX1 X.at X.hx rfl (X.hb hd) rfl hc hc2 q) k
theorem E_pop (X : Wk l Z R bytes mL ret own nm p e s m args below meth c T cells slots) {v : Value} (hd : decode bytes pc = .ok (.pop, 1)) (hc : v.category = 1) {pc' : Nat} (hp : pc + 1 = pc') (k : Ends p e below s Z Q cC cS T (mkF m pc' Ls (st))) : Ends p e below s Z Q cC cS T (mkF m pc Ls (v :: st)) := by
  subst hp; exact E_by (fun _ q => XS.pop X.at X.hx rfl (X.hb hd) rfl hc q) k
theorem E_istoreN (X : Wk l Z R bytes mL ret own nm p e s m args below meth c T cells slots) {j : Fin 4} {x : Int32} (hd : decode bytes pc = .ok (.istore_n j, 1)) {l' : Array Slot} (hl : storeLocals Ls j.val (.int x) = some l') {pc' : Nat} (hp : pc + 1 = pc') (k : Ends p e below s Z Q cC cS T (mkF m pc' l' (st))) : Ends p e below s Z Q cC cS T (mkF m pc Ls (.int x :: st)) := by
  subst hp; exact E_by (fun _ q => XS.istoreN X.at X.hx rfl (X.hb hd) rfl hl q) k
theorem E_istore (X : Wk l Z R bytes mL ret own nm p e s m args below meth c T cells slots) {j : Nat} {x : Int32} (hd : decode bytes pc = .ok (.istore j, 2)) {l' : Array Slot} (hl : storeLocals Ls j (.int x) = some l') {pc' : Nat} (hp : pc + 2 = pc') (k : Ends p e below s Z Q cC cS T (mkF m pc' l' (st))) : Ends p e below s Z Q cC cS T (mkF m pc Ls (.int x :: st)) := by
  subst hp; exact E_by (fun _ q => XS.istore X.at X.hx rfl (X.hb hd) rfl hl q) k
theorem E_astoreN (X : Wk l Z R bytes mL ret own nm p e s m args below meth c T cells slots) {j : Fin 4} {x : Value} (hd : decode bytes pc = .ok (.astore_n j, 1)) (hv : x.isRef = true) {l' : Array Slot} (hl : storeLocals Ls j.val x = some l') {pc' : Nat} (hp : pc + 1 = pc') (k : Ends p e below s Z Q cC cS T (mkF m pc' l' (st))) : Ends p e below s Z Q cC cS T (mkF m pc Ls (x :: st)) := by
  subst hp; exact E_by (fun _ q => XS.astoreN X.at X.hx rfl (X.hb hd) rfl hv hl q) k
theorem E_astore (X : Wk l Z R bytes mL ret own nm p e s m args below meth c T cells slots) {j : Nat} {x : Value} (hd : decode bytes pc = .ok (.astore j, 2)) (hv : x.isRef = true) {l' : Array Slot} (hl : storeLocals Ls j x = some l') {pc' : Nat} (hp : pc + 2 = pc') (k : Ends p e below s Z Q cC cS T (mkF m pc' l' (st))) : Ends p e below s Z Q cC cS T (mkF m pc Ls (x :: st)) := by
  subst hp; exact E_by (fun _ q => XS.astore X.at X.hx rfl (X.hb hd) rfl hv hl q) k
theorem E_iinc (X : Wk l Z R bytes mL ret own nm p e s m args below meth c T cells slots) {j : Nat} {i : Int} {x y : Int32} (hd : decode bytes pc = .ok (.iinc j i, 3)) (hy : x + Int32.ofInt i = y) (hl : Ls[j]? = some (.val (.int x))) {l' : Array Slot} (hl' : storeLocals Ls j (.int y) = some l') {pc' : Nat} (hp : pc + 3 = pc') (k : Ends p e below s Z Q cC cS T (mkF m pc' l' st)) : Ends p e below s Z Q cC cS T (mkF m pc Ls st) := by
  subst hp hy; exact E_by (fun _ q => XS.iinc X.at X.hx rfl (X.hb hd) hl hl' q) k
theorem E_irem (X : Wk l Z R bytes mL ret own nm p e s m args below meth c T cells slots) {x y v : Int32} (hd : decode bytes pc = .ok (.irem, 1)) (hy : y ≠ 0) (hv : x % y = v) {pc' : Nat} (hp : pc + 1 = pc') (k : Ends p e below s Z Q cC cS T (mkF m pc' Ls (.int v :: st))) : Ends p e below s Z Q cC cS T (mkF m pc Ls (.int y :: .int x :: st)) := by
  subst hp hv; obtain ⟨q, locs, Y, r⟩ := id X; exact E_by (fun _ k => iremM Y X.hx rfl (X.hb hd) rfl hy k) k
theorem E_idiv (X : Wk l Z R bytes mL ret own nm p e s m args below meth c T cells slots) {x y v : Int32} (hd : decode bytes pc = .ok (.idiv, 1)) (hy : y ≠ 0) (hv : x / y = v) {pc' : Nat} (hp : pc + 1 = pc') (k : Ends p e below s Z Q cC cS T (mkF m pc' Ls (.int v :: st))) : Ends p e below s Z Q cC cS T (mkF m pc Ls (.int y :: .int x :: st)) := by
  subst hp hv; exact E_by (fun _ k => XS.idiv X.at X.hx rfl (X.hb hd) rfl hy k) k
theorem E_goto (X : Wk l Z R bytes mL ret own nm p e s m args below meth c T cells slots) {o : Int} (hd : decode bytes pc = .ok (.goto o, 3)) {pc' : Nat} (ho : 0 ≤ (pc : Int) + o) (hp : ((pc : Int) + o).toNat = pc') (k : Ends p e below s Z Q cC cS T (mkF m pc' Ls st)) : Ends p e below s Z Q cC cS T (mkF m pc Ls st) :=
  E_by (fun _ q => XS.goto X.at X.hx rfl (pc0 := pc) rfl (X.hb hd) ho hp q) k
theorem E_ifT (X : Wk l Z R bytes mL ret own nm p e s m args below meth c T cells slots) {cd : ClassFile.Cond} {o : Int} {x : Int32} (hd : decode bytes pc = .ok (.ifCond cd o, 3)) (hc : ifCond.holds cd x = true) {pc' : Nat} (ho : 0 ≤ (pc : Int) + o) (hp : ((pc : Int) + o).toNat = pc') (k : Ends p e below s Z Q cC cS T (mkF m pc' Ls st)) : Ends p e below s Z Q cC cS T (mkF m pc Ls (.int x :: st)) :=
  E_by (fun _ q => XS.ifYes X.at X.hx rfl (pc0 := pc) rfl (X.hb hd) rfl hc ho hp q) k
theorem E_ifF (X : Wk l Z R bytes mL ret own nm p e s m args below meth c T cells slots) {cd : ClassFile.Cond} {o : Int} {x : Int32} (hd : decode bytes pc = .ok (.ifCond cd o, 3)) (hc : ifCond.holds cd x = false) {pc' : Nat} (hp : pc + 3 = pc') (k : Ends p e below s Z Q cC cS T (mkF m pc' Ls st)) : Ends p e below s Z Q cC cS T (mkF m pc Ls (.int x :: st)) := by
  subst hp; exact E_by (fun _ q => XS.ifNo X.at X.hx rfl (X.hb hd) rfl hc q) k
theorem E_icT (X : Wk l Z R bytes mL ret own nm p e s m args below meth c T cells slots) {cd : ClassFile.Cond} {o : Int} {x y : Int32} (hd : decode bytes pc = .ok (.if_icmp cd o, 3)) (hc : if_icmp.holds cd x y = true) {pc' : Nat} (ho : 0 ≤ (pc : Int) + o) (hp : ((pc : Int) + o).toNat = pc') (k : Ends p e below s Z Q cC cS T (mkF m pc' Ls st)) : Ends p e below s Z Q cC cS T (mkF m pc Ls (.int y :: .int x :: st)) :=
  E_by (fun _ q => XS.icmpYes X.at X.hx rfl (pc0 := pc) rfl (X.hb hd) rfl hc ho hp q) k
theorem E_icF (X : Wk l Z R bytes mL ret own nm p e s m args below meth c T cells slots) {cd : ClassFile.Cond} {o : Int} {x y : Int32} (hd : decode bytes pc = .ok (.if_icmp cd o, 3)) (hc : if_icmp.holds cd x y = false) {pc' : Nat} (hp : pc + 3 = pc') (k : Ends p e below s Z Q cC cS T (mkF m pc' Ls st)) : Ends p e below s Z Q cC cS T (mkF m pc Ls (.int y :: .int x :: st)) := by
  subst hp; exact E_by (fun _ q => XS.icmpNo X.at X.hx rfl (X.hb hd) rfl hc q) k
theorem E_nullT (X : Wk l Z R bytes mL ret own nm p e s m args below meth c T cells slots) {o : Int} (hd : decode bytes pc = .ok (.ifnull o, 3)) {pc' : Nat} (ho : 0 ≤ (pc : Int) + o) (hp : ((pc : Int) + o).toNat = pc') (k : Ends p e below s Z Q cC cS T (mkF m pc' Ls st)) : Ends p e below s Z Q cC cS T (mkF m pc Ls (.null :: st)) :=
  E_by (fun _ q => XS.ifnullYes X.at X.hx rfl (pc0 := pc) rfl (X.hb hd) rfl ho hp q) k
theorem E_nullF (X : Wk l Z R bytes mL ret own nm p e s m args below meth c T cells slots) {o : Int} {b : Addr} (hd : decode bytes pc = .ok (.ifnull o, 3)) {pc' : Nat} (hp : pc + 3 = pc') (k : Ends p e below s Z Q cC cS T (mkF m pc' Ls st)) : Ends p e below s Z Q cC cS T (mkF m pc Ls (.ref b :: st)) := by
  subst hp; exact E_by (fun _ q => XS.ifnullNo X.at X.hx rfl (X.hb hd) rfl q) k
theorem E_nonnullT (X : Wk l Z R bytes mL ret own nm p e s m args below meth c T cells slots) {o : Int} {b : Addr} (hd : decode bytes pc = .ok (.ifnonnull o, 3)) {pc' : Nat} (ho : 0 ≤ (pc : Int) + o) (hp : ((pc : Int) + o).toNat = pc') (k : Ends p e below s Z Q cC cS T (mkF m pc' Ls st)) : Ends p e below s Z Q cC cS T (mkF m pc Ls (.ref b :: st)) :=
  E_by (fun _ q => XT.nonnullYes X.at X.hx rfl (pc0 := pc) rfl (X.hb hd) rfl rfl (fun q => nomatch q) ho hp q) k
theorem E_nonnullF (X : Wk l Z R bytes mL ret own nm p e s m args below meth c T cells slots) {o : Int} (hd : decode bytes pc = .ok (.ifnonnull o, 3)) {pc' : Nat} (hp : pc + 3 = pc') (k : Ends p e below s Z Q cC cS T (mkF m pc' Ls st)) : Ends p e below s Z Q cC cS T (mkF m pc Ls (.null :: st)) := by
  subst hp; exact E_by (fun _ q => XT.nonnullNo X.at X.hx rfl (X.hb hd) rfl rfl q) k
theorem E_acmp (X : Wk l Z R bytes mL ret own nm p e s m args below meth c T cells slots) {cd : ACond} {o : Int} {x y : Value} (hd : decode bytes pc = .ok (.if_acmp cd o, 3)) (h1 : x.isRef = true) (h2 : y.isRef = true) (same : Bool) (hq : decide (x = y) = same) {pc' : Nat} (ho : 0 ≤ (pc : Int) + o) (hp : pc' = if acV cd same = true then ((pc : Int) + o).toNat else pc + 3) (k : Ends p e below s Z Q cC cS T (mkF m pc' Ls st)) : Ends p e below s Z Q cC cS T (mkF m pc Ls (y :: x :: st)) := by
  obtain ⟨_, locs, Y, r⟩ := id X; exact E_by (fun _ q => acmp Y X.hx rfl h1 h2 (pc0 := pc) rfl (X.hb hd) rfl hq ho hp q) k
theorem E_ldcI (X : Wk l Z R bytes mL ret own nm p e s m args below meth c T cells slots) {ix : Nat} {v : Int32} (hd : decode bytes pc = .ok (.ldc ix, 2)) (w : (Jvm.Cond.constant own ix v).before a0 Z = true) {pc' : Nat} (hp : pc + 2 = pc') (k : Ends p e below s Z Q cC cS T (mkF m pc' Ls (.int v :: st))) : Ends p e below s Z Q cC cS T (mkF m pc Ls st) := by
  subst hp; obtain ⟨_, locs, Y, r⟩ := id X; exact E_by (fun _ q => Y.ldcI X.hx X.hown (mvT X.hZ w) rfl (X.hb hd) q) k
theorem E_new (X : Wk l Z R bytes mL ret own nm p e s m args below meth c T cells slots) {C : String} {ix n : Nat} (hd : decode bytes pc = .ok (.new ix, 3)) (w1 : (Jvm.Cond.classLink own ix C).before a0 Z = true) (w2 : (Jvm.Cond.instantiable C n).before a0 Z = true) (w3 : (Jvm.Cond.initialized C).before a0 Z = true) (hc : cells + 1 ≤ R.cells) (hs : slots + n ≤ R.slots) {pc' : Nat} (hp : pc + 3 = pc')
    (k : ∀ (T' : State) (b : Addr), Wk l Z R bytes mL ret own nm p e s m args below meth c T' (cells + 1) (slots + n) → b = T.heap.size → Keep T.heap T'.heap [] → Exa Z T'.heap b C → (∀ {O nm d : String} {ty : FieldType}, Laid Z a0 C O nm d → parseFieldDescriptor d = some ty → Fld Z T'.heap b O nm d (defaultValue ty)) → Ends p e below s Z Q cC cS T' (mkF m pc' Ls (.ref b :: st))) : Ends p e below s Z Q cC cS T (mkF m pc Ls st) := by
  subst hp; obtain ⟨q0, locs, Y, N, O⟩ := id X
  obtain ⟨T', h', Y', rfl, E, A, D, -, stp⟩ := newO Y X.hx X.hZ X.hown w1 w2 w3 rfl (g := mkF m pc Ls st) rfl (X.hb hd) hc hs
  exact E_by stp (k T' _ ⟨q0, locs, Y', N, Keep.old O (Keep.of_ext E) all0⟩ rfl (Keep.of_ext E) A D)
theorem E_newarray (X : Wk l Z R bytes mL ret own nm p e s m args below meth c T cells slots) {aty : ArrayType} {n : Int32} (cap : Nat) (hd : decode bytes pc = .ok (.newarray aty, 2)) (w : (Jvm.Cond.arrayClass (newarray.typeOf aty)).before a0 Z = true) (hn : ¬ n < 0) (hcap : n.toNatClampNeg ≤ cap) (hb : cap * 8 ≤ 536870912) (hc : cells + 1 ≤ R.cells) (hs : slots + cap ≤ R.slots) {pc' : Nat} (hp : pc + 2 = pc')
    (k : ∀ (T' : State) (b : Addr) (kA : ClassId), Wk l Z R bytes mL ret own nm p e s m args below meth c T' (cells + 1) (slots + cap) → b = T.heap.size → Keep T.heap T'.heap [] → Arv Z T'.heap b kA (newarray.typeOf aty) n [] (defaultValue (newarray.typeOf aty)) → Ends p e below s Z Q cC cS T' (mkF m pc' Ls (.ref b :: st))) : Ends p e below s Z Q cC cS T (mkF m pc Ls (.int n :: st)) := by
  subst hp; obtain ⟨q0, locs, Y, N, O⟩ := id X
  obtain ⟨T', h', kA, Y', rfl, E, A, stp⟩ := newP Y X.hx X.hZ w rfl (g := mkF m pc Ls (.int n :: st)) rfl (X.hb hd) rfl hn hcap hb hc hs
  exact E_by stp (k T' _ kA ⟨q0, locs, Y', N, Keep.old O (Keep.of_ext E) all0⟩ rfl (Keep.of_ext E) (Arv.new A hn))
theorem E_anewarray (X : Wk l Z R bytes mL ret own nm p e s m args below meth c T cells slots) {C : String} {ix : Nat} {n : Int32} (cap : Nat) (hd : decode bytes pc = .ok (.anewarray ix, 3)) (w1 : (Jvm.Cond.classLink own ix C).before a0 Z = true) (w2 : (Jvm.Cond.arrayOver (.object C)).before a0 Z = true) (hn : ¬ n < 0) (hcap : n.toNatClampNeg ≤ cap) (hb : cap * 8 ≤ 536870912) (hc : cells + 1 ≤ R.cells) (hs : slots + cap ≤ R.slots) {pc' : Nat} (hp : pc + 3 = pc')
    (k : ∀ (T' : State) (b : Addr) (kA : ClassId), Wk l Z R bytes mL ret own nm p e s m args below meth c T' (cells + 1) (slots + cap) → b = T.heap.size → Keep T.heap T'.heap [] → Arv Z T'.heap b kA (.object C) n [] .null → Ovr Z kA C → Ends p e below s Z Q cC cS T' (mkF m pc' Ls (.ref b :: st))) : Ends p e below s Z Q cC cS T (mkF m pc Ls (.int n :: st)) := by
  subst hp; obtain ⟨q0, locs, Y, N, O⟩ := id X
  obtain ⟨T', h', kA, Y', rfl, E, A, Ov, stp⟩ := newR Y X.hx X.hZ X.hown w1 w2 rfl (g := mkF m pc Ls (.int n :: st)) rfl (X.hb hd) rfl hn hcap hb hc hs
  exact E_by stp (k T' _ kA ⟨q0, locs, Y', N, Keep.old O (Keep.of_ext E) all0⟩ rfl (Keep.of_ext E) (Arv.new A hn) Ov)
theorem E_aastore (X : Wk l Z R bytes mL ret own nm p e s m args below meth c T cells slots) {a y : Addr} {kA : ClassId} {z j : Int32} {vs : List Value} {C : String} (i : Nat) (hd : decode bytes pc = .ok (.aastore, 1)) (V : Arv Z T.heap a kA (.object C) z vs .null) (Ov : Ovr Z kA C) (I : Ins Z T.heap y C true) (hj : ¬ j < 0 ∧ j < z) (hi : j.toNatClampNeg = i) (hl : i < vs.length) (ha : Z.heap.size ≤ a) {pc' : Nat} (hp : pc + 1 = pc')
    (k : ∀ (T' : State), Wk l Z R bytes mL ret own nm p e s m args below meth c T' cells slots → Keep T.heap T'.heap [a] → Arv Z T'.heap a kA (.object C) z (vs.set i (.ref y)) .null → Ends p e below s Z Q cC cS T' (mkF m pc' Ls st)) : Ends p e below s Z Q cC cS T (mkF m pc Ls (.ref y :: .int j :: .ref a :: st)) := by
  subst hp; obtain ⟨q0, locs, Y, N, O⟩ := id X
  obtain ⟨cl, A, q1, S1, N1, H1, G1⟩ := V
  obtain ⟨T', h', Y', rfl, W, stp⟩ := stR Y X.hx X.hZ rfl A (j := j) (inb_of S1 hj) rfl (Sto.ofV A q1 Ov I) (g := mkF m pc Ls (.ref y :: .int j :: .ref a :: st)) rfl rfl (X.hb hd)
  exact E_by stp (k T' ⟨q0, _, Y', Fr.snoc Y' N ha, Keep.old O (Keep.of_wr W) (allS ha all0)⟩ (Keep.of_wr W) (Arv.set A q1 S1 N1 H1 G1 rfl W i hi hl))
theorem E_aastoreA (X : Wk l Z R bytes mL ret own nm p e s m args below meth c T cells slots) {a y : Addr} {kA : ClassId} {z j : Int32} {vs : List Value} {C : String} (hd : decode bytes pc = .ok (.aastore, 1)) (V : Arv Z T.heap a kA (.object C) z vs .null) (Ov : Ovr Z kA C) (I : Ins Z T.heap y C true) (hj : ¬ j < 0 ∧ j < z) (hi : j.toNatClampNeg = vs.length) (ha : Z.heap.size ≤ a) {pc' : Nat} (hp : pc + 1 = pc')
    (k : ∀ (T' : State), Wk l Z R bytes mL ret own nm p e s m args below meth c T' cells slots → Keep T.heap T'.heap [a] → Arv Z T'.heap a kA (.object C) z (vs ++ [.ref y]) .null → Ends p e below s Z Q cC cS T' (mkF m pc' Ls st)) : Ends p e below s Z Q cC cS T (mkF m pc Ls (.ref y :: .int j :: .ref a :: st)) := by
  refine E_aastore X vs.length hd (V.pad (pad_rep vs .null 1)) Ov I hj hi (by simp) ha hp fun T' X' K' V' => k T' X' K' ?_
  have q : (vs ++ List.replicate 1 Value.null).set vs.length (.ref y) = vs ++ [.ref y] := by simp
  rw [q] at V'; exact V'
theorem E_iastore (X : Wk l Z R bytes mL ret own nm p e s m args below meth c T cells slots) {a : Addr} {kA : ClassId} {z j x : Int32} {vs : List Value} {dv : Value} {y : Int32} (i : Nat) (hd : decode bytes pc = .ok (.iastore, 1)) (hy : x = y) (V : Arv Z T.heap a kA .int z vs dv) (hj : ¬ j < 0 ∧ j < z) (hi : j.toNatClampNeg = i) (hl : i < vs.length) (ha : Z.heap.size ≤ a) {pc' : Nat} (hp : pc + 1 = pc')
    (k : ∀ (T' : State), Wk l Z R bytes mL ret own nm p e s m args below meth c T' cells slots → Keep T.heap T'.heap [a] → Arv Z T'.heap a kA .int z (vs.set i (.int y)) dv → Ends p e below s Z Q cC cS T' (mkF m pc' Ls st)) : Ends p e below s Z Q cC cS T (mkF m pc Ls (.int x :: .int j :: .ref a :: st)) := by
  subst hp hy; obtain ⟨q0, locs, Y, N, O⟩ := id X
  obtain ⟨cl, A, q1, S1, N1, H1, G1⟩ := V
  obtain ⟨T', h', Y', rfl, W, stp⟩ := stI Y X.hx X.hZ rfl A (j := j) (x := x) (inb_of S1 hj) (g := mkF m pc Ls (.int x :: .int j :: .ref a :: st)) rfl rfl (X.hb hd)
  exact E_by stp (k T' ⟨q0, _, Y', Fr.snoc Y' N ha, Keep.old O (Keep.of_wr W) (allS ha all0)⟩ (Keep.of_wr W) (Arv.set A q1 S1 N1 H1 G1 (rfl) W i hi hl))
theorem E_castore (X : Wk l Z R bytes mL ret own nm p e s m args below meth c T cells slots) {a : Addr} {kA : ClassId} {z j x : Int32} {vs : List Value} {dv : Value} {y : Int32} (i : Nat) (hd : decode bytes pc = .ok (.castore, 1)) (hy : nar .char x = y) (V : Arv Z T.heap a kA .char z vs dv) (hj : ¬ j < 0 ∧ j < z) (hi : j.toNatClampNeg = i) (hl : i < vs.length) (ha : Z.heap.size ≤ a) {pc' : Nat} (hp : pc + 1 = pc')
    (k : ∀ (T' : State), Wk l Z R bytes mL ret own nm p e s m args below meth c T' cells slots → Keep T.heap T'.heap [a] → Arv Z T'.heap a kA .char z (vs.set i (.int y)) dv → Ends p e below s Z Q cC cS T' (mkF m pc' Ls st)) : Ends p e below s Z Q cC cS T (mkF m pc Ls (.int x :: .int j :: .ref a :: st)) := by
  subst hp hy; obtain ⟨q0, locs, Y, N, O⟩ := id X
  obtain ⟨cl, A, q1, S1, N1, H1, G1⟩ := V
  obtain ⟨T', h', Y', rfl, W, stp⟩ := stC Y X.hx X.hZ rfl A (j := j) (x := x) (inb_of S1 hj) (g := mkF m pc Ls (.int x :: .int j :: .ref a :: st)) rfl rfl (X.hb hd)
  exact E_by stp (k T' ⟨q0, _, Y', Fr.snoc Y' N ha, Keep.old O (Keep.of_wr W) (allS ha all0)⟩ (Keep.of_wr W) (Arv.set A q1 S1 N1 H1 G1 (fits_nar_char _) W i hi hl))
theorem E_bastore (X : Wk l Z R bytes mL ret own nm p e s m args below meth c T cells slots) {a : Addr} {kA : ClassId} {z j x : Int32} {vs : List Value} {dv : Value} {y : Int32} (i : Nat) (hd : decode bytes pc = .ok (.bastore, 1)) (hy : x.toInt8.toInt32 = y) (V : Arv Z T.heap a kA .byte z vs dv) (hj : ¬ j < 0 ∧ j < z) (hi : j.toNatClampNeg = i) (hl : i < vs.length) (ha : Z.heap.size ≤ a) {pc' : Nat} (hp : pc + 1 = pc')
    (k : ∀ (T' : State), Wk l Z R bytes mL ret own nm p e s m args below meth c T' cells slots → Keep T.heap T'.heap [a] → Arv Z T'.heap a kA .byte z (vs.set i (.int y)) dv → Ends p e below s Z Q cC cS T' (mkF m pc' Ls st)) : Ends p e below s Z Q cC cS T (mkF m pc Ls (.int x :: .int j :: .ref a :: st)) := by
  subst hp hy; obtain ⟨q0, locs, Y, N, O⟩ := id X
  obtain ⟨cl, A, q1, S1, N1, H1, G1⟩ := V
  obtain ⟨T', h', Y', rfl, W, stp⟩ := stB Y X.hx X.hZ rfl A (j := j) (x := x) (inb_of S1 hj) (g := mkF m pc Ls (.int x :: .int j :: .ref a :: st)) rfl rfl (X.hb hd)
  exact E_by stp (k T' ⟨q0, _, Y', Fr.snoc Y' N ha, Keep.old O (Keep.of_wr W) (allS ha all0)⟩ (Keep.of_wr W) (Arv.set A q1 S1 N1 H1 G1 (fits_nar_byte _) W i hi hl))
theorem E_iastoreA (X : Wk l Z R bytes mL ret own nm p e s m args below meth c T cells slots) {a : Addr} {kA : ClassId} {z j x : Int32} {vs : List Value} {dv : Value} {y : Int32} (hd : decode bytes pc = .ok (.iastore, 1)) (hy : x = y) (V : Arv Z T.heap a kA .int z vs dv) (hj : ¬ j < 0 ∧ j < z) (hi : j.toNatClampNeg = vs.length) (ha : Z.heap.size ≤ a) {pc' : Nat} (hp : pc + 1 = pc')
    (k : ∀ (T' : State), Wk l Z R bytes mL ret own nm p e s m args below meth c T' cells slots → Keep T.heap T'.heap [a] → Arv Z T'.heap a kA .int z (vs ++ [.int y]) dv → Ends p e below s Z Q cC cS T' (mkF m pc' Ls st)) : Ends p e below s Z Q cC cS T (mkF m pc Ls (.int x :: .int j :: .ref a :: st)) := by
  refine E_iastore X vs.length hd hy (V.pad (pad_rep vs dv 1)) hj hi (by simp) ha hp fun T' X' K' V' => k T' X' K' ?_
  have q : (vs ++ List.replicate 1 dv).set vs.length (.int y) = vs ++ [.int y] := by simp
  rw [q] at V'; exact V'
theorem E_castoreA (X : Wk l Z R bytes mL ret own nm p e s m args below meth c T cells slots) {a : Addr} {kA : ClassId} {z j x : Int32} {vs : List Value} {dv : Value} {y : Int32} (hd : decode bytes pc = .ok (.castore, 1)) (hy : nar .char x = y) (V : Arv Z T.heap a kA .char z vs dv) (hj : ¬ j < 0 ∧ j < z) (hi : j.toNatClampNeg = vs.length) (ha : Z.heap.size ≤ a) {pc' : Nat} (hp : pc + 1 = pc')
    (k : ∀ (T' : State), Wk l Z R bytes mL ret own nm p e s m args below meth c T' cells slots → Keep T.heap T'.heap [a] → Arv Z T'.heap a kA .char z (vs ++ [.int y]) dv → Ends p e below s Z Q cC cS T' (mkF m pc' Ls st)) : Ends p e below s Z Q cC cS T (mkF m pc Ls (.int x :: .int j :: .ref a :: st)) := by
  refine E_castore X vs.length hd hy (V.pad (pad_rep vs dv 1)) hj hi (by simp) ha hp fun T' X' K' V' => k T' X' K' ?_
  have q : (vs ++ List.replicate 1 dv).set vs.length (.int y) = vs ++ [.int y] := by simp
  rw [q] at V'; exact V'
theorem E_bastoreA (X : Wk l Z R bytes mL ret own nm p e s m args below meth c T cells slots) {a : Addr} {kA : ClassId} {z j x : Int32} {vs : List Value} {dv : Value} {y : Int32} (hd : decode bytes pc = .ok (.bastore, 1)) (hy : x.toInt8.toInt32 = y) (V : Arv Z T.heap a kA .byte z vs dv) (hj : ¬ j < 0 ∧ j < z) (hi : j.toNatClampNeg = vs.length) (ha : Z.heap.size ≤ a) {pc' : Nat} (hp : pc + 1 = pc')
    (k : ∀ (T' : State), Wk l Z R bytes mL ret own nm p e s m args below meth c T' cells slots → Keep T.heap T'.heap [a] → Arv Z T'.heap a kA .byte z (vs ++ [.int y]) dv → Ends p e below s Z Q cC cS T' (mkF m pc' Ls st)) : Ends p e below s Z Q cC cS T (mkF m pc Ls (.int x :: .int j :: .ref a :: st)) := by
  refine E_bastore X vs.length hd hy (V.pad (pad_rep vs dv 1)) hj hi (by simp) ha hp fun T' X' K' V' => k T' X' K' ?_
  have q : (vs ++ List.replicate 1 dv).set vs.length (.int y) = vs ++ [.int y] := by simp
  rw [q] at V'; exact V'
theorem E_iaload (X : Wk l Z R bytes mL ret own nm p e s m args below meth c T cells slots) {a : Addr} {kA : ClassId} {z j : Int32} {vs : List Value} {dv v : Value} (hd : decode bytes pc = .ok (.iaload, 1)) (V : Arv Z T.heap a kA .int z vs dv) (hj : ¬ j < 0 ∧ j < z) (hv : vs.getD j.toNatClampNeg dv = v) {pc' : Nat} (hp : pc + 1 = pc')
    (k : Ends p e below s Z Q cC cS T (mkF m pc' Ls (v :: st))) : Ends p e below s Z Q cC cS T (mkF m pc Ls (.int j :: .ref a :: st)) := by
  subst hp; obtain ⟨q0, locs, Y, N, O⟩ := id X
  obtain ⟨cl, A, q1, S1, N1, H1, G1⟩ := V
  exact E_by (Y.iaload X.hx A.1 (State.isArrayOf_alike X.hZ.alike A.2.1) A.2.2 (inb_of S1 hj) (Has.at H1 (inb_of S1 hj) hv) (g := mkF m pc Ls (.int j :: .ref a :: st)) rfl rfl (X.hb hd)) k
theorem E_caload (X : Wk l Z R bytes mL ret own nm p e s m args below meth c T cells slots) {a : Addr} {kA : ClassId} {z j : Int32} {vs : List Value} {dv v : Value} (hd : decode bytes pc = .ok (.caload, 1)) (V : Arv Z T.heap a kA .char z vs dv) (hj : ¬ j < 0 ∧ j < z) (hv : vs.getD j.toNatClampNeg dv = v) {pc' : Nat} (hp : pc + 1 = pc')
    (k : Ends p e below s Z Q cC cS T (mkF m pc' Ls (v :: st))) : Ends p e below s Z Q cC cS T (mkF m pc Ls (.int j :: .ref a :: st)) := by
  subst hp; obtain ⟨q0, locs, Y, N, O⟩ := id X
  obtain ⟨cl, A, q1, S1, N1, H1, G1⟩ := V
  exact E_by (Y.caload X.hx A.1 (State.isArrayOf_alike X.hZ.alike A.2.1) A.2.2 (inb_of S1 hj) (Has.at H1 (inb_of S1 hj) hv) (g := mkF m pc Ls (.int j :: .ref a :: st)) rfl rfl (X.hb hd)) k
theorem E_baload (X : Wk l Z R bytes mL ret own nm p e s m args below meth c T cells slots) {a : Addr} {kA : ClassId} {z j : Int32} {vs : List Value} {dv v : Value} (hd : decode bytes pc = .ok (.baload, 1)) (V : Arv Z T.heap a kA .byte z vs dv) (hj : ¬ j < 0 ∧ j < z) (hv : vs.getD j.toNatClampNeg dv = v) {pc' : Nat} (hp : pc + 1 = pc')
    (k : Ends p e below s Z Q cC cS T (mkF m pc' Ls (v :: st))) : Ends p e below s Z Q cC cS T (mkF m pc Ls (.int j :: .ref a :: st)) := by
  subst hp; obtain ⟨q0, locs, Y, N, O⟩ := id X
  obtain ⟨cl, A, q1, S1, N1, H1, G1⟩ := V
  exact E_by (Y.baloadBytes X.hx A.1 (State.isArrayOf_alike X.hZ.alike A.2.1) A.2.2 (inb_of S1 hj) (Has.at H1 (inb_of S1 hj) hv) (g := mkF m pc Ls (.int j :: .ref a :: st)) rfl rfl (X.hb hd)) k
theorem E_aaload (X : Wk l Z R bytes mL ret own nm p e s m args below meth c T cells slots) {a : Addr} {kA : ClassId} {z j : Int32} {vs : List Value} {dv v : Value} {ty : FieldType} (hd : decode bytes pc = .ok (.aaload, 1)) (V : Arv Z T.heap a kA ty z vs dv) (hty : ty.isReference = true) (hj : ¬ j < 0 ∧ j < z) (hv : vs.getD j.toNatClampNeg dv = v) {pc' : Nat} (hp : pc + 1 = pc')
    (k : Ends p e below s Z Q cC cS T (mkF m pc' Ls (v :: st))) : Ends p e below s Z Q cC cS T (mkF m pc Ls (.int j :: .ref a :: st)) := by
  subst hp; obtain ⟨q0, locs, Y, N, O⟩ := id X
  obtain ⟨cl, A, q1, S1, N1, H1, G1⟩ := V
  exact E_by (Y.aaload X.hx A.1 (State.isArrayOf_alike X.hZ.alike A.2.1) hty A.2.2 (inb_of S1 hj) (Has.at H1 (inb_of S1 hj) hv) (g := mkF m pc Ls (.int j :: .ref a :: st)) rfl rfl (X.hb hd)) k
theorem E_clone (X : Wk l Z R bytes mL ret own nm p e s m args below meth c T cells slots) {a : Addr} {kA : ClassId} {z : Int32} {vs : List Value} {dv : Value} {ty : FieldType} {ix : Nat} {ad : String} (cap : Nat) (hd : decode bytes pc = .ok (.invokevirtual ix, 3)) (w1 : (Jvm.Cond.methodLink own ix ⟨ad, "clone", "()Ljava/lang/Object;"⟩).before a0 Z = true) (w2 : (Jvm.Cond.sameMethod ad "java/lang/Object" "clone" "()Ljava/lang/Object;").before a0 Z = true) (w3 : (Jvm.Cond.native ⟨"java/lang/Object", "clone", "()Ljava/lang/Object;"⟩).before a0 Z = true) (w4 : (Jvm.Cond.instanceMethod ⟨"java/lang/Object", "clone", "()Ljava/lang/Object;"⟩).before a0 Z = true) (w5 : (Jvm.Cond.selects ad ⟨ad, "clone", "()Ljava/lang/Object;"⟩ ⟨"java/lang/Object", "clone", "()Ljava/lang/Object;"⟩).before a0 Z = true) (w6 : (Jvm.Cond.castable ad "java/lang/Cloneable").before a0 Z = true) (V : Arv Z T.heap a kA ty z vs dv) (E : Exa Z T.heap a ad) (hsz : Ls.size = mL) (hf : 1 ≤ R.frames) (hl : (st.map fun v => v.category).sum + 14 ≤ R.locals) (hcap : z.toNatClampNeg ≤ cap) (hc : cells + 1 ≤ R.cells) (hs : slots + cap ≤ R.slots) {pc' : Nat} (hp : pc + 3 = pc')
    (k : ∀ (T' : State) (b : Addr), Wk l Z R bytes mL ret own nm p e s m args below meth c T' (cells + 1) (slots + cap) → b = T.heap.size → Keep T.heap T'.heap [] → Arv Z T'.heap b kA ty z vs dv → Exa Z T'.heap b ad → Ends p e below s Z Q cC cS T' (mkF m pc' Ls (.ref b :: st))) : Ends p e below s Z Q cC cS T (mkF m pc Ls (.ref a :: st)) := by
  subst hp; obtain ⟨q0, locs, Y, N, O⟩ := id X
  obtain ⟨T', h', Y', rfl, E, V1, X1, stp⟩ := cloneH Y X.hx X.hZ X.hown w1 w2 w3 w4 w5 w6 rfl V.arh E (g := mkF m pc Ls (.ref a :: st)) rfl (X.size hsz) rfl (X.hb hd) hf (W := (st.map fun v => v.category).sum) (by show 2 * 0 + _ ≤ _; omega) hl hcap hc hs
  exact E_by stp (k T' _ ⟨q0, locs, Y', N, Keep.old O (Keep.of_ext E) all0⟩ rfl (Keep.of_ext E) V1 X1)
theorem E_instNull (X : Wk l Z R bytes mL ret own nm p e s m args below meth c T cells slots) {ix : Nat} (hd : decode bytes pc = .ok (.instanceof ix, 3)) {pc' : Nat} (hp : pc + 3 = pc') (k : Ends p e below s Z Q cC cS T (mkF m pc' Ls (.int 0 :: st))) : Ends p e below s Z Q cC cS T (mkF m pc Ls (.null :: st)) := by
  subst hp; obtain ⟨q0, locs, Y, N, O⟩ := id X
  exact E_by (fun _ q => Y.instanceofNull X.hx (g := mkF m pc Ls (.null :: st)) rfl (rest := st) rfl (X.hb hd) _ q) k
theorem E_arraylength (X : Wk l Z R bytes mL ret own nm p e s m args below meth c T cells slots) {a : Addr} {kA : ClassId} {z : Int32} {vs : List Value} {dv : Value} {ty : FieldType} (hd : decode bytes pc = .ok (.arraylength, 1)) (V : Arv Z T.heap a kA ty z vs dv) {pc' : Nat} (hp : pc + 1 = pc')
    (k : Ends p e below s Z Q cC cS T (mkF m pc' Ls (.int z :: st))) : Ends p e below s Z Q cC cS T (mkF m pc Ls (.ref a :: st)) := by
  subst hp; obtain ⟨q0, locs, Y, N, O⟩ := id X
  obtain ⟨cl, A, q1, S1, N1, H1, G1⟩ := V
  refine E_by (Y.arraylength X.hx A.1 (State.isArrayOf_alike X.hZ.alike A.2.1) (g := mkF m pc Ls (.ref a :: st)) rfl rfl (X.hb hd)) ?_
  rw [len_of S1 N1]; exact k
theorem E_getfield (X : Wk l Z R bytes mL ret own nm p e s m args below meth c T cells slots) {a : Addr} {O n d R0 : String} {ix : Nat} {v : Value} (hd : decode bytes pc = .ok (.getfield ix, 3)) (w : (Jvm.Cond.fieldLink own ix R0 n d).before a0 Z = true) (via : Via Z R0 O n d) (F : Fld Z T.heap a O n d v) {pc' : Nat} (hp : pc + 3 = pc')
    (k : ∀ (T' : State), Wk l Z R bytes mL ret own nm p e s m args below meth c T' cells slots → T'.heap = T.heap → Ends p e below s Z Q cC cS T' (mkF m pc' Ls (v :: st))) : Ends p e below s Z Q cC cS T (mkF m pc Ls (.ref a :: st)) := by
  subst hp; obtain ⟨q0, locs, Y, N, Od⟩ := id X
  obtain ⟨T', Y', e1, stp⟩ := getF Y X.hx X.hZ X.hown (host := "") (Or.inl w) via rfl F (g := mkF m pc Ls (.ref a :: st)) rfl rfl (X.hb hd)
  exact E_by stp (k T' ⟨q0, locs, Y', N, e1 ▸ Od⟩ e1)
theorem E_getstatic (X : Wk l Z R bytes mL ret own nm p e s m args below meth c T cells slots) {O n d R0 : String} {ix : Nat} {v : Value} (hd : decode bytes pc = .ok (.getstatic ix, 3)) (w : (Jvm.Cond.fieldLink own ix R0 n d).before a0 Z = true) (via : Via Z R0 O n d) (F : Sta Z Z.heap O n d v) {pc' : Nat} (hp : pc + 3 = pc')
    (k : ∀ (T' : State), Wk l Z R bytes mL ret own nm p e s m args below meth c T' cells slots → T'.heap = T.heap → Ends p e below s Z Q cC cS T' (mkF m pc' Ls (v :: st))) : Ends p e below s Z Q cC cS T (mkF m pc Ls st) := by
  subst hp; obtain ⟨q0, locs, Y, N, Od⟩ := id X
  obtain ⟨T', Y', e1, stp⟩ := getS Y X.hx X.hZ (host := "") X.hown w via rfl (F.ext Od) (g := mkF m pc Ls st) rfl (X.hb hd)
  exact E_by stp (k T' ⟨q0, locs, Y', N, e1 ▸ Od⟩ e1)
theorem E_putfield (X : Wk l Z R bytes mL ret own nm p e s m args below meth c T cells slots) {a : Addr} {O n d R0 C : String} {ix kk : Nat} {v old : Value} {ty : FieldType} (hd : decode bytes pc = .ok (.putfield ix, 3)) (w : (Jvm.Cond.fieldLink own ix R0 n d).before a0 Z = true) (via : Via Z R0 O n d) (F : Fld Z T.heap a O n d old) (E : Exa Z T.heap a C) (L : (Jvm.Cond.lays C O n d).before a0 Z = true ∨ ((Jvm.Cond.laysFinal C O n d).before a0 Z = true ∧ own = O ∧ nm = "<init>")) (wi : (Jvm.Cond.instantiable C kk).before a0 Z = true) (hty : parseFieldDescriptor d = some ty) (hn : narrow ty v = v) (hf : fits ty v = true) (ha : Z.heap.size ≤ a) {pc' : Nat} (hp : pc + 3 = pc')
    (k : ∀ (T' : State), Wk l Z R bytes mL ret own nm p e s m args below meth c T' cells slots → Wr T.heap T'.heap a (Jvm.RoadKit.slotOf Z O n d) v → Ends p e below s Z Q cC cS T' (mkF m pc' Ls st)) : Ends p e below s Z Q cC cS T (mkF m pc Ls (v :: .ref a :: st)) := by
  subst hp; obtain ⟨q0, locs, Y, N, Od⟩ := id X
  obtain ⟨T', h', Y', rfl, W, stp⟩ := putF Y X.hx X.hZ X.hown (host := "") (Or.inl w) via rfl F E (L.imp id fun q => ⟨q.1, q.2.1, q0.2.2.2.2.2.2.1.trans q.2.2⟩) wi hty hn hf (g := mkF m pc Ls (v :: .ref a :: st)) rfl rfl (X.hb hd)
  exact E_by stp (k T' ⟨q0, _, Y', Fr.snoc Y' N ha, Keep.old Od (Keep.of_wr W) (allS ha all0)⟩ W)
theorem E_initO (X : Wk l Z R bytes mL ret own nm p e s m args below meth c T cells slots) {a : Addr} {ix : Nat} (hd : decode bytes pc = .ok (.invokespecial ix, 3)) (w1 : (Jvm.Cond.methodLink own ix Lib.objectInit).before a0 Z = true) (w2 : (Jvm.Cond.instanceMethod Lib.objectInit).before a0 Z = true) (w3 : (Jvm.Cond.code Lib.objectInit ⟨#[0xb1]⟩ 1 none).before a0 Z = true) (hsz : Ls.size = mL) (hf : 1 ≤ R.frames) (hl : (st.map fun v => v.category).sum + 12 ≤ R.locals) {pc' : Nat} (hp : pc + 3 = pc')
    (k : ∀ (T' : State), Wk l Z R bytes mL ret own nm p e s m args below meth c T' cells slots → T'.heap = T.heap → Ends p e below s Z Q cC cS T' (mkF m pc' Ls st)) : Ends p e below s Z Q cC cS T (mkF m pc Ls (.ref a :: st)) := by
  subst hp; obtain ⟨q0, locs, Y, N, Od⟩ := id X
  obtain ⟨T', Y', e1, stp⟩ := initO Y X.hx X.hZ X.hown w1 w2 w3 rfl (g := mkF m pc Ls (.ref a :: st)) rfl (X.size hsz) rfl (X.hb hd) hf (W := (st.map fun v => v.category).sum) (by show 2 * 0 + _ ≤ _; omega) hl
  exact E_by stp (k T' ⟨q0, locs, Y', N, e1 ▸ Od⟩ e1)
theorem E_checkcast (X : Wk l Z R bytes mL ret own nm p e s m args below meth c T cells slots) {a : Addr} {K : String} {ix : Nat} (hd : decode bytes pc = .ok (.checkcast ix, 3)) (w : (Jvm.Cond.classLink own ix K).before a0 Z = true) (F : Ins Z T.heap a K true) {pc' : Nat} (hp : pc + 3 = pc')
    (k : ∀ (T' : State), Wk l Z R bytes mL ret own nm p e s m args below meth c T' cells slots → T'.heap = T.heap → Ends p e below s Z Q cC cS T' (mkF m pc' Ls (.ref a :: st))) : Ends p e below s Z Q cC cS T (mkF m pc Ls (.ref a :: st)) := by
  subst hp; obtain ⟨q0, locs, Y, N, Od⟩ := id X
  obtain ⟨T', Y', e1, stp⟩ := castY Y X.hx X.hZ X.hown w rfl F (g := mkF m pc Ls (.ref a :: st)) rfl rfl (X.hb hd)
  exact E_by stp (k T' ⟨q0, locs, Y', N, e1 ▸ Od⟩ e1)
theorem E_instY (X : Wk l Z R bytes mL ret own nm p e s m args below meth c T cells slots) {a : Addr} {K : String} {ix : Nat} (hd : decode bytes pc = .ok (.instanceof ix, 3)) (w : (Jvm.Cond.classLink own ix K).before a0 Z = true) (F : Ins Z T.heap a K true) {pc' : Nat} (hp : pc + 3 = pc')
    (k : ∀ (T' : State), Wk l Z R bytes mL ret own nm p e s m args below meth c T' cells slots → T'.heap = T.heap → Ends p e below s Z Q cC cS T' (mkF m pc' Ls (.int 1 :: st))) : Ends p e below s Z Q cC cS T (mkF m pc Ls (.ref a :: st)) := by
  subst hp; obtain ⟨q0, locs, Y, N, Od⟩ := id X
  obtain ⟨T', Y', e1, stp⟩ := instY Y X.hx X.hZ X.hown w rfl F (g := mkF m pc Ls (.ref a :: st)) rfl rfl (X.hb hd)
  exact E_by stp (k T' ⟨q0, locs, Y', N, e1 ▸ Od⟩ e1)
theorem E_staticB (X : Wk l Z R bytes mL ret own nm p e s m args below meth c T cells slots) {y : MethodName} {ix : Nat} {bytes' : ByteArray} {mL' : Nat} {ret' : Option FieldType} {Q' : Option Value → Heap → Prop} {argsL : List Value} {Q2 : Option Value → Heap → List Loc → Prop} {rC rS : Nat} (hd : decode bytes pc = .ok (.invokestatic ix, 3)) (w1 : (Jvm.Cond.methodLink own ix y).before a0 Z = true) (w2 : (Jvm.Cond.static y).before a0 Z = true) (w3 : (Jvm.Cond.initialized y.cls).before a0 Z = true) (w4 : (Jvm.Cond.code y bytes' mL' ret').before a0 Z = true) (hy : y.cls ≠ "java/lang/invoke/MethodHandle" ∧ y.cls ≠ "java/lang/invoke/VarHandle") {st0 : List Value} (hst : st0 = argsL.reverse ++ st) (hK : Back l R p e below s args y 3 ((st.map fun v => v.category).sum) (fun A aa => aa = argsL.toArray ∧ A.U.heap = T.heap ∧ A.cells + rC ≤ R.cells ∧ A.slots + rS ≤ R.slots) (fun A _ v B => ∃ L, Q2 v B.U.heap L ∧ B.locs = A.locs ++ L ∧ B.cells = A.cells + rC ∧ B.slots = A.slots + rS)) (hQ2 : ∀ v h L, Q2 v h L → Fr Z.heap.size L ∧ Ext Z.heap h ∧ Q' v h) (hlen : ∀ sig, parseMethodDescriptor y.desc = some sig → argsL.length = sig.parameters.length) (hsz : Ls.size = mL) (hcl : cells + rC ≤ R.cells) (hsl : slots + rS ≤ R.slots) {pc' : Nat} (hp : pc + 3 = pc')
    (k : ∀ (T' : State) (v : Option Value), Wk l Z R bytes mL ret own nm p e s m args below meth c T' (cells + rC) (slots + rS) → Q' v T'.heap → Ends p e below s Z Q cC cS T' (mkF m pc' Ls (v.toList ++ st))) : Ends p e below s Z Q cC cS T (mkF m pc Ls st0) := by
  subst hp hst; obtain ⟨q0, locs, Y, N, Od⟩ := id X
  obtain ⟨v, _, ⟨T', L1, k1, n1⟩, -, Y', ⟨Lc, hQ, l1, y1, z1⟩, stp⟩ := Jvm.LawKit.callS Y X.hx (y := y) X.hown (mvT X.hZ w1) (mvT X.hZ w2) (mvT X.hZ w3) (mvT X.hZ w4) hy hK (g := mkF m pc Ls (argsL.reverse ++ st)) rfl (X.size hsz) (argsL := argsL) (rest := st) hlen rfl (by show 2 * 0 + _ ≤ _; omega) (X.hb hd) (fun _ _ => ⟨rfl, rfl, hcl, hsl⟩)
  dsimp only [Pt.U, Pt.locs, Pt.cells, Pt.slots] at Y' l1 y1 z1 stp hQ
  subst l1 y1 z1
  obtain ⟨f1, f2, f3⟩ := hQ2 _ _ _ hQ
  exact E_by stp (k T' v ⟨q0, _, Y', Fr.app N f1, f2⟩ f3)
theorem E_static (X : Wk l Z R bytes mL ret own nm p e s m args below meth c T cells slots) {y : MethodName} {ix : Nat} {bytes' : ByteArray} {mL' : Nat} {ret' : Option FieldType} {Q' : Option Value → Heap → Prop} {argsL : List Value} {rm : Room} (hd : decode bytes pc = .ok (.invokestatic ix, 3)) (w1 : (Jvm.Cond.methodLink own ix y).before a0 Z = true) (w2 : (Jvm.Cond.static y).before a0 Z = true) (w3 : (Jvm.Cond.initialized y.cls).before a0 Z = true) (w4 : (Jvm.Cond.code y bytes' mL' ret').before a0 Z = true) (hy : y.cls ≠ "java/lang/invoke/MethodHandle" ∧ y.cls ≠ "java/lang/invoke/VarHandle")  {st0 : List Value} (hst : st0 = argsL.reverse ++ st) (hC : Ct l Z y bytes' mL' ret' rm argsL.toArray T.heap Q') (hlen : ∀ sig, parseMethodDescriptor y.desc = some sig → argsL.length = sig.parameters.length) (hsz : Ls.size = mL) (hcl : cells + rm.cells ≤ R.cells) (hsl : slots + rm.slots ≤ R.slots) (hfr : rm.frames + 1 ≤ R.frames) (hlo : (st.map fun v => v.category).sum + (mL' + 11) + rm.locals ≤ R.locals) {pc' : Nat} (hp : pc + 3 = pc')
    (k : ∀ (T' : State) (v : Option Value), Wk l Z R bytes mL ret own nm p e s m args below meth c T' (cells + rm.cells) (slots + rm.slots) → Q' v T'.heap → Ends p e below s Z Q cC cS T' (mkF m pc' Ls (v.toList ++ st))) : Ends p e below s Z Q cC cS T (mkF m pc Ls st0) :=
  E_staticB X hd w1 w2 w3 w4 hy hst (hC.back X.hH w4 w3 hfr hlo) (fun _ _ _ q => q) hlen hsz hcl hsl hp k
theorem E_specialB (X : Wk l Z R bytes mL ret own nm p e s m args below meth c T cells slots) {y : MethodName} {ix : Nat} {bytes' : ByteArray} {mL' : Nat} {ret' : Option FieldType} {Q' : Option Value → Heap → Prop} {argsL : List Value} {Q2 : Option Value → Heap → List Loc → Prop} {rC rS : Nat} {a : Addr} (hd : decode bytes pc = .ok (.invokespecial ix, 3)) (hy1 : y.name = "<init>") (hret : ret' = none) (w1 : (Jvm.Cond.methodLink own ix y).before a0 Z = true) (w2 : (Jvm.Cond.instanceMethod y).before a0 Z = true) (w4 : (Jvm.Cond.code y bytes' mL' ret').before a0 Z = true) (hy : y.cls ≠ "java/lang/invoke/MethodHandle" ∧ y.cls ≠ "java/lang/invoke/VarHandle") {st0 : List Value} (hst : st0 = argsL.reverse ++ .ref a :: st) (hK : Back l R p e below s args y 3 ((st.map fun v => v.category).sum) (fun A aa => aa = (.ref a :: argsL).toArray ∧ A.U.heap = T.heap ∧ A.cells + rC ≤ R.cells ∧ A.slots + rS ≤ R.slots) (fun A _ v B => ∃ L, Q2 v B.U.heap L ∧ B.locs = A.locs ++ L ∧ B.cells = A.cells + rC ∧ B.slots = A.slots + rS)) (hQ2 : ∀ v h L, Q2 v h L → Fr Z.heap.size L ∧ Ext Z.heap h ∧ Q' v h) (hlen : ∀ sig, parseMethodDescriptor y.desc = some sig → argsL.length = sig.parameters.length) (hsz : Ls.size = mL) (hcl : cells + rC ≤ R.cells) (hsl : slots + rS ≤ R.slots) {pc' : Nat} (hp : pc + 3 = pc')
    (k : ∀ (T' : State) (v : Option Value), Wk l Z R bytes mL ret own nm p e s m args below meth c T' (cells + rC) (slots + rS) → Q' v T'.heap → Ends p e below s Z Q cC cS T' (mkF m pc' Ls (v.toList ++ st))) : Ends p e below s Z Q cC cS T (mkF m pc Ls st0) := by
  subst hp hst; obtain ⟨q0, locs, Y, N, Od⟩ := id X
  subst hret
  obtain ⟨v, _, ⟨T', L1, k1, n1⟩, -, Y', ⟨Lc, hQ, l1, y1, z1⟩, stp⟩ := Y.specialBack X.hx (y := y) hy1 X.hown (mvT X.hZ w1) (mvT X.hZ w2) (mvT X.hZ w4) hy hK (g := mkF m pc Ls (argsL.reverse ++ .ref a :: st)) rfl (X.size hsz) (Steps.refl _) (a := a) (argsL := argsL) (rest := st) hlen rfl (by show 2 * 0 + _ ≤ _; omega) (X.hb hd) (fun _ _ => ⟨rfl, rfl, hcl, hsl⟩)
  dsimp only [Pt.U, Pt.locs, Pt.cells, Pt.slots] at Y' l1 y1 z1 stp hQ
  subst l1 y1 z1
  obtain ⟨f1, f2, f3⟩ := hQ2 _ _ _ hQ
  exact E_tr stp (k T' v ⟨q0, _, Y', Fr.app N f1, f2⟩ f3)
theorem E_special (X : Wk l Z R bytes mL ret own nm p e s m args below meth c T cells slots) {y : MethodName} {ix : Nat} {bytes' : ByteArray} {mL' : Nat} {ret' : Option FieldType} {Q' : Option Value → Heap → Prop} {argsL : List Value} {rm : Room} {a : Addr} (hd : decode bytes pc = .ok (.invokespecial ix, 3)) (hy1 : y.name = "<init>") (hret : ret' = none) (w1 : (Jvm.Cond.methodLink own ix y).before a0 Z = true) (w2 : (Jvm.Cond.instanceMethod y).before a0 Z = true) (w4 : (Jvm.Cond.code y bytes' mL' ret').before a0 Z = true) (hy : y.cls ≠ "java/lang/invoke/MethodHandle" ∧ y.cls ≠ "java/lang/invoke/VarHandle") (w3 : (Jvm.Cond.initialized y.cls).before a0 Z = true) {st0 : List Value} (hst : st0 = argsL.reverse ++ .ref a :: st) (hC : Ct l Z y bytes' mL' ret' rm (.ref a :: argsL).toArray T.heap Q') (hlen : ∀ sig, parseMethodDescriptor y.desc = some sig → argsL.length = sig.parameters.length) (hsz : Ls.size = mL) (hcl : cells + rm.cells ≤ R.cells) (hsl : slots + rm.slots ≤ R.slots) (hfr : rm.frames + 1 ≤ R.frames) (hlo : (st.map fun v => v.category).sum + (mL' + 11) + rm.locals ≤ R.locals) {pc' : Nat} (hp : pc + 3 = pc')
    (k : ∀ (T' : State) (v : Option Value), Wk l Z R bytes mL ret own nm p e s m args below meth c T' (cells + rm.cells) (slots + rm.slots) → Q' v T'.heap → Ends p e below s Z Q cC cS T' (mkF m pc' Ls (v.toList ++ st))) : Ends p e below s Z Q cC cS T (mkF m pc Ls st0) :=
  E_specialB X hd hy1 hret w1 w2 w4 hy hst (hC.back X.hH w4 w3 hfr hlo) (fun _ _ _ q => q) hlen hsz hcl hsl hp k
theorem E_virtualB (X : Wk l Z R bytes mL ret own nm p e s m args below meth c T cells slots) {y : MethodName} {ix : Nat} {Q' : Option Value → Heap → Prop} {argsL : List Value} {Q2 : Option Value → Heap → List Loc → Prop} {rC rS : Nat} {a : Addr} {z : MethodName} {D : String} (hd : decode bytes pc = .ok (.invokevirtual ix, 3)) (w1 : (Jvm.Cond.methodLink own ix y).before a0 Z = true) (w2 : (Jvm.Cond.declares y).before a0 Z = true) (w5 : (Jvm.Cond.selects D y z).before a0 Z = true) (w6 : (Jvm.Cond.instanceMethod z).before a0 Z = true) (hnf : NotFace s y) (hy : y.cls ≠ "java/lang/invoke/MethodHandle" ∧ y.cls ≠ "java/lang/invoke/VarHandle") (E : Exa Z T.heap a D) {st0 : List Value} (hst : st0 = argsL.reverse ++ .ref a :: st) (hK : Back l R p e below s args z 3 ((st.map fun v => v.category).sum) (fun A aa => aa = (.ref a :: argsL).toArray ∧ A.U.heap = T.heap ∧ A.cells + rC ≤ R.cells ∧ A.slots + rS ≤ R.slots) (fun A _ v B => ∃ L, Q2 v B.U.heap L ∧ B.locs = A.locs ++ L ∧ B.cells = A.cells + rC ∧ B.slots = A.slots + rS)) (hQ2 : ∀ v h L, Q2 v h L → Fr Z.heap.size L ∧ Ext Z.heap h ∧ Q' v h) (hlen : ∀ sig, parseMethodDescriptor y.desc = some sig → argsL.length = sig.parameters.length) (hsz : Ls.size = mL) (hcl : cells + rC ≤ R.cells) (hsl : slots + rS ≤ R.slots) {pc' : Nat} (hp : pc + 3 = pc')
    (k : ∀ (T' : State) (v : Option Value), Wk l Z R bytes mL ret own nm p e s m args below meth c T' (cells + rC) (slots + rS) → Q' v T'.heap → Ends p e below s Z Q cC cS T' (mkF m pc' Ls (v.toList ++ st))) : Ends p e below s Z Q cC cS T (mkF m pc Ls st0) := by
  subst hp hst; obtain ⟨q0, locs, Y, N, Od⟩ := id X
  obtain ⟨cq, kq, qa, qb, qc⟩ := isOf X.hZ rfl E
  obtain ⟨v, _, ⟨T', L1, k1, n1⟩, -, Y', ⟨Lc, hQ, l1, y1, z1⟩, stp⟩ := Y.virtualBack X.hx (y := y) (z := z) X.hown (mvT X.hZ w1) (mvT X.hZ w2) hnf (mvT X.hZ w5) (mvT X.hZ w6) hy hK qa qc (g := mkF m pc Ls (argsL.reverse ++ .ref a :: st)) rfl (X.size hsz) (Steps.refl _) (argsL := argsL) (rest := st) hlen rfl (by show 2 * 0 + _ ≤ _; omega) (X.hb hd) (fun _ _ => ⟨rfl, rfl, hcl, hsl⟩)
  dsimp only [Pt.U, Pt.locs, Pt.cells, Pt.slots] at Y' l1 y1 z1 stp hQ
  subst l1 y1 z1
  obtain ⟨f1, f2, f3⟩ := hQ2 _ _ _ hQ
  exact E_tr stp (k T' v ⟨q0, _, Y', Fr.app N f1, f2⟩ f3)
theorem E_virtual (X : Wk l Z R bytes mL ret own nm p e s m args below meth c T cells slots) {y : MethodName} {ix : Nat} {bytes' : ByteArray} {mL' : Nat} {ret' : Option FieldType} {Q' : Option Value → Heap → Prop} {argsL : List Value} {rm : Room} {a : Addr} {z : MethodName} {D : String} (hd : decode bytes pc = .ok (.invokevirtual ix, 3)) (w1 : (Jvm.Cond.methodLink own ix y).before a0 Z = true) (w2 : (Jvm.Cond.declares y).before a0 Z = true) (w5 : (Jvm.Cond.selects D y z).before a0 Z = true) (w6 : (Jvm.Cond.instanceMethod z).before a0 Z = true) (hnf : NotFace s y) (hy : y.cls ≠ "java/lang/invoke/MethodHandle" ∧ y.cls ≠ "java/lang/invoke/VarHandle") (E : Exa Z T.heap a D) (w3 : (Jvm.Cond.initialized z.cls).before a0 Z = true) (w4 : (Jvm.Cond.code z bytes' mL' ret').before a0 Z = true) {st0 : List Value} (hst : st0 = argsL.reverse ++ .ref a :: st) (hC : Ct l Z z bytes' mL' ret' rm (.ref a :: argsL).toArray T.heap Q') (hlen : ∀ sig, parseMethodDescriptor y.desc = some sig → argsL.length = sig.parameters.length) (hsz : Ls.size = mL) (hcl : cells + rm.cells ≤ R.cells) (hsl : slots + rm.slots ≤ R.slots) (hfr : rm.frames + 1 ≤ R.frames) (hlo : (st.map fun v => v.category).sum + (mL' + 11) + rm.locals ≤ R.locals) {pc' : Nat} (hp : pc + 3 = pc')
    (k : ∀ (T' : State) (v : Option Value), Wk l Z R bytes mL ret own nm p e s m args below meth c T' (cells + rm.cells) (slots + rm.slots) → Q' v T'.heap → Ends p e below s Z Q cC cS T' (mkF m pc' Ls (v.toList ++ st))) : Ends p e below s Z Q cC cS T (mkF m pc Ls st0) :=
  E_virtualB X hd w1 w2 w5 w6 hnf hy E hst (hC.back X.hH w4 w3 hfr hlo) (fun _ _ _ q => q) hlen hsz hcl hsl hp k
theorem E_privateB (X : Wk l Z R bytes mL ret own nm p e s m args below meth c T cells slots) {y : MethodName} {ix : Nat} {bytes' : ByteArray} {mL' : Nat} {ret' : Option FieldType} {Q' : Option Value → Heap → Prop} {argsL : List Value} {Q2 : Option Value → Heap → List Loc → Prop} {rC rS : Nat} {a : Addr} {D : String} (hd : decode bytes pc = .ok (.invokevirtual ix, 3)) (w1 : (Jvm.Cond.methodLink own ix y).before a0 Z = true) (w6 : (Jvm.Cond.instanceMethod y).before a0 Z = true) (w5 : (Jvm.Cond.selects y.cls y y).before a0 Z = true) (wp : (Jvm.Cond.privateMethod y).before a0 Z = true) (w4 : (Jvm.Cond.code y bytes' mL' ret').before a0 Z = true) (hy : y.cls ≠ "java/lang/invoke/MethodHandle" ∧ y.cls ≠ "java/lang/invoke/VarHandle") (E : Exa Z T.heap a D) {st0 : List Value} (hst : st0 = argsL.reverse ++ .ref a :: st) (hK : Back l R p e below s args y 3 ((st.map fun v => v.category).sum) (fun A aa => aa = (.ref a :: argsL).toArray ∧ A.U.heap = T.heap ∧ A.cells + rC ≤ R.cells ∧ A.slots + rS ≤ R.slots) (fun A _ v B => ∃ L, Q2 v B.U.heap L ∧ B.locs = A.locs ++ L ∧ B.cells = A.cells + rC ∧ B.slots = A.slots + rS)) (hQ2 : ∀ v h L, Q2 v h L → Fr Z.heap.size L ∧ Ext Z.heap h ∧ Q' v h) (hlen : ∀ sig, parseMethodDescriptor y.desc = some sig → argsL.length = sig.parameters.length) (hsz : Ls.size = mL) (hcl : cells + rC ≤ R.cells) (hsl : slots + rS ≤ R.slots) {pc' : Nat} (hp : pc + 3 = pc')
    (k : ∀ (T' : State) (v : Option Value), Wk l Z R bytes mL ret own nm p e s m args below meth c T' (cells + rC) (slots + rS) → Q' v T'.heap → Ends p e below s Z Q cC cS T' (mkF m pc' Ls (v.toList ++ st))) : Ends p e below s Z Q cC cS T (mkF m pc Ls st0) := by
  subst hp hst; obtain ⟨q0, locs, Y, N, Od⟩ := id X
  obtain ⟨cell, kk, e1, -, -, e4, -⟩ := E
  obtain ⟨v, _, ⟨T', L1, k1, n1⟩, -, Y', ⟨Lc, hQ, l1, y1, z1⟩, stp⟩ := Y.privateBack X.hx (y := y) X.hown (mvT X.hZ w1) (mvT X.hZ w6) (mvT X.hZ w5) (Cond.privateMethod_at (mvP (args := args) X.hZ wp)) (mvT X.hZ w4) hy hK (g := mkF m pc Ls (argsL.reverse ++ .ref a :: st)) rfl (X.size hsz) (Steps.refl _) (a := a) e1 (fun q z => by rw [z] at e4; cases e4) (argsL := argsL) (rest := st) hlen rfl (by show 2 * 0 + _ ≤ _; omega) (X.hb hd) (fun _ _ => ⟨rfl, rfl, hcl, hsl⟩)
  dsimp only [Pt.U, Pt.locs, Pt.cells, Pt.slots] at Y' l1 y1 z1 stp hQ
  subst l1 y1 z1
  obtain ⟨f1, f2, f3⟩ := hQ2 _ _ _ hQ
  exact E_tr stp (k T' v ⟨q0, _, Y', Fr.app N f1, f2⟩ f3)
theorem E_private (X : Wk l Z R bytes mL ret own nm p e s m args below meth c T cells slots) {y : MethodName} {ix : Nat} {bytes' : ByteArray} {mL' : Nat} {ret' : Option FieldType} {Q' : Option Value → Heap → Prop} {argsL : List Value} {rm : Room} {a : Addr} {D : String} (hd : decode bytes pc = .ok (.invokevirtual ix, 3)) (w1 : (Jvm.Cond.methodLink own ix y).before a0 Z = true) (w6 : (Jvm.Cond.instanceMethod y).before a0 Z = true) (w5 : (Jvm.Cond.selects y.cls y y).before a0 Z = true) (wp : (Jvm.Cond.privateMethod y).before a0 Z = true) (w4 : (Jvm.Cond.code y bytes' mL' ret').before a0 Z = true) (hy : y.cls ≠ "java/lang/invoke/MethodHandle" ∧ y.cls ≠ "java/lang/invoke/VarHandle") (E : Exa Z T.heap a D) (w3 : (Jvm.Cond.initialized y.cls).before a0 Z = true) {st0 : List Value} (hst : st0 = argsL.reverse ++ .ref a :: st) (hC : Ct l Z y bytes' mL' ret' rm (.ref a :: argsL).toArray T.heap Q') (hlen : ∀ sig, parseMethodDescriptor y.desc = some sig → argsL.length = sig.parameters.length) (hsz : Ls.size = mL) (hcl : cells + rm.cells ≤ R.cells) (hsl : slots + rm.slots ≤ R.slots) (hfr : rm.frames + 1 ≤ R.frames) (hlo : (st.map fun v => v.category).sum + (mL' + 11) + rm.locals ≤ R.locals) {pc' : Nat} (hp : pc + 3 = pc')
    (k : ∀ (T' : State) (v : Option Value), Wk l Z R bytes mL ret own nm p e s m args below meth c T' (cells + rm.cells) (slots + rm.slots) → Q' v T'.heap → Ends p e below s Z Q cC cS T' (mkF m pc' Ls (v.toList ++ st))) : Ends p e below s Z Q cC cS T (mkF m pc Ls st0) :=
  E_privateB X hd w1 w6 w5 wp w4 hy E hst (hC.back X.hH w4 w3 hfr hlo) (fun _ _ _ q => q) hlen hsz hcl hsl hp k
theorem E_interfaceB (X : Wk l Z R bytes mL ret own nm p e s m args below meth c T cells slots) {y : MethodName} {ix : Nat} {Q' : Option Value → Heap → Prop} {argsL : List Value} {Q2 : Option Value → Heap → List Loc → Prop} {rC rS : Nat} {a : Addr} {z : MethodName} {D : String} {ct : Nat} (hd : decode bytes pc = .ok (.invokeinterface ix ct, 5)) (w1 : (Jvm.Cond.methodLink own ix y).before a0 Z = true) (w2 : (Jvm.Cond.declares y).before a0 Z = true) (w5 : (Jvm.Cond.selects D y z).before a0 Z = true) (w6 : (Jvm.Cond.instanceMethod z).before a0 Z = true) (w7 : (Jvm.Cond.interfaceMethod y.cls y.cls y.name y.desc).before a0 Z = true) (hif : ((Jvm.Cond.interfaceMethod y.cls y.cls y.name y.desc).onTables && (Jvm.Cond.interfaceMethod y.cls y.cls y.name y.desc).keepsFace) = true) (w8 : (Jvm.Cond.publicMethod z).before a0 Z = true) (w9 : (Jvm.Cond.unhidden D y.name y.desc).before a0 Z = true) (wc : (Jvm.Cond.castable D y.cls).before a0 Z = true) (hy : y.cls ≠ "java/lang/invoke/MethodHandle" ∧ y.cls ≠ "java/lang/invoke/VarHandle") (E : Exa Z T.heap a D) {st0 : List Value} (hst : st0 = argsL.reverse ++ .ref a :: st) (hK : Back l R p e below s args z 5 ((st.map fun v => v.category).sum) (fun A aa => aa = (.ref a :: argsL).toArray ∧ A.U.heap = T.heap ∧ A.cells + rC ≤ R.cells ∧ A.slots + rS ≤ R.slots) (fun A _ v B => ∃ L, Q2 v B.U.heap L ∧ B.locs = A.locs ++ L ∧ B.cells = A.cells + rC ∧ B.slots = A.slots + rS)) (hQ2 : ∀ v h L, Q2 v h L → Fr Z.heap.size L ∧ Ext Z.heap h ∧ Q' v h) (hlen : ∀ sig, parseMethodDescriptor y.desc = some sig → argsL.length = sig.parameters.length) (hsz : Ls.size = mL) (hcl : cells + rC ≤ R.cells) (hsl : slots + rS ≤ R.slots) {pc' : Nat} (hp : pc + 5 = pc')
    (k : ∀ (T' : State) (v : Option Value), Wk l Z R bytes mL ret own nm p e s m args below meth c T' (cells + rC) (slots + rS) → Q' v T'.heap → Ends p e below s Z Q cC cS T' (mkF m pc' Ls (v.toList ++ st))) : Ends p e below s Z Q cC cS T (mkF m pc Ls st0) := by
  subst hp hst; obtain ⟨q0, locs, Y, N, Od⟩ := id X
  obtain ⟨cq, kq, qa, qb, qc⟩ := isOf X.hZ rfl E
  obtain ⟨v, _, ⟨T', L1, k1, n1⟩, -, Y', ⟨Lc, hQ, l1, y1, z1⟩, stp⟩ := Y.interfaceBack X.hx (xi := y) (y := z) X.hown (mvT X.hZ w1) (mvT X.hZ w2) (mvT X.hZ w7 hif) (mvT X.hZ w5) (mvT X.hZ w6) (mvT X.hZ w8) (mvT X.hZ w9) (mvT X.hZ wc) hy hK qa qb qc (g := mkF m pc Ls (argsL.reverse ++ .ref a :: st)) rfl (X.size hsz) (Steps.refl _) (argsL := argsL) (rest := st) hlen rfl (by show 2 * 0 + _ ≤ _; omega) (X.hb hd) (fun _ _ => ⟨rfl, rfl, hcl, hsl⟩)
  dsimp only [Pt.U, Pt.locs, Pt.cells, Pt.slots] at Y' l1 y1 z1 stp hQ
  subst l1 y1 z1
  obtain ⟨f1, f2, f3⟩ := hQ2 _ _ _ hQ
  exact E_tr stp (k T' v ⟨q0, _, Y', Fr.app N f1, f2⟩ f3)
theorem E_interface (X : Wk l Z R bytes mL ret own nm p e s m args below meth c T cells slots) {y : MethodName} {ix : Nat} {bytes' : ByteArray} {mL' : Nat} {ret' : Option FieldType} {Q' : Option Value → Heap → Prop} {argsL : List Value} {rm : Room} {a : Addr} {z : MethodName} {D : String} {ct : Nat} (hd : decode bytes pc = .ok (.invokeinterface ix ct, 5)) (w1 : (Jvm.Cond.methodLink own ix y).before a0 Z = true) (w2 : (Jvm.Cond.declares y).before a0 Z = true) (w5 : (Jvm.Cond.selects D y z).before a0 Z = true) (w6 : (Jvm.Cond.instanceMethod z).before a0 Z = true) (w7 : (Jvm.Cond.interfaceMethod y.cls y.cls y.name y.desc).before a0 Z = true) (hif : ((Jvm.Cond.interfaceMethod y.cls y.cls y.name y.desc).onTables && (Jvm.Cond.interfaceMethod y.cls y.cls y.name y.desc).keepsFace) = true) (w8 : (Jvm.Cond.publicMethod z).before a0 Z = true) (w9 : (Jvm.Cond.unhidden D y.name y.desc).before a0 Z = true) (wc : (Jvm.Cond.castable D y.cls).before a0 Z = true) (hy : y.cls ≠ "java/lang/invoke/MethodHandle" ∧ y.cls ≠ "java/lang/invoke/VarHandle") (E : Exa Z T.heap a D) (w3 : (Jvm.Cond.initialized z.cls).before a0 Z = true) (w4 : (Jvm.Cond.code z bytes' mL' ret').before a0 Z = true) {st0 : List Value} (hst : st0 = argsL.reverse ++ .ref a :: st) (hC : Ct l Z z bytes' mL' ret' rm (.ref a :: argsL).toArray T.heap Q') (hlen : ∀ sig, parseMethodDescriptor y.desc = some sig → argsL.length = sig.parameters.length) (hsz : Ls.size = mL) (hcl : cells + rm.cells ≤ R.cells) (hsl : slots + rm.slots ≤ R.slots) (hfr : rm.frames + 1 ≤ R.frames) (hlo : (st.map fun v => v.category).sum + (mL' + 11) + rm.locals ≤ R.locals) {pc' : Nat} (hp : pc + 5 = pc')
    (k : ∀ (T' : State) (v : Option Value), Wk l Z R bytes mL ret own nm p e s m args below meth c T' (cells + rm.cells) (slots + rm.slots) → Q' v T'.heap → Ends p e below s Z Q cC cS T' (mkF m pc' Ls (v.toList ++ st))) : Ends p e below s Z Q cC cS T (mkF m pc Ls st0) :=
  E_interfaceB X hd w1 w2 w5 w6 w7 hif w8 w9 wc hy E hst (hC.back X.hH w4 w3 hfr hlo) (fun _ _ _ q => q) hlen hsz hcl hsl hp k
theorem Wk.out (X : Wk l Z R bytes mL ret own nm p e s m args below meth c T cells slots) {v : Option Value} (hv : ret = none → v = none) (hQ : Q v T.heap) (h1 : cells ≤ cC) (h2 : slots ≤ cS) (hs : ∀ fs, (∀ (f : JFrame) (acts : List Action), f.method = m → f.locked = none → f.entered = [] → (doReturn e (T.setTop f) acts v).1 = T.setFrames fs) → Steps p.tables e below (T.setTop g) (T.setFrames fs)) : Ends p e below s Z Q cC cS T g := by
  obtain ⟨q0, locs, Y, N, Od⟩ := id X
  obtain ⟨fs, hr, hrun, hended, hW, hsame⟩ := Y.leave (v := v) (fun h => hv (q0.2.2.2.1.symm.trans h)) q0.2.2.2.2.1
  exact ⟨_, _, hs fs hr, hrun, hended, _, _, rfl, ⟨N, Od, hQ⟩, ⟨_, rfl⟩, hW, hsame.mono h1 h2⟩
theorem E_return (X : Wk l Z R bytes mL ret own nm p e s m args below meth c T cells slots) (hd : decode bytes pc = .ok (.return_, 1)) (hret : ret = none) (h1 : cells ≤ cC) (h2 : slots ≤ cS) (hQ : Q none T.heap) : Ends p e below s Z Q cC cS T (mkF m pc Ls []) := by
  refine X.out (v := none) (fun _ => rfl) hQ h1 h2 fun fs hr => ?_
  obtain ⟨q0, locs, Y, N, Od⟩ := id X
  exact Y.returnOut X.hx (q0.2.2.2.1.trans hret) (X.hb hd) hr
theorem E_ireturnI (X : Wk l Z R bytes mL ret own nm p e s m args below meth c T cells slots) {z : Int32} (hd : decode bytes pc = .ok (.ireturn, 1)) (hret : ret = some .int) (h1 : cells ≤ cC) (h2 : slots ≤ cS) (hQ : Q (some (.int z)) T.heap) : Ends p e below s Z Q cC cS T (mkF m pc Ls (.int z :: st)) := by
  refine X.out (v := some (.int z)) (fun h => by rw [hret] at h; cases h) hQ h1 h2 fun fs hr => ?_
  obtain ⟨q0, locs, Y, N, Od⟩ := id X
  exact retOut Y X.hx (q0.2.2.2.1.trans hret) rfl (Or.inl ⟨rfl, Or.inl rfl, z, rfl⟩) (X.hb hd) hr
theorem E_ireturnN (X : Wk l Z R bytes mL ret own nm p e s m args below meth c T cells slots) {z : Int32} {t : FieldType} (hd : decode bytes pc = .ok (.ireturn, 1)) (hret : ret = some t) (ht : t = .boolean ∨ t = .byte ∨ t = .char ∨ t = .short) (h1 : cells ≤ cC) (h2 : slots ≤ cS) (hQ : Q (some (.int (nar t z))) T.heap) : Ends p e below s Z Q cC cS T (mkF m pc Ls (.int z :: st)) := by
  refine X.out (v := some (.int (nar t z))) (fun h => by rw [hret] at h; cases h) hQ h1 h2 fun fs hr => ?_
  obtain ⟨q0, locs, Y, N, Od⟩ := id X
  exact retN Y X.hx (q0.2.2.2.1.trans hret) ht (X.hb hd) hr
theorem E_areturn (X : Wk l Z R bytes mL ret own nm p e s m args below meth c T cells slots) {v : Value} {t : FieldType} (hd : decode bytes pc = .ok (.areturn, 1)) (hret : ret = some t) (ht : t.isReference = true) (hv : v.isRef = true) (hn : narrow t v = v) (h1 : cells ≤ cC) (h2 : slots ≤ cS) (hQ : Q (some v) T.heap) : Ends p e below s Z Q cC cS T (mkF m pc Ls (v :: st)) := by
  refine X.out (v := some v) (fun h => by rw [hret] at h; cases h) hQ h1 h2 fun fs hr => ?_
  obtain ⟨q0, locs, Y, N, Od⟩ := id X
  exact retOut Y X.hx (q0.2.2.2.1.trans hret) hn (Or.inr (Or.inr (Or.inr (Or.inr ⟨rfl, ht, hv⟩)))) (X.hb hd) hr
end Own
theorem o_int {n : Nat} (h : n < 2147483648) : (Int32.ofNat n).toInt = n := by
  have := Int32.toInt_ofNat_of_lt (n := n) (by omega); simpa using this
theorem o_cl {n : Nat} (h : n < 2147483648) : (Int32.ofNat n).toNatClampNeg = n := by
  simp [Int32.toNatClampNeg, o_int h]
theorem o_nn {n : Nat} (h : n < 2147483648) : ¬ Int32.ofNat n < 0 := by
  rw [Int32.lt_iff_toInt_lt, o_int h]; show ¬ (n : Int) < 0; omega
theorem o_lt {i n : Nat} (hi : i < n) (h : n < 2147483648) : Int32.ofNat i < Int32.ofNat n := by
  rw [Int32.lt_iff_toInt_lt, o_int h, o_int (by omega)]; omega
theorem o_nlt {i n : Nat} (hi : n ≤ i) (h : i < 2147483648) : ¬ Int32.ofNat i < Int32.ofNat n := by
  rw [Int32.lt_iff_toInt_lt, o_int h, o_int (by omega)]; omega
theorem o_add {i : Nat} : Int32.ofNat i + (1 : Int32) = Int32.ofNat (i + 1) := by
  rw [Int32.ofNat_add]; rfl
theorem o_two {i : Nat} (h : 2 * i < 2147483648) : Int32.ofNat i <<< ((1 : Int32) &&& 31) = Int32.ofNat (2 * i) := by
  apply Int32.toInt_inj.mp
  have e := c_ishl (Int32.ofNat i) 1 1 (by decide)
  have r := rng32 (Int32.ofNat i <<< ((1 : Int32) &&& 31))
  rw [o_int (by omega)] at e
  rw [o_int h]
  omega
theorem o_half {i : Nat} (h : 2 * i < 2147483648) : Int32.ofNat (2 * i) >>> ((1 : Int32) &&& 31) = Int32.ofNat i := by
  apply Int32.toInt_inj.mp
  have e := c_ishr (Int32.ofNat (2 * i)) 1 1 (by decide)
  rw [o_int h] at e
  rw [o_int (by omega), e]
  omega
theorem o_zero (N : Int32) : N >>> ((0 : Int32) &&& 31) = N := by
  apply Int32.toInt_inj.mp
  have e := c_ishr N 0 0 (by decide)
  rw [e]; simp
theorem o_i2c {c : Int32} (h1 : ¬ c < 0) (h2 : ¬ 65535 < c) : c.toUInt32.toUInt16.toUInt32.toInt32 = c := by
  apply Int32.toInt_inj.mp
  have e := c_i2c c
  rw [Int32.lt_iff_toInt_lt] at h1 h2
  have o1 : (0 : Int32).toInt = 0 := rfl
  have o2 : (65535 : Int32).toInt = 65535 := rfl
  omega
theorem o_nar {c : Int32} (h1 : ¬ c < 0) (h2 : ¬ 65535 < c) : nar .char c = c := o_i2c h1 h2
theorem o_lat {c : Int32} (h1 : ¬ c < 0) (h2 : ¬ 255 < c) : nar .char ((c.toInt8.toInt32 &&& (255 : Int32)).toUInt32.toUInt16.toUInt32.toInt32) = c := by
  have o1 : (0 : Int32).toInt = 0 := rfl
  have o2 : (255 : Int32).toInt = 255 := rfl
  have o3 : (65535 : Int32).toInt = 65535 := rfl
  rw [Int32.lt_iff_toInt_lt] at h1 h2
  have e : c.toInt8.toInt32 &&& (255 : Int32) = c := by
    apply Int32.toInt_inj.mp
    have e1 := c_mask c.toInt8.toInt32 255 8 (by decide) (by decide)
    have e2 := c_i2b c
    rw [e1]; omega
  rw [e, o_i2c, o_nar] <;> (rw [Int32.lt_iff_toInt_lt]; omega)
theorem o_u16 {c : Int32} (h1 : ¬ c < 0) (h2 : ¬ 65535 < c) : nar .char ((((c >>> ((0 : Int32) &&& 31)).toInt8.toInt32 &&& (255 : Int32)) <<< ((0 : Int32) &&& 31) ||| ((c >>> ((8 : Int32) &&& 31)).toInt8.toInt32 &&& (255 : Int32)) <<< ((8 : Int32) &&& 31)).toUInt32.toUInt16.toUInt32.toInt32) = c := by
  have o1 : (0 : Int32).toInt = 0 := rfl
  have o2 : (255 : Int32).toInt = 255 := rfl
  have o3 : (65535 : Int32).toInt = 65535 := rfl
  rw [Int32.lt_iff_toInt_lt] at h1 h2
  have a0 : c >>> ((0 : Int32) &&& 31) = c := o_zero c
  have a1 := c_ishr c 8 8 (by decide)
  rw [a0]
  generalize c >>> ((8 : Int32) &&& 31) = d at *
  have b1 := c_mask c.toInt8.toInt32 255 8 (by decide) (by decide)
  have b2 := c_i2b c
  have b3 := c_mask d.toInt8.toInt32 255 8 (by decide) (by decide)
  have b4 := c_i2b d
  generalize c.toInt8.toInt32 &&& (255 : Int32) = x at *
  generalize d.toInt8.toInt32 &&& (255 : Int32) = y at *
  have d1 := c_ishl x 0 0 (by decide)
  have d2 := c_ishl y 8 8 (by decide)
  have r1 := rng32 (x <<< ((0 : Int32) &&& 31))
  have r2 := rng32 (y <<< ((8 : Int32) &&& 31))
  generalize x <<< ((0 : Int32) &&& 31) = u at *
  generalize y <<< ((8 : Int32) &&& 31) = w at *
  have f := c_or' u w 8 (by decide) 256 rfl (by omega) (by omega) (by omega)
  have r3 := rng32 (u ||| w)
  have e : u ||| w = c := by
    apply Int32.toInt_inj.mp
    omega
  rw [e, o_i2c, o_nar] <;> (rw [Int32.lt_iff_toInt_lt]; omega)
theorem o_b8 (c : Int32) : c.toInt8.toInt32.toInt8.toInt32 = c.toInt8.toInt32 := by simp
theorem o_ltc {n : Nat} (h : n ≤ 4000) : Int32.ofNat n < (1073741823 : Int32) := by
  rw [Int32.lt_iff_toInt_lt, o_int (by omega)]; show (n : Int) < 1073741823; omega
theorem o_cfl {n : Nat} (h : 0 < n) (h2 : n ≤ 4000) : nar .byte ((((Int32.ofNat n - Int32.ofNat (2 * n)).toUInt32 >>> ((31 : Int32) &&& 31).toUInt32).toInt32).toInt8.toInt32) = 1 := by
  have e := c_isub (Int32.ofNat n) (Int32.ofNat (2 * n))
  rw [o_int (by omega), o_int (by omega)] at e
  have r := rng32 (Int32.ofNat n - Int32.ofNat (2 * n))
  have f := c_iushr (Int32.ofNat n - Int32.ofNat (2 * n)) 31 31 (by decide) (by decide)
  have g : ((Int32.ofNat n - Int32.ofNat (2 * n)).toUInt32 >>> ((31 : Int32) &&& 31).toUInt32).toInt32 = 1 := by
    apply Int32.toInt_inj.mp
    rw [f]; show _ = (1 : Int); omega
  rw [g]; rfl

section Lam
variable {p : Program} {l : Launch} {e : Env} {R : Room} {s : State} {m : MethodId} {args : Array Value} {below : List Frame} {meth : Method} {c : Code} {T T' : State} {cells slots : Nat} {Z : State} {bytes : ByteArray} {mL : Nat} {ret : Option FieldType} {own nm : String} {Q : Option Value → Heap → Prop} {cC cS : Nat} {pc : Nat} {Ls : Array Slot} {st : List Value} {a0 : Array Value}
theorem made_warm {host : String} {σ : Lambda.Shape} {cK : ClassId} (hW : Z.WarmedH s.vm) (h : LamKit.Made Z host σ cK) : LamKit.Made s host σ cK := by
  obtain ⟨d, dk, hd, hn, hm, hc⟩ := h
  obtain ⟨dk', hd', e⟩ := hW.alike.2.2 _ _ hd
  refine ⟨d, dk', hd', by rw [e]; exact hn, Lambda.isMade_warmer hW hm, ?_⟩
  have hA := hW.alike
  simp only [State.lambdaCallable, hA.findClass, hA.assignable, hA.superclasses, hA.declaredIn] at hc ⊢
  exact hc
theorem Ct.of_bodyN {y1 y2 y3 : String} {rm : Room} {as' : Array Value} {h : Heap} (pn : plainFor ⟨y1, y2, y3⟩ = true) (O : Ext Z.heap h) (ef : ∀ m, entryFrame m as' mL = mkF m 0 Ls [])
    (k : ∀ {p : Program} {e : Env} {s : State} {m : MethodId} {below : List Frame} {meth : Method} {c : Code} {T : State}, Wk l Z rm bytes mL ret y1 y2 p e s m as' below meth c T 0 0 → s.methodNamed? ⟨y1, y2, y3⟩ = some m → T.heap = h → Ends p e below s Z Q rm.cells rm.slots T (mkF m 0 Ls [])) : Ct l Z ⟨y1, y2, y3⟩ bytes mL ret rm as' h Q := by
  intro ws
  refine MetFree.of_bodySF pn hisR ?_
  intro p e s m args below meth c s₁ Bd hml0 hP hK
  obtain ⟨rfl, hZ, hh⟩ := hP
  have e0 : s₁.heap = h := by rw [← hh, Bd.state]; rfl
  have X : Wk l Z rm bytes mL ret y1 y2 p e s m args below meth c s₁ 0 0 := ⟨⟨Bd.exec, Bd.bytes, hml0, Bd.returns, Bd.notSynchronized, findClass_of_methodNamed Bd.named, (name_of_methodNamed Bd.named Bd.method).1, hZ⟩, [], Stand.of_body Bd, Fr.nil _, e0 ▸ O⟩
  obtain ⟨t, o, h1, r⟩ := k X Bd.named e0
  exact ⟨t, o, castTop (ef m) h1, r⟩
theorem E_site (X : Wk l Z R bytes mL ret own nm p e s m args below meth c T cells slots) {ds : String} {σ : Lambda.Shape} {ix : Nat} (hn : s.methodNamed? ⟨own, nm, ds⟩ = some m) (hd : decode bytes pc = .ok (.invokedynamic ix, 5)) (w : (Jvm.Cond.lambdaSite ⟨own, nm, ds⟩ pc ix σ).before a0 Z = true) (hcap : σ.captured = []) (hsz : Ls.size = mL) (hl : (st.map fun v => v.category).sum + 3072 ≤ R.locals) {pc' : Nat} (hp : pc + 5 = pc')
    (k : ∀ (a : Addr) (cK : ClassId), LamKit.Made Z own σ cK → LamKit.FnAt Z.heap a cK → Ends p e below s Z Q cC cS T (mkF m pc' Ls (.ref a :: st))) : Ends p e below s Z Q cC cS T (mkF m pc Ls st) := by
  subst hp; obtain ⟨q0, locs, Y, N, O⟩ := id X
  obtain ⟨cK, one, hat⟩ := Cond.lambdaSite_spec w
  obtain ⟨mD, kD, cfD, i0, p0, lk, hmD, hkD, -, -, -, hfind, hmade, hcan, hl2⟩ := State.lambdaAt?_spec hat
  have e1 : (Z.setVm s.vm).methodNamed? ⟨own, nm, ds⟩ = some mD := by rw [State.methodNamed?_setVm X.hH.alike]; exact hmD
  have e2 : s.methodNamed? ⟨own, nm, ds⟩ = some mD := e1
  cases hn.symm.trans e2
  obtain ⟨kD', hkD', hnameD⟩ := className_of_methodNamed hmD
  cases hkD.symm.trans hkD'
  obtain ⟨k', hk', he'⟩ := X.hH.alike.2.2 _ _ hkD
  rcases hl2 with ⟨a, cell, rfl, -, -, hcell, hcls, hvm, -⟩ | ⟨-, -, hne⟩
  · have hw : e.platform.lambdaLinkWords = 3072 := by rw [Y.admits.platform]
    exact E_by (fun _ q => Y.lambdaConstant X.hx (g := mkF m pc Ls st) rfl (X.size hsz) (X.hb hd) hk' (i0 := i0) (p0 := p0) (a := a) (by rw [he']; exact hfind) (by rw [hw]; show 2 * 0 + (st.map fun v => v.category).sum + 3072 ≤ _; omega) q) (k a cK ⟨_, kD, hkD, hnameD, hmade, hcan⟩ ⟨cell, hcell, hcls, hvm⟩)
  · exact absurd hcap hne
/-- the contract of a static target as LamKit wants it -/
theorem Ct.met {y : MethodName} {rm : Room} {as' : Array Value} {h : Heap} {mL' : Nat} {bytes' : ByteArray} {ret' : Option FieldType} {Q' : Option Value → Heap → Prop} (hC : Ct l Z y bytes' mL' ret' rm as' h Q') :
    Met l y [Jvm.Cond.code y bytes' mL' ret'] rm (fun a U => a = as' ∧ Z.WarmedH U.vm ∧ U.heap = h) (fun _ _ o t => ∃ v, o = .returned v ∧ Ext Z.heap t.heap ∧ Q' v t.heap) rm.cells rm.slots (fun q => Z.heap.size ≤ q) :=
  MetFree.mono (hC []) (fun _ _ h => h) (fun _ _ _ _ _ h => h) (fun _ _ _ _ _ ⟨v, L, h1, h2, h3⟩ => ⟨⟨v, h1, h2.2.1, h2.2.2⟩, L, h3, h2.1⟩)
theorem E_newU (X : Wk l Z R bytes mL ret own nm p e s m args below meth c T cells slots) {C : String} {ix n : Nat} (hd : decode bytes pc = .ok (.new ix, 3)) (w1 : (Jvm.Cond.classLink own ix C).before a0 Z = true) (w2 : (Jvm.Cond.instantiable C n).before a0 Z = true) (w3 : (Jvm.Cond.initialized C).before a0 Z = true) (hc : cells + 1 ≤ R.cells) (hs : slots + n ≤ R.slots) {pc' : Nat} (hp : pc + 3 = pc')
    (k : ∀ (T' : State) (b : Addr), Wk l Z R bytes mL ret own nm p e s m args below meth c T' (cells + 1) (slots + n) → b = T.heap.size → Keep T.heap T'.heap [] → Exa Z T'.heap b C → (∀ {O nm d : String} {ty : FieldType}, Laid Z a0 C O nm d → parseFieldDescriptor d = some ty → Fld Z T'.heap b O nm d (defaultValue ty)) → Unt T'.heap b → Ends p e below s Z Q cC cS T' (mkF m pc' Ls (.ref b :: st))) : Ends p e below s Z Q cC cS T (mkF m pc Ls st) := by
  subst hp; obtain ⟨q0, locs, Y, N, O⟩ := id X
  obtain ⟨T', h', Y', rfl, E, A, D, U, stp⟩ := newO Y X.hx X.hZ X.hown w1 w2 w3 rfl (g := mkF m pc Ls st) rfl (X.hb hd) hc hs
  exact E_by stp (k T' _ ⟨q0, locs, Y', N, Keep.old O (Keep.of_ext E) all0⟩ rfl (Keep.of_ext E) A D U)
theorem Unt.keep {h h' : Heap} {a : Addr} {ws : List Addr} (F : Unt h a) (K : Keep h h' ws) (q : a ∉ ws) : Unt h' a := by obtain ⟨c, h1, r⟩ := F; exact ⟨c, K.2.1 _ _ h1 q, r⟩
theorem Unt.wr {h h' : Heap} {a b : Addr} {sl : Nat} {v : Value} (F : Unt h a) (W : Wr h h' b sl v) : Unt h' a := by
  obtain ⟨c, h1, h2, h3⟩ := F
  obtain ⟨cell, g1, g2, g3, rfl⟩ := W
  by_cases z : b = a
  · subst z; cases h1.symm.trans g1; exact ⟨c.setSlot sl v, by simp [(Array.getElem?_eq_some_iff.mp g1).1], h2, h3⟩
  · exact ⟨c, by rw [Array.getElem?_setIfInBounds_ne z]; exact h1, h2, h3⟩
/-- the interface's call on the lambda's object: (I)V, nothing captured, its target changes nothing -/
theorem lamStep {locs : List Loc} (Y : Stand p l e R s m args below meth c T locs cells slots) (hx : p.tables.exec = Jvm.exec) (hH : Z.WarmedH s.vm) (O : Ext Z.heap T.heap) {index count : Nat} {xi y : MethodName} {σ : Lambda.Shape} {host : String} {bytes' : ByteArray} {rm : Room} {x : Int32}
    (hC : Ct l Z y bytes' 1 none rm #[.int x] T.heap (fun v h => v = none ∧ h = T.heap)) (hown : s.vm.findClass own = some m.cls)
    (w1 : (Jvm.Cond.methodLink own index xi).before a0 Z = true) (w2 : (Jvm.Cond.declares xi).before a0 Z = true) (w3 : (Jvm.Cond.interfaceMethod xi.cls xi.cls xi.name xi.desc).before a0 Z = true) (hif : ((Jvm.Cond.interfaceMethod xi.cls xi.cls xi.name xi.desc).onTables && (Jvm.Cond.interfaceMethod xi.cls xi.cls xi.name xi.desc).keepsFace) = true)
    (w4 : (Jvm.Cond.code y bytes' 1 none).before a0 Z = true) (w5 : (Jvm.Cond.static y).before a0 Z = true) (w6 : (Jvm.Cond.initialized y.cls).before a0 Z = true)
    (hxi : xi.cls = σ.iface ∧ xi.name = σ.name ∧ xi.desc = σ.sam.toString) (hy : y.cls = σ.implClass ∧ y.name = σ.implName ∧ y.desc = σ.implDesc.toString)
    (hpoly : (xi.cls ≠ "java/lang/invoke/MethodHandle" ∧ xi.cls ≠ "java/lang/invoke/VarHandle") ∧ y.cls ≠ "java/lang/invoke/MethodHandle" ∧ y.cls ≠ "java/lang/invoke/VarHandle")
    {a : Addr} {cK : ClassId} (hmd : LamKit.Made Z host σ cK) (hfn : LamKit.FnAt Z.heap a cK) {fcode : ByteArray} {idx ci : Nat} (hok : LamKit.fwdOK σ host fcode 2 none idx ci = true)
    (hd0 : decode fcode 0 = .ok (.iload_n 1, 1)) (hdI : decode fcode 1 = .ok (.invokestatic idx, 3)) (hdR : decode fcode 4 = .ok (.return_, 1))
    {g : JFrame} (hg : g.method = m) (hsize : g.locals.size = c.maxLocals) {rest : List Value}
    (hlen : ∀ sig, parseMethodDescriptor xi.desc = some sig → 1 = sig.parameters.length) (hlenT : ∀ sig, parseMethodDescriptor y.desc = some sig → 1 = sig.parameters.length)
    (hstack : g.stack = .int x :: .ref a :: rest) (hdg : decode c.code g.pc = .ok (.invokeinterface index count, 5))
    (hfr : rm.frames + 2 ≤ R.frames) (hlo : 2 * g.monitorRoom + (rest.map fun v => v.category).sum + (2 + 11) + ((1 + 11) + rm.locals) ≤ R.locals) (hcells : cells + rm.cells ≤ R.cells) (hslots : slots + rm.slots ≤ R.slots) :
    ∃ (T' : State) (L : List Loc), Stand p l e R s m args below meth c T' (locs ++ L) (cells + rm.cells) (slots + rm.slots) ∧ Fr Z.heap.size L ∧ T'.heap = T.heap ∧
      ∀ target, Steps p.tables e below (T'.setTop { g with pc := g.pc + 5, stack := rest }) target → Steps p.tables e below (T.setTop g) target := by
  have hZ := hH.wide
  obtain ⟨cell, f1, f2⟩ := hfn
  obtain ⟨v, st, t, T', L, Y', hL, e1, e2, ⟨v', e3, -, e4, e5⟩, stp⟩ := LamKit.callLamS Y hx hC.met (fun _ _ _ _ h => h) rfl rfl
    (fun w hw a' U hU => by rw [List.mem_singleton.mp hw]; exact mvT (State.WarmedH.trans hH hU).wide w4) (List.mem_singleton.mpr rfl)
    hown (mvT hZ w1) (mvT hZ w2) (mvT hZ w3 hif) (mvT hZ w4) (mvT hZ w5) (mvT hZ w6) hxi hy hpoly (made_warm hH hmd) ⟨cell, O.2 _ _ f1, f2⟩ hok hdI hdR hg hsize (argsL := [.int x]) (argsT := [.int x]) (rest := rest)
    (L0 := #[.val (.ref a), .val (.int x)]) hlen hlenT hstack hdg (fun _ => rfl) rfl
    (fun U ck bl target hat hck _ _ hs => XS.iloadN hat hx rfl (by rw [hck]; exact hd0) rfl hs)
    (fun _ _ _ ⟨v', e3, _, e4, _⟩ => Or.inr (Or.inr (Or.inr ⟨rfl, rfl, by cases e3; exact e4⟩)))
    hfr hlo hcells hslots (fun U hU hh => ⟨rfl, State.WarmedH.trans hH hU, hh⟩)
  cases e3
  subst e4
  exact ⟨T', L, Y', hL, e1.trans e5, stp⟩
end Lam

section Lock
variable {p : Program} {l : Launch} {e : Env} {R : Room} {s : State} {m : MethodId} {args : Array Value} {below : List Frame} {meth : Method} {c : Code} {T T' : State} {cells slots : Nat} {Z : State} {bytes : ByteArray} {mL : Nat} {ret : Option FieldType} {own nm : String} {Q : Option Value → Heap → Prop} {cC cS : Nat} {pc : Nat} {Ls : Array Slot} {st : List Value} {a0 : Array Value} {hs : List (Nat × Nat × Nat × Nat)}
/-- a contract of a method with an exception table -/
def CtH (l : Launch) (Z : State) (y : MethodName) (bytes : ByteArray) (mL : Nat) (ret : Option FieldType) (hs : List (Nat × Nat × Nat × Nat)) (rm : Room) (as' : Array Value) (h : Heap) (Q : Option Value → Heap → Prop) : Prop :=
  ∀ ws, MetFree l y (head1 (Jvm.Cond.codeWith y bytes mL ret hs :: ws) rm) (fun a U => a = as' ∧ Z.WarmedH U.vm ∧ U.heap = h) (fun _ _ _ _ _ => True) (fun _ U o U' => ∃ v L, o = .returned v ∧ (Fr Z.heap.size L ∧ Ext Z.heap U'.heap ∧ Q v U'.heap) ∧ FrameEnd U o U' L rm.cells rm.slots)
theorem CtH.of_body {y1 y2 y3 : String} {rm : Room} {as' : Array Value} {h : Heap} (pn : plainFor ⟨y1, y2, y3⟩ = true) (O : Ext Z.heap h) (ef : ∀ m, entryFrame m as' mL = mkF m 0 Ls [])
    (k : ∀ {p : Program} {e : Env} {s : State} {m : MethodId} {below : List Frame} {meth : Method} {c : Code} {T : State}, Wk l Z rm bytes mL ret y1 y2 p e s m as' below meth c T 0 0 → s.heap = h → T.heap = h → Ends p e below s Z Q rm.cells rm.slots T (mkF m 0 Ls [])) : CtH l Z ⟨y1, y2, y3⟩ bytes mL ret hs rm as' h Q := by
  intro ws
  refine MetFree.of_bodySF pn hisWith ?_
  intro p e s m args below meth c s₁ Bd hml0 hP hK
  obtain ⟨rfl, hZ, hh⟩ := hP
  have e0 : s₁.heap = h := by rw [← hh, Bd.state]; rfl
  have X : Wk l Z rm bytes mL ret y1 y2 p e s m args below meth c s₁ 0 0 := ⟨⟨Bd.exec, Bd.bytes, hml0, Bd.returns, Bd.notSynchronized, findClass_of_methodNamed Bd.named, (name_of_methodNamed Bd.named Bd.method).1, hZ⟩, [], Stand.of_body Bd, Fr.nil _, e0 ▸ O⟩
  obtain ⟨t, o, h1, r⟩ := k X hh e0
  exact ⟨t, o, castTop (ef m) h1, r⟩
theorem CtH.back {y : MethodName} {rm : Room} {as' : Array Value} {h : Heap} {mL' : Nat} {bytes' : ByteArray} {ret' : Option FieldType} {Q' : Option Value → Heap → Prop} (hC : CtH l Z y bytes' mL' ret' hs rm as' h Q') {len W : Nat}
    (hZ : Z.WarmedH s.vm) (wc : (Jvm.Cond.codeWith y bytes' mL' ret' hs).before a0 Z = true) (wz : (Jvm.Cond.initialized y.cls).before a0 Z = true) (hf : rm.frames + 1 ≤ R.frames) (hl : W + (mL' + 11) + rm.locals ≤ R.locals) :
    Back l R p e below s args y len W (fun A a => a = as' ∧ A.U.heap = h ∧ A.cells + rm.cells ≤ R.cells ∧ A.slots + rm.slots ≤ R.slots)
      (fun A _ v B => ∃ L, (Fr Z.heap.size L ∧ Ext Z.heap B.U.heap ∧ Q' v B.U.heap) ∧ B.locs = A.locs ++ L ∧ B.cells = A.cells + rm.cells ∧ B.slots = A.slots + rm.slots) :=
  Back.of_freeWith (bytes := bytes') (maxL := mL') (ret := ret') (handlers := hs) (E := fun _ _ o t L k n => k = rm.cells ∧ n = rm.slots ∧ ∃ v, o = .returned v ∧ (Fr Z.heap.size L ∧ Ext Z.heap t.heap ∧ Q' v t.heap)) (hC []) hf hl
    (fun m meth c A a Y hp => have hU : Z.Warmed39 A.U.vm := (State.WarmedH.trans hZ Y.warmed).wide
      ⟨by show (Cond.and _ .tt).before a A.U = true; rw [Cond.before_and, mvT hU wc]; rfl, mvT hU wc, mvT hU wz, hp.2.2.1, hp.2.2.2⟩)
    (fun m meth c A a g mk Y hp => ⟨hp.1, State.WarmedH.trans hZ Y.warmed, hp.2.1⟩) (fun _ _ _ _ _ _ _ _ _ => trivial)
    (fun _ _ _ _ ⟨v, L, h1, h2, h3⟩ => ⟨L, _, _, h3, rfl, rfl, v, h1, h2⟩)
    (fun m meth c A a g mk v t L k n Y hp _ _ ⟨e1, e2, v', e3, e4⟩ => by cases e3; subst e1 e2; exact ⟨L, e4, rfl, rfl, rfl⟩)
end Lock

theorem pd_0 : parseMethodDescriptor "(Ljava/util/function/IntConsumer;)V" = some ⟨[(.object "java/util/function/IntConsumer")], none⟩ := by decide +kernel
theorem pd_1 : parseMethodDescriptor "(I)V" = some ⟨[.int], none⟩ := by decide +kernel
theorem pd_2 : parseMethodDescriptor "(I)Lcom/example/libgauge/libgauge/netty/ServedSinceMiss$Served;" = some ⟨[.int], some (.object "com/example/libgauge/libgauge/netty/ServedSinceMiss$Served")⟩ := by decide +kernel
theorem pd_3 : parseMethodDescriptor "(II)Lcom/example/libgauge/libgauge/netty/ServedSinceMiss$Served;" = some ⟨[.int, .int], some (.object "com/example/libgauge/libgauge/netty/ServedSinceMiss$Served")⟩ := by decide +kernel
theorem pd_4 : parseMethodDescriptor "()V" = some ⟨[], none⟩ := by decide +kernel
theorem d_lam_0 : decode prog_23_method_6_code 0 = .ok (.return_, 1) := by decide +kernel
abbrev rm_lam : Room := ({ frames := 0, cells := 0, slots := 0, locals := 0 } : Room)
def Q_lam (Z : State) (x : Int32) (h0 : Heap) (v : Option Value) (h : Heap) : Prop := v = none ∧ h = h0
set_option maxRecDepth 65536 in
set_option maxHeartbeats 40000000 in
theorem ct_lam (l : Launch) (Z : State) (a0 : Array Value) (hw : ∀ d ∈ tables_1, d.before a0 Z = true)  (x : Int32) {h0 : Heap} (O : Ext Z.heap h0)  : Ct l Z (⟨"com/example/libgauge/libgauge/netty/ServedSinceMiss", "lambda$new$0", "(I)V"⟩ : MethodName) prog_23_method_6_code 1 none rm_lam #[(.int x)] h0 (Q_lam Z x h0) := by
  refine Ct.of_body (Ls := #[.val (.int x)]) (by decide +kernel) O (fun m => by first | (simp [entryFrame, mkF, argsToLocals, Value.category]; done) | rfl | (rcases ref_cases (Sts.ref OS) with rfl | ⟨r, rfl⟩ <;> rfl)) ?_
  intro p e s m below meth c T0 X0 e0
  subst e0
  exact E_return X0 d_lam_0 rfl (by decide) (by decide) (⟨rfl, rfl⟩)
theorem d_init1_0 : decode prog_23_method_2_code 0 = .ok (.aload_n 0, 1) := by decide +kernel
theorem d_init1_1 : decode prog_23_method_2_code 1 = .ok (.invokespecial 11, 3) := by decide +kernel
theorem d_init1_4 : decode prog_23_method_2_code 4 = .ok (.aload_n 0, 1) := by decide +kernel
theorem d_init1_5 : decode prog_23_method_2_code 5 = .ok (.iconst (-1), 1) := by decide +kernel
theorem d_init1_6 : decode prog_23_method_2_code 6 = .ok (.putfield 16, 3) := by decide +kernel
theorem d_init1_9 : decode prog_23_method_2_code 9 = .ok (.aload_n 0, 1) := by decide +kernel
theorem d_init1_10 : decode prog_23_method_2_code 10 = .ok (.aload_n 1, 1) := by decide +kernel
theorem d_init1_11 : decode prog_23_method_2_code 11 = .ok (.putfield 20, 3) := by decide +kernel
theorem d_init1_14 : decode prog_23_method_2_code 14 = .ok (.return_, 1) := by decide +kernel
abbrev rm_init1 : Room := ({ frames := 1, cells := 0, slots := 0, locals := 12 } : Room)
def Q_init1 (Z : State) (x fa : Addr) (h0 : Heap) (v : Option Value) (h : Heap) : Prop := v = none ∧ Keep h0 h [x] ∧ Unt h x ∧ Fld Z h x "com/example/libgauge/libgauge/netty/ServedSinceMiss" "largest" "I" (.int (-1 : Int32)) ∧ Fld Z h x "com/example/libgauge/libgauge/netty/ServedSinceMiss" "largestChanged" "Ljava/util/function/IntConsumer;" (.ref fa)
set_option maxRecDepth 65536 in
set_option maxHeartbeats 40000000 in
theorem ct_init1 (l : Launch) (Z : State) (a0 : Array Value) (hw : ∀ d ∈ tables_1, d.before a0 Z = true)  (x fa : Addr) {h0 : Heap} (O : Ext Z.heap h0) (E0 : Exa Z h0 x "com/example/libgauge/libgauge/netty/ServedSinceMiss") (F1 : Fld Z h0 x "com/example/libgauge/libgauge/netty/ServedSinceMiss" "largest" "I" (.int (0 : Int32))) (F2 : Fld Z h0 x "com/example/libgauge/libgauge/netty/ServedSinceMiss" "largestChanged" "Ljava/util/function/IntConsumer;" .null) (gx : Z.heap.size ≤ x) (U0 : Unt h0 x) : Ct l Z (⟨"com/example/libgauge/libgauge/netty/ServedSinceMiss", "<init>", "(Ljava/util/function/IntConsumer;)V"⟩ : MethodName) prog_23_method_2_code 2 none rm_init1 #[(.ref x), (.ref fa)] h0 (Q_init1 Z x fa h0) := by
  refine Ct.of_body (Ls := #[.val (.ref x), .val (.ref fa)]) (by decide +kernel) O (fun m => by first | (simp [entryFrame, mkF, argsToLocals, Value.category]; done) | rfl | (rcases ref_cases (Sts.ref OS) with rfl | ⟨r, rfl⟩ <;> rfl)) ?_
  intro p e s m below meth c T0 X0 e0
  subst e0
  have K00 := Keep.refl T0.heap [x]
  refine E_aloadN X0 d_init1_0 rfl rfl (pc' := 1) rfl ?_
  refine E_initO X0 d_init1_1 (hw _ (List.mem_of_getElem? (i := 13) rfl)) (hw _ (List.mem_of_getElem? (i := 14) rfl)) (hw _ (List.mem_of_getElem? (i := 15) rfl)) rfl (by decide) (Nat.le_of_ble_eq_true rfl) (pc' := 4) rfl ?_
  intro T1 X2 e3
  have KK4 := own_keq K00 e3
  rw [← e3] at E0 F1 F2 U0
  refine E_aloadN X2 d_init1_4 rfl rfl (pc' := 5) rfl ?_
  refine E_iconst X2 (v := (-1 : Int32)) d_init1_5 rfl (pc' := 6) rfl ?_
  refine E_putfield X2 (ty := .int) d_init1_6 (hw _ (List.mem_of_getElem? (i := 16) rfl)) Via.refl F1 E0 (Or.inl (hw _ (List.mem_of_getElem? (i := 17) rfl))) (hw _ (List.mem_of_getElem? (i := 2) rfl)) (by decide) rfl rfl gx  (pc' := 9) rfl ?_
  intro T5 X6 W7
  have K8 := Keep.of_wr W7
  have KK9 := KK4.trans K8 (allS (Or.inl (by simp)) (fun x q => nomatch q))
  have Exa_10 := E0.keep K8
  have F11 := F1.same W7
  have Un12 := Unt.wr U0 W7
  have F13 := F2.other W7 (Or.inr (slot_ne (Or.inr (hw _ (List.mem_of_getElem? (i := 19) rfl))) (Or.inl (hw _ (List.mem_of_getElem? (i := 17) rfl))) (by decide) (t := (.object "java/util/function/IntConsumer")) (t' := .int) (by decide) (by decide)))
  refine E_aloadN X6 d_init1_9 rfl rfl (pc' := 10) rfl ?_
  refine E_aloadN X6 d_init1_10 rfl rfl (pc' := 11) rfl ?_
  refine E_putfield X6 (ty := (.object "java/util/function/IntConsumer")) d_init1_11 (hw _ (List.mem_of_getElem? (i := 18) rfl)) Via.refl F13 Exa_10 (Or.inr ⟨(hw _ (List.mem_of_getElem? (i := 19) rfl)), rfl, rfl⟩) (hw _ (List.mem_of_getElem? (i := 2) rfl)) (by decide) rfl rfl gx  (pc' := 14) rfl ?_
  intro T14 X15 W16
  have K17 := Keep.of_wr W16
  have KK18 := KK9.trans K17 (allS (Or.inl (by simp)) (fun x q => nomatch q))
  have Exa_19 := Exa_10.keep K17
  have F20 := F13.same W16
  have Un21 := Unt.wr Un12 W16
  have F22 := F11.other W16 (Or.inr (slot_ne (Or.inl (hw _ (List.mem_of_getElem? (i := 17) rfl))) (Or.inr (hw _ (List.mem_of_getElem? (i := 19) rfl))) (by decide) (t := .int) (t' := (.object "java/util/function/IntConsumer")) (by decide) (by decide)))
  exact E_return X15 d_init1_14 rfl (by decide) (by decide) (⟨rfl, KK18, Un21, F22, F20⟩)
abbrev sgm : Lambda.Shape := (Lambda.Shape.mk "java/util/function/IntConsumer" "accept" (MethodDescriptor.mk ([FieldType.int] : List FieldType) (Option.none : Option FieldType)) ([] : List FieldType) 6 "com/example/libgauge/libgauge/netty/ServedSinceMiss" "lambda$new$0" (MethodDescriptor.mk ([FieldType.int] : List FieldType) (Option.none : Option FieldType)) false (MethodDescriptor.mk ([FieldType.int] : List FieldType) (Option.none : Option FieldType)))
theorem d_init0_0 : decode prog_23_method_1_code 0 = .ok (.aload_n 0, 1) := by decide +kernel
theorem d_init0_1 : decode prog_23_method_1_code 1 = .ok (.invokedynamic 1, 5) := by decide +kernel
theorem d_init0_6 : decode prog_23_method_1_code 6 = .ok (.invokespecial 5, 3) := by decide +kernel
theorem d_init0_9 : decode prog_23_method_1_code 9 = .ok (.return_, 1) := by decide +kernel
abbrev rm_init0 : Room := ({ frames := 2, cells := 0, slots := 0, locals := 3073 } : Room)
def Q_init0 (Z : State) (x : Addr) (h0 : Heap) (v : Option Value) (h : Heap) : Prop := v = none ∧ Keep h0 h [x] ∧ Unt h x ∧ Fld Z h x "com/example/libgauge/libgauge/netty/ServedSinceMiss" "largest" "I" (.int (-1 : Int32)) ∧ ∃ fa cK, LamKit.Made Z "com/example/libgauge/libgauge/netty/ServedSinceMiss" sgm cK ∧ LamKit.FnAt Z.heap fa cK ∧ Fld Z h x "com/example/libgauge/libgauge/netty/ServedSinceMiss" "largestChanged" "Ljava/util/function/IntConsumer;" (.ref fa)
set_option maxRecDepth 65536 in
set_option maxHeartbeats 40000000 in
theorem ct_init0 (l : Launch) (Z : State) (a0 : Array Value) (hw : ∀ d ∈ tables_1, d.before a0 Z = true)  (x : Addr) {h0 : Heap} (O : Ext Z.heap h0) (E0 : Exa Z h0 x "com/example/libgauge/libgauge/netty/ServedSinceMiss") (F1 : Fld Z h0 x "com/example/libgauge/libgauge/netty/ServedSinceMiss" "largest" "I" (.int (0 : Int32))) (F2 : Fld Z h0 x "com/example/libgauge/libgauge/netty/ServedSinceMiss" "largestChanged" "Ljava/util/function/IntConsumer;" .null) (gx : Z.heap.size ≤ x) (U0 : Unt h0 x) : Ct l Z (⟨"com/example/libgauge/libgauge/netty/ServedSinceMiss", "<init>", "()V"⟩ : MethodName) prog_23_method_1_code 1 none rm_init0 #[(.ref x)] h0 (Q_init0 Z x h0) := by
  refine Ct.of_bodyN (Ls := #[.val (.ref x)]) (by decide +kernel) O (fun m => by first | (simp [entryFrame, mkF, argsToLocals, Value.category]; done) | rfl | (rcases ref_cases (Sts.ref OS) with rfl | ⟨r, rfl⟩ <;> rfl)) ?_
  intro p e s m below meth c T0 X0 hnm e0
  subst e0
  have K00 := Keep.refl T0.heap [x]
  refine E_aloadN X0 d_init0_0 rfl rfl (pc' := 1) rfl ?_
  refine E_site X0 hnm d_init0_1 (hw _ (List.mem_of_getElem? (i := 7) rfl)) rfl rfl (Nat.le_of_ble_eq_true rfl) (pc' := 6) rfl ?_
  intro fa1 cK2 Md3 Fn4
  refine E_special X0 (rm := rm_init1) (a := x) d_init0_6 rfl rfl (hw _ (List.mem_of_getElem? (i := 10) rfl)) (hw _ (List.mem_of_getElem? (i := 11) rfl)) (hw _ (List.mem_of_getElem? (i := 12) rfl)) (by decide) (hw _ (List.mem_of_getElem? (i := 3) rfl)) (argsL := [(.ref fa1)]) (st := []) rfl (ct_init1 l Z a0 hw x fa1 X0.old E0 F1 F2 gx U0) (lenOf (pd_0) rfl) rfl (by decide) (by decide) (by decide) (Nat.le_of_ble_eq_true rfl)  (pc' := 9) rfl ?_
  intro T5 _ X6 hQ7
  obtain ⟨rfl, K8, U1, G1, G2⟩ := hQ7
  have KK9 := K00.trans K8 (allS (Or.inl (by simp)) (fun x q => nomatch q))
  have Exa_10 := E0.keep K8
  show Ends p e below s Z _ _ _ T5 (mkF m 9 #[.val (.ref x)] [])
  exact E_return X6 d_init0_9 rfl (by decide) (by decide) (⟨rfl, KK9, U1, G1, fa1, cK2, Md3, Fn4, G2⟩)
def agV (sN sO sA : Addr) (lg n : Int32) : Value := if lg = (-1 : Int32) then .ref sN else if lg < n then .ref sO else .ref sA
theorem d_ag_0 : decode prog_23_method_4_code 0 = .ok (.aload_n 0, 1) := by decide +kernel
theorem d_ag_1 : decode prog_23_method_4_code 1 = .ok (.getfield 16, 3) := by decide +kernel
theorem d_ag_4 : decode prog_23_method_4_code 4 = .ok (.istore_n 2, 1) := by decide +kernel
theorem d_ag_5 : decode prog_23_method_4_code 5 = .ok (.iload_n 2, 1) := by decide +kernel
theorem d_ag_6 : decode prog_23_method_4_code 6 = .ok (.iconst (-1), 1) := by decide +kernel
theorem d_ag_7 : decode prog_23_method_4_code 7 = .ok (.if_icmp .ne 7, 3) := by decide +kernel
theorem d_ag_10 : decode prog_23_method_4_code 10 = .ok (.getstatic 29, 3) := by decide +kernel
theorem d_ag_13 : decode prog_23_method_4_code 13 = .ok (.areturn, 1) := by decide +kernel
theorem d_ag_14 : decode prog_23_method_4_code 14 = .ok (.iload_n 2, 1) := by decide +kernel
theorem d_ag_15 : decode prog_23_method_4_code 15 = .ok (.iload_n 1, 1) := by decide +kernel
theorem d_ag_16 : decode prog_23_method_4_code 16 = .ok (.if_icmp .ge 9, 3) := by decide +kernel
theorem d_ag_19 : decode prog_23_method_4_code 19 = .ok (.getstatic 35, 3) := by decide +kernel
theorem d_ag_22 : decode prog_23_method_4_code 22 = .ok (.goto 6, 3) := by decide +kernel
theorem d_ag_25 : decode prog_23_method_4_code 25 = .ok (.getstatic 38, 3) := by decide +kernel
theorem d_ag_28 : decode prog_23_method_4_code 28 = .ok (.areturn, 1) := by decide +kernel
abbrev rm_ag : Room := ({ frames := 0, cells := 0, slots := 0, locals := 0 } : Room)
def Q_ag (Z : State) (x sN sO sA : Addr) (lg n : Int32) (h0 : Heap) (v : Option Value) (h : Heap) : Prop := v = some (agV sN sO sA lg n) ∧ h = h0
set_option maxRecDepth 65536 in
set_option maxHeartbeats 40000000 in
theorem ct_ag (l : Launch) (Z : State) (a0 : Array Value) (hw : ∀ d ∈ tables_1, d.before a0 Z = true)  (x sN sO sA : Addr) (lg n : Int32) {h0 : Heap} (O : Ext Z.heap h0) (SN : Sta Z Z.heap "com/example/libgauge/libgauge/netty/ServedSinceMiss$Served" "NOTHING" "Lcom/example/libgauge/libgauge/netty/ServedSinceMiss$Served;" (.ref sN)) (SO : Sta Z Z.heap "com/example/libgauge/libgauge/netty/ServedSinceMiss$Served" "ONLY_SMALLER" "Lcom/example/libgauge/libgauge/netty/ServedSinceMiss$Served;" (.ref sO)) (SA : Sta Z Z.heap "com/example/libgauge/libgauge/netty/ServedSinceMiss$Served" "AS_LARGE" "Lcom/example/libgauge/libgauge/netty/ServedSinceMiss$Served;" (.ref sA)) (F1 : Fld Z h0 x "com/example/libgauge/libgauge/netty/ServedSinceMiss" "largest" "I" (.int lg)) : Ct l Z (⟨"com/example/libgauge/libgauge/netty/ServedSinceMiss", "against", "(I)Lcom/example/libgauge/libgauge/netty/ServedSinceMiss$Served;"⟩ : MethodName) prog_23_method_4_code 3 (some (.object "com/example/libgauge/libgauge/netty/ServedSinceMiss$Served")) rm_ag #[(.ref x), (.int n)] h0 (Q_ag Z x sN sO sA lg n h0) := by
  refine Ct.of_body (Ls := #[.val (.ref x), .val (.int n), .unset]) (by decide +kernel) O (fun m => by first | (simp [entryFrame, mkF, argsToLocals, Value.category]; done) | rfl | (rcases ref_cases (Sts.ref OS) with rfl | ⟨r, rfl⟩ <;> rfl)) ?_
  intro p e s m below meth c T0 X0 e0
  subst e0
  refine E_aloadN X0 d_ag_0 rfl rfl (pc' := 1) rfl ?_
  refine E_getfield X0 d_ag_1 (hw _ (List.mem_of_getElem? (i := 16) rfl)) Via.refl F1 (pc' := 4) rfl ?_
  intro T1 X2 e3
  rw [← e3] at F1
  refine E_istoreN X2 d_ag_4 (l' := #[.val (.ref x), .val (.int n), .val (.int lg)]) rfl (pc' := 5) rfl ?_
  refine E_iloadN X2 d_ag_5 rfl (pc' := 6) rfl ?_
  refine E_iconst X2 (v := (-1 : Int32)) d_ag_6 rfl (pc' := 7) rfl ?_
  by_cases q7 : lg = (-1 : Int32)
  · skip
    refine E_icF X2 d_ag_7 (XT.ii_ne_f q7) (pc' := 10) rfl ?_
    refine E_getstatic X2 d_ag_10 (hw _ (List.mem_of_getElem? (i := 32) rfl)) Via.refl SN (pc' := 13) rfl ?_
    intro T4 X5 e6
    rw [← e6] at F1
    exact E_areturn X5 (t := (.object "com/example/libgauge/libgauge/netty/ServedSinceMiss$Served")) d_ag_13 rfl rfl rfl rfl (by decide) (by decide) (⟨by rw [agV, if_pos q7], (e6.trans e3)⟩)
  · skip
    refine E_icT X2 d_ag_7 (XT.ii_ne_t q7) (pc' := 14) (by decide) rfl ?_
    refine E_iloadN X2 d_ag_14 rfl (pc' := 15) rfl ?_
    refine E_iloadN X2 d_ag_15 rfl (pc' := 16) rfl ?_
    by_cases q16 : lg < n
    · skip
      refine E_icF X2 d_ag_16 (XT.ii_ge_f q16) (pc' := 19) rfl ?_
      refine E_getstatic X2 d_ag_19 (hw _ (List.mem_of_getElem? (i := 51) rfl)) Via.refl SO (pc' := 22) rfl ?_
      intro T7 X8 e9
      rw [← e9] at F1
      refine E_goto X8 d_ag_22 (pc' := 28) (by decide) rfl ?_
      exact E_areturn X8 (t := (.object "com/example/libgauge/libgauge/netty/ServedSinceMiss$Served")) d_ag_28 rfl rfl rfl rfl (by decide) (by decide) (⟨by rw [agV, if_neg q7, if_pos q16], (e9.trans e3)⟩)
    · skip
      refine E_icT X2 d_ag_16 (XT.ii_ge_t q16) (pc' := 25) (by decide) rfl ?_
      refine E_getstatic X2 d_ag_25 (hw _ (List.mem_of_getElem? (i := 54) rfl)) Via.refl SA (pc' := 28) rfl ?_
      intro T10 X11 e12
      rw [← e12] at F1
      exact E_areturn X11 (t := (.object "com/example/libgauge/libgauge/netty/ServedSinceMiss$Served")) d_ag_28 rfl rfl rfl rfl (by decide) (by decide) (⟨by rw [agV, if_neg q7, if_neg q16], (e12.trans e3)⟩)
theorem d_sv_0 : decode prog_23_method_3_code 0 = .ok (.iload_n 1, 1) := by decide +kernel
theorem d_sv_1 : decode prog_23_method_3_code 1 = .ok (.aload_n 0, 1) := by decide +kernel
theorem d_sv_2 : decode prog_23_method_3_code 2 = .ok (.getfield 16, 3) := by decide +kernel
theorem d_sv_5 : decode prog_23_method_3_code 5 = .ok (.if_icmp .le 40, 3) := by decide +kernel
theorem d_sv_8 : decode prog_23_method_3_code 8 = .ok (.aload_n 0, 1) := by decide +kernel
theorem d_sv_9 : decode prog_23_method_3_code 9 = .ok (.dup, 1) := by decide +kernel
theorem d_sv_10 : decode prog_23_method_3_code 10 = .ok (.astore_n 2, 1) := by decide +kernel
theorem d_sv_11 : decode prog_23_method_3_code 11 = .ok (.monitorenter, 1) := by decide +kernel
theorem d_sv_12 : decode prog_23_method_3_code 12 = .ok (.iload_n 1, 1) := by decide +kernel
theorem d_sv_13 : decode prog_23_method_3_code 13 = .ok (.aload_n 0, 1) := by decide +kernel
theorem d_sv_14 : decode prog_23_method_3_code 14 = .ok (.getfield 16, 3) := by decide +kernel
theorem d_sv_17 : decode prog_23_method_3_code 17 = .ok (.if_icmp .le 18, 3) := by decide +kernel
theorem d_sv_20 : decode prog_23_method_3_code 20 = .ok (.aload_n 0, 1) := by decide +kernel
theorem d_sv_21 : decode prog_23_method_3_code 21 = .ok (.iload_n 1, 1) := by decide +kernel
theorem d_sv_22 : decode prog_23_method_3_code 22 = .ok (.putfield 16, 3) := by decide +kernel
theorem d_sv_25 : decode prog_23_method_3_code 25 = .ok (.aload_n 0, 1) := by decide +kernel
theorem d_sv_26 : decode prog_23_method_3_code 26 = .ok (.getfield 20, 3) := by decide +kernel
theorem d_sv_29 : decode prog_23_method_3_code 29 = .ok (.iload_n 1, 1) := by decide +kernel
theorem d_sv_30 : decode prog_23_method_3_code 30 = .ok (.invokeinterface 24 2, 5) := by decide +kernel
theorem d_sv_35 : decode prog_23_method_3_code 35 = .ok (.aload_n 2, 1) := by decide +kernel
theorem d_sv_36 : decode prog_23_method_3_code 36 = .ok (.monitorexit, 1) := by decide +kernel
theorem d_sv_37 : decode prog_23_method_3_code 37 = .ok (.goto 8, 3) := by decide +kernel
theorem d_sv_45 : decode prog_23_method_3_code 45 = .ok (.return_, 1) := by decide +kernel
abbrev mkE (a : Addr) (m : MethodId) (pc : Nat) (Ls : Array Slot) (st : List Value) : JFrame := { method := m, pc := pc, locals := Ls, stack := st, locked := none, entered := [a], monitorRoom := 1 }
abbrev mkR (m : MethodId) (pc : Nat) (Ls : Array Slot) (st : List Value) : JFrame := { method := m, pc := pc, locals := Ls, stack := st, locked := none, entered := [], monitorRoom := 1 }
theorem retR0 {p : Program} {l : Launch} {e : Env} {R : Room} {s : State} {m : MethodId} {args : Array Value} {below : List Frame} {meth : Method} {c : Code} {T : State} {locs : List Loc} {cells slots : Nat} (X : Stand p l e R s m args below meth c T locs cells slots) (hx : p.tables.exec = Jvm.exec) {pc : Nat} {Ls : Array Slot} {st : List Value} (hret : meth.sig.returnType = none) (hd : decode c.code pc = .ok (.return_, 1)) {V : State}
    (hl : ∀ (f : JFrame) (acts : List Action), f.method = m → f.locked = none → f.entered = [] → (doReturn e (T.setTop f) acts none).1 = V) : Steps p.tables e below (T.setTop (mkR m pc Ls st)) V := by
  have hm' : T.vm.method? m = some meth := X.method'
  show Steps p.tables e below (T.setTop { method := m, pc := pc, locals := Ls, stack := st, locked := none, entered := [], monitorRoom := 1 }) _
  jvm_step X.here [X.here.top, hx, hd, hm', hret]
  first | (intro acts; rw [hl _ acts rfl rfl rfl]) | rw [hl _ _ rfl rfl rfl]
  exact Steps.refl _
theorem own_kset {h : Heap} {a : Addr} {cl cl' : Cell} (hc : h[a]? = some cl) (h1 : cl'.cls = cl.cls) (h2 : cl'.vm = cl.vm) (h3 : cl'.slots.size = cl.slots.size) : Keep h (h.setIfInBounds a cl') [a] := by
  refine ⟨by simp, fun y d q r => ?_, fun y d q => ?_⟩
  · rw [Array.getElem?_setIfInBounds_ne fun z => r (by simp [z])]; exact q
  · by_cases z : a = y
    · subst z; cases hc.symm.trans q; exact ⟨cl', by simp [(Array.getElem?_eq_some_iff.mp hc).1], h1, h2, h3⟩
    · exact ⟨d, by rw [Array.getElem?_setIfInBounds_ne z]; exact q, rfl, rfl, rfl⟩
theorem own_left {cell : Cell} {t : ThreadId} (h : cell.enterable t) (sl : Nat) (v : Value) : ((cell.withEntry t).setSlot sl v).left = cell.setSlot sl v := by
  have e : (cell.withEntry t).setSlot sl v = { cell.withEntry t with slots := cell.slots.setIfInBounds sl v } := rfl
  rw [e, Cell.left_withSlots, Cell.left_withEntry' h]; rfl
theorem own_set2 {h : Heap} {a : Addr} {c d : Cell} : (h.setIfInBounds a c).setIfInBounds a d = h.setIfInBounds a d := by
  apply Array.ext_getElem?
  intro i
  by_cases z : a = i
  · subst z; simp [Array.getElem?_setIfInBounds]
  · rw [Array.getElem?_setIfInBounds_ne z, Array.getElem?_setIfInBounds_ne z, Array.getElem?_setIfInBounds_ne z]

abbrev rm_served : Room := { frames := 2, cells := 0, slots := 0, locals := 27 }
def Q_served (Z : State) (x fa : Addr) (lg n : Int32) (h0 : Heap) (v : Option Value) (h : Heap) : Prop := v = none ∧ Keep h0 h [x] ∧ Unt h x ∧ Fld Z h x "com/example/libgauge/libgauge/netty/ServedSinceMiss" "largest" "I" (.int (if lg < n then n else lg)) ∧ Fld Z h x "com/example/libgauge/libgauge/netty/ServedSinceMiss" "largestChanged" "Ljava/util/function/IntConsumer;" (.ref fa)
set_option maxRecDepth 65536 in
set_option maxHeartbeats 40000000 in
theorem served_region (l : Launch) (Z : State) (a0 : Array Value) (hw : ∀ d ∈ tables_1, d.before a0 Z = true) (x fa : Addr) (cK : ClassId) (lg n : Int32) {p : Program} {e : Env} {s : State} {m : MethodId} {below : List Frame} {meth : Method} {c : Code} {T : State} (X : Wk l Z rm_served prog_23_method_3_code 4 none "com/example/libgauge/libgauge/netty/ServedSinceMiss" "served" p e s m #[.ref x, .int n] below meth c T 0 0) (es : s.heap = T.heap) (E0 : Exa Z T.heap x "com/example/libgauge/libgauge/netty/ServedSinceMiss") (F1 : Fld Z T.heap x "com/example/libgauge/libgauge/netty/ServedSinceMiss" "largest" "I" (.int lg)) (F2 : Fld Z T.heap x "com/example/libgauge/libgauge/netty/ServedSinceMiss" "largestChanged" "Ljava/util/function/IntConsumer;" (.ref fa)) (gx : Z.heap.size ≤ x) (U0 : Unt T.heap x) (Md : LamKit.Made Z "com/example/libgauge/libgauge/netty/ServedSinceMiss" sgm cK) (Fn : LamKit.FnAt Z.heap fa cK) (hq : lg < n) :
    Ends p e below s Z (Q_served Z x fa lg n T.heap) 0 0 T (mkF m 11 #[.val (.ref x), .val (.int n), .val (.ref x), .unset] [.ref x]) := by
  obtain ⟨q0, locs, Y, N, O⟩ := id X
  obtain ⟨LS, hLS⟩ : ∃ L : Array Slot, L = #[.val (.ref x), .val (.int n), .val (.ref x), .unset] := ⟨_, rfl⟩
  have hx := X.hx
  obtain ⟨cell, u1, u2, u3⟩ := id U0
  have hs : s.heap[x]? = some cell := by rw [es]; exact u1
  have hent : cell.enterable T.cur := Or.inl ⟨by rw [u3], by rw [u3]⟩
  have hsync : meth.isSynchronized = false := by
    have hl2 := q0.2.2.2.2.1
    have hn := q0.2.2.2.2.2.2.1
    simp only [Method.locks, hn, Bool.and_eq_false_iff, bne_eq_false_iff_eq] at hl2
    rcases hl2 with h | h
    · exact h
    · exact absurd h (by decide)
  have hsz : LS.size = c.maxLocals := by rw [hLS]; exact X.size (Ls := #[.val (.ref x), .val (.int n), .val (.ref x), .unset]) rfl (pc := 0) (st := [])
  have l0 : LS[0]? = some (.val (.ref x)) := by rw [hLS]; rfl
  have l1 : LS[1]? = some (.val (.int n)) := by rw [hLS]; rfl
  have l2 : LS[2]? = some (.val (.ref x)) := by rw [hLS]; rfl
  rw [← hLS]
  obtain ⟨Y1, st1⟩ := Y.monitorenterAt hx (g := mkF m 11 LS [.ref x]) rfl hsz (a := x) (rest := []) rfl (X.hb d_sv_11) hs u1 (Or.inl (by rw [u3])) hsync (by show 2 * 1 + 0 ≤ 27; decide)
  have M1 : Mon T.heap (T.setCell x (cell.withEntry T.cur)).heap := mon_set u1 _
  have K1 : Keep T.heap (T.setCell x (cell.withEntry T.cur)).heap [x] := own_kset u1 rfl rfl rfl
  have hT1 : (T.setCell x (cell.withEntry T.cur)).heap = T.heap.setIfInBounds x (cell.withEntry T.cur) := rfl
  have c1 : (T.setCell x (cell.withEntry T.cur)).heap[x]? = some (cell.withEntry T.cur) := by
    rw [hT1]; simp [(Array.getElem?_eq_some_iff.mp u1).1]
  have hZ1 : Z.Warmed39 (s.setCell x (cell.withEntry T.cur)).vm := X.hZ
  have hH1 : Z.WarmedH (s.setCell x (cell.withEntry T.cur)).vm := X.hH
  have hw1 : (s.setCell x (cell.withEntry T.cur)).vm.findClass "com/example/libgauge/libgauge/netty/ServedSinceMiss" = some m.cls := X.hown
  have hcur : T.cur = s.cur := Y.cur_eq
  generalize T.setCell x (cell.withEntry T.cur) = T1 at Y1 st1 M1 K1 hT1 c1
  have A1 := F1.mon M1
  have B1 := F2.mon M1
  have E1 := E0.mon M1
  obtain ⟨T2, Y2, e2, st2⟩ := getF Y1 hx hZ1 hw1 (host := "") (Or.inl (hw _ (List.mem_of_getElem? (i := 16) rfl))) Via.refl rfl A1 (g := mkE x m 14 LS [.ref x, .int n]) rfl (rest := [.int n]) rfl (X.hb d_sv_14)
  obtain ⟨T3, h3, Y3, e3, W3, st3⟩ := putF Y2 hx hZ1 hw1 (host := "") (Or.inl (hw _ (List.mem_of_getElem? (i := 16) rfl))) Via.refl e2 A1 E1 (Or.inl (hw _ (List.mem_of_getElem? (i := 17) rfl))) (hw _ (List.mem_of_getElem? (i := 2) rfl)) (ty := .int) (by decide) (v := .int n) rfl rfl (g := mkE x m 22 LS [.int n, .ref x]) rfl (rest := []) rfl (X.hb d_sv_22)
  have sne := slot_ne (Z := Z) (Or.inr (hw _ (List.mem_of_getElem? (i := 19) rfl))) (Or.inl (hw _ (List.mem_of_getElem? (i := 17) rfl))) (by decide) (t := .object "java/util/function/IntConsumer") (t' := .int) (by decide) (by decide)
  have B3 := B1.other W3 (Or.inr sne)
  obtain ⟨T4, Y4, e4, st4⟩ := getF Y3 hx hZ1 hw1 (host := "") (Or.inl (hw _ (List.mem_of_getElem? (i := 18) rfl))) Via.refl e3 B3 (g := mkE x m 26 LS [.ref x]) rfl (rest := []) rfl (X.hb d_sv_26)
  have O4 : Ext Z.heap T4.heap := by rw [e4]; exact Keep.old (Keep.old O K1 (allS gx all0)) (Keep.of_wr W3) (allS gx all0)
  obtain ⟨T5, L5, Y5, N5, e5, st5⟩ := lamStep Y4 hx hH1 O4 (own := "com/example/libgauge/libgauge/netty/ServedSinceMiss") (xi := ⟨"java/util/function/IntConsumer", "accept", "(I)V"⟩) (y := ⟨"com/example/libgauge/libgauge/netty/ServedSinceMiss", "lambda$new$0", "(I)V"⟩) (σ := sgm) (host := "com/example/libgauge/libgauge/netty/ServedSinceMiss") (rm := rm_lam) (x := n)
    (show Ct l Z ⟨"com/example/libgauge/libgauge/netty/ServedSinceMiss", "lambda$new$0", "(I)V"⟩ prog_23_method_6_code 1 none rm_lam #[.int n] T4.heap (fun v h => v = none ∧ h = T4.heap) from ct_lam l Z a0 hw n O4) hw1 (hw _ (List.mem_of_getElem? (i := 39) rfl)) (hw _ (List.mem_of_getElem? (i := 40) rfl)) (hw _ (List.mem_of_getElem? (i := 41) rfl)) rfl (hw _ (List.mem_of_getElem? (i := 43) rfl)) (hw _ (List.mem_of_getElem? (i := 42) rfl)) (hw _ (List.mem_of_getElem? (i := 3) rfl)) (by decide +kernel) (by decide +kernel) (by decide) Md Fn (fcode := ⟨#[0x1b, 0xb8, 0x00, 0x11, 0xb1]⟩) (idx := 17) (ci := 14) (by decide +kernel) (by decide +kernel) (by decide +kernel) (by decide +kernel)
    (g := mkE x m 30 LS [.int n, .ref fa]) rfl hsz (rest := []) (lenOf (L := [.int n]) pd_1 rfl) (lenOf (L := [.int n]) pd_1 rfl) rfl (X.hb d_sv_30) (by decide) (by show 2 * 1 + 0 + (2 + 11) + ((1 + 11) + 0) ≤ 27; decide) (by decide) (by decide)
  obtain ⟨c3, g1, g2, g3, g4⟩ := id W3
  cases c1.symm.trans g1
  have hT5 : T5.heap[x]? = some ((cell.withEntry T.cur).setSlot (Jvm.RoadKit.slotOf Z "com/example/libgauge/libgauge/netty/ServedSinceMiss" "largest" "I") (.int n)) := by
    rw [e5, e4, g4]; simp [(Array.getElem?_eq_some_iff.mp c1).1]
  have how : ((cell.withEntry T.cur).setSlot (Jvm.RoadKit.slotOf Z "com/example/libgauge/libgauge/netty/ServedSinceMiss" "largest" "I") (.int n)).monitor.owner = some T5.cur := by
    rw [Y5.cur_eq]; show some T.cur = some s.cur; rw [hcur]
  obtain ⟨Y6, st6⟩ := Y5.monitorexitAt (s := s) (cell := cell) (t := T.cur) hx (g := mkE x m 36 LS [.ref x]) rfl (rest := []) (more := []) rfl (X.hb d_sv_36) hs hent hT5 how rfl
  have e6 : (T5.setCell x ((cell.withEntry T.cur).setSlot (Jvm.RoadKit.slotOf Z "com/example/libgauge/libgauge/netty/ServedSinceMiss" "largest" "I") (.int n)).left).heap = T.heap.setIfInBounds x (cell.setSlot (Jvm.RoadKit.slotOf Z "com/example/libgauge/libgauge/netty/ServedSinceMiss" "largest" "I") (.int n)) := by
    show T5.heap.setIfInBounds x _ = _
    rw [e5, e4, g4, hT1, own_left hent, own_set2, own_set2]
  generalize T5.setCell x ((cell.withEntry T.cur).setSlot (Jvm.RoadKit.slotOf Z "com/example/libgauge/libgauge/netty/ServedSinceMiss" "largest" "I") (.int n)).left = T6 at Y6 st6 e6
  have W6 : Wr T.heap T6.heap x (Jvm.RoadKit.slotOf Z "com/example/libgauge/libgauge/netty/ServedSinceMiss" "largest" "I") (.int n) := ⟨cell, u1, by rw [u2]; rfl, g3, e6⟩
  obtain ⟨fs, hr, hrun, hended, hW, hsame⟩ := Y6.leave (v := none) (fun _ => rfl) q0.2.2.2.2.1
  refine ⟨_, _, ?_, hrun, hended, _, _, rfl, ⟨Fr.app (Fr.app N (fun y hy => by cases List.mem_singleton.mp hy; exact gx)) N5, Keep.old O (Keep.of_wr W6) (allS gx all0), rfl, Keep.of_wr W6, Unt.wr U0 W6, ?_, F2.other W6 (Or.inr sne)⟩, ⟨_, rfl⟩, hW, hsame.mono (Nat.le_refl _) (Nat.le_refl _)⟩
  · refine st1 _ ?_
    show Steps p.tables e below (T1.setTop (mkE x m 12 LS [])) _
    refine XS.iloadN Y1.here hx rfl (X.hb d_sv_12) l1 ?_
    show Steps p.tables e below (T1.setTop (mkE x m 13 LS [.int n])) _
    refine XS.aloadN Y1.here hx rfl (X.hb d_sv_13) l0 rfl ?_
    refine st2 _ ?_
    show Steps p.tables e below (T2.setTop (mkE x m 17 LS [.int lg, .int n])) _
    refine XS.icmpNo Y2.here hx rfl (X.hb d_sv_17) rfl (XT.ii_le_f hq) ?_
    show Steps p.tables e below (T2.setTop (mkE x m 20 LS [])) _
    refine XS.aloadN Y2.here hx rfl (X.hb d_sv_20) l0 rfl ?_
    show Steps p.tables e below (T2.setTop (mkE x m 21 LS [.ref x])) _
    refine XS.iloadN Y2.here hx rfl (X.hb d_sv_21) l1 ?_
    refine st3 _ ?_
    show Steps p.tables e below (T3.setTop (mkE x m 25 LS [])) _
    refine XS.aloadN Y3.here hx rfl (X.hb d_sv_25) l0 rfl ?_
    refine st4 _ ?_
    show Steps p.tables e below (T4.setTop (mkE x m 29 LS [.ref fa])) _
    refine XS.iloadN Y4.here hx rfl (X.hb d_sv_29) l1 ?_
    refine st5 _ ?_
    show Steps p.tables e below (T5.setTop (mkE x m 35 LS [])) _
    refine XS.aloadN Y5.here hx rfl (X.hb d_sv_35) l2 rfl ?_
    refine st6 _ ?_
    show Steps p.tables e below (T6.setTop (mkR m 37 LS [])) _
    refine XS.goto Y6.here hx rfl (pc0 := 37) (pc' := 45) rfl (X.hb d_sv_37) (by decide) (by decide) ?_
    exact retR0 Y6 hx q0.2.2.2.1 (X.hb d_sv_45) hr
  · rw [if_pos hq]; exact F1.same W6
set_option maxRecDepth 65536 in
set_option maxHeartbeats 40000000 in
theorem ct_served (l : Launch) (Z : State) (a0 : Array Value) (hw : ∀ d ∈ tables_1, d.before a0 Z = true) (x fa : Addr) (cK : ClassId) (lg n : Int32) {h0 : Heap} (O : Ext Z.heap h0) (E0 : Exa Z h0 x "com/example/libgauge/libgauge/netty/ServedSinceMiss") (F1 : Fld Z h0 x "com/example/libgauge/libgauge/netty/ServedSinceMiss" "largest" "I" (.int lg)) (F2 : Fld Z h0 x "com/example/libgauge/libgauge/netty/ServedSinceMiss" "largestChanged" "Ljava/util/function/IntConsumer;" (.ref fa)) (gx : Z.heap.size ≤ x) (U0 : Unt h0 x) (Md : LamKit.Made Z "com/example/libgauge/libgauge/netty/ServedSinceMiss" sgm cK) (Fn : LamKit.FnAt Z.heap fa cK) : CtH l Z ⟨"com/example/libgauge/libgauge/netty/ServedSinceMiss", "served", "(I)V"⟩ prog_23_method_3_code 4 none [(12, 37, 40, 0), (40, 43, 40, 0)] rm_served #[.ref x, .int n] h0 (Q_served Z x fa lg n h0) := by
  refine CtH.of_body (Ls := #[.val (.ref x), .val (.int n), .unset, .unset]) (by decide +kernel) O (fun m => by first | (simp [entryFrame, mkF, argsToLocals, Value.category]; done) | rfl) ?_
  intro p e s m below meth c T0 X0 es e0
  subst e0
  refine E_iloadN X0 d_sv_0 rfl (pc' := 1) rfl ?_
  refine E_aloadN X0 d_sv_1 rfl rfl (pc' := 2) rfl ?_
  refine E_getfield X0 d_sv_2 (hw _ (List.mem_of_getElem? (i := 16) rfl)) Via.refl F1 (pc' := 5) rfl ?_
  intro T1 X1 e1
  by_cases hq : lg < n
  · refine E_icF X1 d_sv_5 (XT.ii_le_f hq) (pc' := 8) rfl ?_
    refine E_aloadN X1 d_sv_8 rfl rfl (pc' := 9) rfl ?_
    refine E_dup X1 d_sv_9 rfl (pc' := 10) rfl ?_
    refine E_astoreN X1 d_sv_10 rfl (l' := #[.val (.ref x), .val (.int n), .val (.ref x), .unset]) rfl (pc' := 11) rfl ?_
    rw [← e1] at E0 F1 F2 U0 es
    have r := served_region l Z a0 hw x fa cK lg n X1 es E0 F1 F2 gx U0 Md Fn hq
    rw [e1] at r
    exact r
  · refine E_icT X1 d_sv_5 (XT.ii_le_t hq) (pc' := 45) (by decide) rfl ?_
    refine E_return X1 d_sv_45 rfl (by decide) (by decide) ?_
    rw [e1]
    exact ⟨rfl, Keep.refl _ _, U0, by rw [if_neg hq]; exact F1, F2⟩
theorem d_ms_0 : decode prog_23_method_5_code 0 = .ok (.aload_n 0, 1) := by decide +kernel
theorem d_ms_1 : decode prog_23_method_5_code 1 = .ok (.iload_n 1, 1) := by decide +kernel
theorem d_ms_2 : decode prog_23_method_5_code 2 = .ok (.invokevirtual 41, 3) := by decide +kernel
theorem d_ms_5 : decode prog_23_method_5_code 5 = .ok (.astore_n 2, 1) := by decide +kernel
theorem d_ms_6 : decode prog_23_method_5_code 6 = .ok (.aload_n 0, 1) := by decide +kernel
theorem d_ms_7 : decode prog_23_method_5_code 7 = .ok (.iconst (-1), 1) := by decide +kernel
theorem d_ms_8 : decode prog_23_method_5_code 8 = .ok (.putfield 16, 3) := by decide +kernel
theorem d_ms_11 : decode prog_23_method_5_code 11 = .ok (.aload_n 0, 1) := by decide +kernel
theorem d_ms_12 : decode prog_23_method_5_code 12 = .ok (.getfield 20, 3) := by decide +kernel
theorem d_ms_15 : decode prog_23_method_5_code 15 = .ok (.iconst 0, 1) := by decide +kernel
theorem d_ms_16 : decode prog_23_method_5_code 16 = .ok (.invokeinterface 24 2, 5) := by decide +kernel
theorem d_ms_21 : decode prog_23_method_5_code 21 = .ok (.aload_n 2, 1) := by decide +kernel
theorem d_ms_22 : decode prog_23_method_5_code 22 = .ok (.areturn, 1) := by decide +kernel
abbrev rm_missed : Room := { frames := 2, cells := 0, slots := 0, locals := 27 }
def Q_missed (Z : State) (x fa sN sO sA : Addr) (lg n : Int32) (h0 : Heap) (v : Option Value) (h : Heap) : Prop := v = some (agV sN sO sA lg n) ∧ Keep h0 h [x] ∧ Unt h x ∧ Fld Z h x "com/example/libgauge/libgauge/netty/ServedSinceMiss" "largest" "I" (.int (-1 : Int32)) ∧ Fld Z h x "com/example/libgauge/libgauge/netty/ServedSinceMiss" "largestChanged" "Ljava/util/function/IntConsumer;" (.ref fa)
theorem agV_ref (sN sO sA : Addr) (lg n : Int32) : ∃ b, agV sN sO sA lg n = .ref b := by
  unfold agV; split
  · exact ⟨_, rfl⟩
  · split <;> exact ⟨_, rfl⟩
set_option maxRecDepth 65536 in
set_option maxHeartbeats 40000000 in
theorem met_missed (l : Launch) (Z : State) (a0 : Array Value) (hw : ∀ d ∈ tables_1, d.before a0 Z = true) (x fa sN sO sA : Addr) (cK : ClassId) (lg n : Int32) {h0 : Heap} (O : Ext Z.heap h0) (SN : Sta Z Z.heap "com/example/libgauge/libgauge/netty/ServedSinceMiss$Served" "NOTHING" "Lcom/example/libgauge/libgauge/netty/ServedSinceMiss$Served;" (.ref sN)) (SO : Sta Z Z.heap "com/example/libgauge/libgauge/netty/ServedSinceMiss$Served" "ONLY_SMALLER" "Lcom/example/libgauge/libgauge/netty/ServedSinceMiss$Served;" (.ref sO)) (SA : Sta Z Z.heap "com/example/libgauge/libgauge/netty/ServedSinceMiss$Served" "AS_LARGE" "Lcom/example/libgauge/libgauge/netty/ServedSinceMiss$Served;" (.ref sA)) (E0 : Exa Z h0 x "com/example/libgauge/libgauge/netty/ServedSinceMiss") (F1 : Fld Z h0 x "com/example/libgauge/libgauge/netty/ServedSinceMiss" "largest" "I" (.int lg)) (F2 : Fld Z h0 x "com/example/libgauge/libgauge/netty/ServedSinceMiss" "largestChanged" "Ljava/util/function/IntConsumer;" (.ref fa)) (gx : Z.heap.size ≤ x) (U0 : Unt h0 x) (Md : LamKit.Made Z "com/example/libgauge/libgauge/netty/ServedSinceMiss" sgm cK) (Fn : LamKit.FnAt Z.heap fa cK) {ws : List Jvm.Cond} (hin : Jvm.Cond.instanceMethod ⟨"com/example/libgauge/libgauge/netty/ServedSinceMiss", "missed", "(I)Lcom/example/libgauge/libgauge/netty/ServedSinceMiss$Served;"⟩ ∈ ws) :
    MetFree l ⟨"com/example/libgauge/libgauge/netty/ServedSinceMiss", "missed", "(I)Lcom/example/libgauge/libgauge/netty/ServedSinceMiss$Served;"⟩ (head1 (Jvm.Cond.codeSync ⟨"com/example/libgauge/libgauge/netty/ServedSinceMiss", "missed", "(I)Lcom/example/libgauge/libgauge/netty/ServedSinceMiss$Served;"⟩ prog_23_method_5_code 3 (some (.object "com/example/libgauge/libgauge/netty/ServedSinceMiss$Served")) :: ws) rm_missed) (fun as U => as = #[.ref x, .int n] ∧ Z.WarmedH U.vm ∧ U.heap = h0) (fun _ _ _ _ _ => True)
      (fun _ U o U' => ∃ v L, o = .returned v ∧ (Fr Z.heap.size L ∧ Ext Z.heap U'.heap ∧ Q_missed Z x fa sN sO sA lg n h0 v U'.heap) ∧ FrameEnd U o U' L 0 0) := by
  obtain ⟨cell, u1, u2, u3⟩ := id U0
  have hent : ∀ t, cell.enterable t := fun t => Or.inl ⟨by rw [u3], by rw [u3]⟩
  refine MetFree.of_bodySync (by decide +kernel) (hisS hin) (fun _ s _ ⟨h1, _, h2⟩ => ⟨x, cell, by rw [h1]; rfl, by rw [h2]; exact u1, hent _⟩) ?_
  intro p e s0 m args below meth c a' cell' s₁ Bd hml0 hP _
  obtain ⟨rfl, hH0, hh0⟩ := hP
  cases Bd.receiver
  subst hh0
  have ec : cell' = cell := Option.some.inj (Bd.object.symm.trans u1)
  subst ec
  have hx := Bd.exec
  have hby : c.code = prog_23_method_5_code := Bd.bytes
  have hb : ∀ {pc : Nat} {r : Except DecodeError (Instr × Nat)}, decode prog_23_method_5_code pc = r → decode c.code pc = r := fun h => hby ▸ h
  have Y0 : Stand p l e rm_missed (s0.setCell x (cell'.withEntry s0.cur)) m _ below meth c s₁ [] 0 0 := Stand.of_bodySync Bd
  have hH1 : Z.WarmedH (s0.setCell x (cell'.withEntry s0.cur)).vm := hH0
  have hZ1 : Z.Warmed39 (s0.setCell x (cell'.withEntry s0.cur)).vm := hH0.wide
  have hw1 : (s0.setCell x (cell'.withEntry s0.cur)).vm.findClass "com/example/libgauge/libgauge/netty/ServedSinceMiss" = some m.cls := (findClass_of_methodNamed Bd.named :)
  have eh1 : s₁.heap = s0.heap.setIfInBounds x (cell'.withEntry s0.cur) := by rw [Bd.state]; rfl
  have M1 : Mon s0.heap s₁.heap := by rw [eh1]; exact mon_set u1 _
  have K1 : Keep s0.heap s₁.heap [x] := by rw [eh1]; exact own_kset u1 rfl rfl rfl
  have c1 : s₁.heap[x]? = some (cell'.withEntry s0.cur) := by rw [eh1]; simp [(Array.getElem?_eq_some_iff.mp u1).1]
  have A1 := F1.mon M1
  have B1 := F2.mon M1
  have E1 := E0.mon M1
  have O1 : Ext Z.heap s₁.heap := Keep.old O K1 (allS gx all0)
  obtain ⟨rv, hrv⟩ := agV_ref sN sO sA lg n
  obtain ⟨LS, hLS⟩ : ∃ L : Array Slot, L = #[.val (.ref x), .val (.int n), .unset] := ⟨_, rfl⟩
  obtain ⟨LS2, hLS2⟩ : ∃ L : Array Slot, L = #[.val (.ref x), .val (.int n), .val (.ref rv)] := ⟨_, rfl⟩
  have hsz0 : LS.size = c.maxLocals := by rw [hLS]; exact hml0.symm
  have hsz : LS2.size = c.maxLocals := by rw [hLS2]; exact hml0.symm
  have l0 : LS[0]? = some (.val (.ref x)) := by rw [hLS]; rfl
  have l1 : LS[1]? = some (.val (.int n)) := by rw [hLS]; rfl
  have k0 : LS2[0]? = some (.val (.ref x)) := by rw [hLS2]; rfl
  have k2 : LS2[2]? = some (.val (.ref rv)) := by rw [hLS2]; rfl
  have hC := ct_ag l Z a0 hw x sN sO sA lg n O1 SN SO SA A1
  obtain ⟨cq, kq, qa, qb, qc⟩ := isOf hZ1 rfl E1
  obtain ⟨v, _, ⟨T2, L2, n2, m2⟩, -, Y2, ⟨Lc, hQ, i1, i2, i3⟩, st2⟩ := Y0.virtualBack hx (y := ⟨"com/example/libgauge/libgauge/netty/ServedSinceMiss", "against", "(I)Lcom/example/libgauge/libgauge/netty/ServedSinceMiss$Served;"⟩) (z := ⟨"com/example/libgauge/libgauge/netty/ServedSinceMiss", "against", "(I)Lcom/example/libgauge/libgauge/netty/ServedSinceMiss$Served;"⟩) hw1 (mvT hZ1 (hw _ (List.mem_of_getElem? (i := 38) rfl))) (mvT hZ1 (hw _ (List.mem_of_getElem? (i := 28) rfl))) (notFace_of_selects (args := #[]) (mvT hZ1 (hw _ (List.mem_of_getElem? (i := 30) rfl)))) (mvT hZ1 (hw _ (List.mem_of_getElem? (i := 30) rfl))) (mvT hZ1 (hw _ (List.mem_of_getElem? (i := 29) rfl))) (by decide) (hC.back (W := 2) hH1 (hw _ (List.mem_of_getElem? (i := 31) rfl)) (hw _ (List.mem_of_getElem? (i := 3) rfl)) (by decide) (Nat.le_of_ble_eq_true rfl)) qa qc
    (g := mkL x m 2 LS [.int n, .ref x]) rfl hsz0 (Steps.refl _) (argsL := [.int n]) (rest := []) (lenOf pd_2 rfl) rfl (by show 2 * 1 + 0 ≤ 2; decide) (hb d_ms_2) (fun _ _ => ⟨rfl, rfl, Nat.le_refl 0, Nat.le_refl 0⟩)
  dsimp only [Pt.U, Pt.locs, Pt.cells, Pt.slots] at Y2 i1 i2 i3 st2 hQ
  subst i1 i2 i3
  obtain ⟨f1, f2, f3, e2⟩ := hQ
  subst f3
  obtain ⟨T3, h3, Y3, e3, W3, st3⟩ := putF Y2 hx hZ1 hw1 (host := "") (Or.inl (hw _ (List.mem_of_getElem? (i := 16) rfl))) Via.refl e2 A1 E1 (Or.inl (hw _ (List.mem_of_getElem? (i := 17) rfl))) (hw _ (List.mem_of_getElem? (i := 2) rfl)) (ty := .int) (by decide) (v := .int (-1 : Int32)) rfl rfl (g := mkL x m 8 LS2 [.int (-1 : Int32), .ref x]) rfl (rest := []) rfl (hb d_ms_8)
  have sne := slot_ne (Z := Z) (Or.inr (hw _ (List.mem_of_getElem? (i := 19) rfl))) (Or.inl (hw _ (List.mem_of_getElem? (i := 17) rfl))) (by decide) (t := .object "java/util/function/IntConsumer") (t' := .int) (by decide) (by decide)
  have B3 := B1.other W3 (Or.inr sne)
  obtain ⟨T4, Y4, e4, st4⟩ := getF Y3 hx hZ1 hw1 (host := "") (Or.inl (hw _ (List.mem_of_getElem? (i := 18) rfl))) Via.refl e3 B3 (g := mkL x m 12 LS2 [.ref x]) rfl (rest := []) rfl (hb d_ms_12)
  have O4 : Ext Z.heap T4.heap := by rw [e4]; exact Keep.old O1 (Keep.of_wr W3) (allS gx all0)
  obtain ⟨T5, L5, Y5, N5, e5, st5⟩ := lamStep Y4 hx hH1 O4 (own := "com/example/libgauge/libgauge/netty/ServedSinceMiss") (xi := ⟨"java/util/function/IntConsumer", "accept", "(I)V"⟩) (y := ⟨"com/example/libgauge/libgauge/netty/ServedSinceMiss", "lambda$new$0", "(I)V"⟩) (σ := sgm) (host := "com/example/libgauge/libgauge/netty/ServedSinceMiss") (rm := rm_lam) (x := (0 : Int32))
    (show Ct l Z ⟨"com/example/libgauge/libgauge/netty/ServedSinceMiss", "lambda$new$0", "(I)V"⟩ prog_23_method_6_code 1 none rm_lam #[.int (0 : Int32)] T4.heap (fun v h => v = none ∧ h = T4.heap) from ct_lam l Z a0 hw (0 : Int32) O4) hw1 (hw _ (List.mem_of_getElem? (i := 39) rfl)) (hw _ (List.mem_of_getElem? (i := 40) rfl)) (hw _ (List.mem_of_getElem? (i := 41) rfl)) rfl (hw _ (List.mem_of_getElem? (i := 43) rfl)) (hw _ (List.mem_of_getElem? (i := 42) rfl)) (hw _ (List.mem_of_getElem? (i := 3) rfl)) (by decide +kernel) (by decide +kernel) (by decide) Md Fn (fcode := ⟨#[0x1b, 0xb8, 0x00, 0x11, 0xb1]⟩) (idx := 17) (ci := 14) (by decide +kernel) (by decide +kernel) (by decide +kernel) (by decide +kernel)
    (g := mkL x m 16 LS2 [.int (0 : Int32), .ref fa]) rfl hsz (rest := []) (lenOf (L := [.int (0 : Int32)]) pd_1 rfl) (lenOf (L := [.int (0 : Int32)]) pd_1 rfl) rfl (hb d_ms_16) (by decide) (by show 2 * 1 + 0 + (2 + 11) + ((1 + 11) + 0) ≤ 27; decide) (by decide) (by decide)
  obtain ⟨c3, g1, g2, g3, g4⟩ := id W3
  cases c1.symm.trans g1
  have hT5 : T5.heap[x]? = some ((cell'.withEntry s0.cur).setSlot (Jvm.RoadKit.slotOf Z "com/example/libgauge/libgauge/netty/ServedSinceMiss" "largest" "I") (.int (-1 : Int32))) := by
    rw [e5, e4, g4]; simp [(Array.getElem?_eq_some_iff.mp c1).1]
  obtain ⟨fs, cT, hcT, hr, hrun, hended, hW, hsame⟩ := Y5.leaveSync u1 (hent _) Bd.synchronized (v := some (agV sN sO sA lg n)) (fun h => by rw [Bd.returns] at h; cases h)
  cases hT5.symm.trans hcT
  have e6 : ((T5.setCell x ((cell'.withEntry s0.cur).setSlot (Jvm.RoadKit.slotOf Z "com/example/libgauge/libgauge/netty/ServedSinceMiss" "largest" "I") (.int (-1 : Int32))).left).setFrames fs).heap = s0.heap.setIfInBounds x (cell'.setSlot (Jvm.RoadKit.slotOf Z "com/example/libgauge/libgauge/netty/ServedSinceMiss" "largest" "I") (.int (-1 : Int32))) := by
    show T5.heap.setIfInBounds x _ = _
    rw [e5, e4, g4, eh1, own_left (hent _), own_set2, own_set2]
  have W6 : Wr s0.heap ((T5.setCell x ((cell'.withEntry s0.cur).setSlot (Jvm.RoadKit.slotOf Z "com/example/libgauge/libgauge/netty/ServedSinceMiss" "largest" "I") (.int (-1 : Int32))).left).setFrames fs).heap x (Jvm.RoadKit.slotOf Z "com/example/libgauge/libgauge/netty/ServedSinceMiss" "largest" "I") (.int (-1 : Int32)) := ⟨cell', u1, by rw [u2]; rfl, g3, e6⟩
  refine ⟨_, _, ?_, hrun, hended, _, _, rfl, ⟨Fr.app (Fr.app (Fr.app (Fr.nil _) f1) (fun y hy => by cases List.mem_singleton.mp hy; exact gx)) N5, Keep.old O (Keep.of_wr W6) (allS gx all0), rfl, Keep.of_wr W6, Unt.wr U0 W6, F1.same W6, F2.other W6 (Or.inr sne)⟩, ⟨_, rfl⟩, hW, hsame.mono (Nat.le_refl _) (Nat.le_refl _)⟩
  show Steps p.tables e below (s₁.setTop (mkL x m 0 #[.val (.ref x), .val (.int n), .unset] [])) _
  rw [← hLS]
  refine XS.aloadN Y0.here hx rfl (hb d_ms_0) l0 rfl ?_
  show Steps p.tables e below (s₁.setTop (mkL x m 1 LS [.ref x])) _
  refine XS.iloadN Y0.here hx rfl (hb d_ms_1) l1 ?_
  refine st2.trans ?_
  show Steps p.tables e below (T2.setTop (mkL x m 5 LS [agV sN sO sA lg n])) _
  rw [hrv, hLS]
  refine XS.astoreN Y2.here hx rfl (hb d_ms_5) rfl rfl (l' := #[.val (.ref x), .val (.int n), .val (.ref rv)]) rfl ?_
  rw [← hLS2]
  show Steps p.tables e below (T2.setTop (mkL x m 6 LS2 [])) _
  refine XS.aloadN Y2.here hx rfl (hb d_ms_6) k0 rfl ?_
  show Steps p.tables e below (T2.setTop (mkL x m 7 LS2 [.ref x])) _
  refine XS.iconst Y2.here hx rfl (hb d_ms_7) ?_
  refine st3 _ ?_
  show Steps p.tables e below (T3.setTop (mkL x m 11 LS2 [])) _
  refine XS.aloadN Y3.here hx rfl (hb d_ms_11) k0 rfl ?_
  refine st4 _ ?_
  show Steps p.tables e below (T4.setTop (mkL x m 15 LS2 [.ref fa])) _
  refine XS.iconst Y4.here hx rfl (hb d_ms_15) ?_
  refine st5 _ ?_
  show Steps p.tables e below (T5.setTop (mkL x m 21 LS2 [])) _
  refine XS.aloadN Y5.here hx rfl (hb d_ms_21) k2 rfl ?_
  show Steps p.tables e below (T5.setTop (mkL x m 22 LS2 [.ref rv])) _
  rw [hrv] at hr
  exact retS Y5 hx Bd.returns rfl (Or.inr (Or.inr (Or.inr (Or.inr ⟨rfl, rfl, rfl⟩)))) (hb d_ms_22) hr
theorem back_missed {p : Program} {e : Env} {R : Room} {s : State} {args : Array Value} {below : List Frame} (l : Launch) (Z : State) (a0 : Array Value) (hw : ∀ d ∈ tables_1, d.before a0 Z = true) (x fa sN sO sA : Addr) (cK : ClassId) (lg n : Int32) {h0 : Heap} (O : Ext Z.heap h0) (SN : Sta Z Z.heap "com/example/libgauge/libgauge/netty/ServedSinceMiss$Served" "NOTHING" "Lcom/example/libgauge/libgauge/netty/ServedSinceMiss$Served;" (.ref sN)) (SO : Sta Z Z.heap "com/example/libgauge/libgauge/netty/ServedSinceMiss$Served" "ONLY_SMALLER" "Lcom/example/libgauge/libgauge/netty/ServedSinceMiss$Served;" (.ref sO)) (SA : Sta Z Z.heap "com/example/libgauge/libgauge/netty/ServedSinceMiss$Served" "AS_LARGE" "Lcom/example/libgauge/libgauge/netty/ServedSinceMiss$Served;" (.ref sA)) (E0 : Exa Z h0 x "com/example/libgauge/libgauge/netty/ServedSinceMiss") (F1 : Fld Z h0 x "com/example/libgauge/libgauge/netty/ServedSinceMiss" "largest" "I" (.int lg)) (F2 : Fld Z h0 x "com/example/libgauge/libgauge/netty/ServedSinceMiss" "largestChanged" "Ljava/util/function/IntConsumer;" (.ref fa)) (gx : Z.heap.size ≤ x) (U0 : Unt h0 x) (Md : LamKit.Made Z "com/example/libgauge/libgauge/netty/ServedSinceMiss" sgm cK) (Fn : LamKit.FnAt Z.heap fa cK) {len W : Nat} (hZ : Z.WarmedH s.vm) (wc : (Jvm.Cond.codeSync ⟨"com/example/libgauge/libgauge/netty/ServedSinceMiss", "missed", "(I)Lcom/example/libgauge/libgauge/netty/ServedSinceMiss$Served;"⟩ prog_23_method_5_code 3 (some (.object "com/example/libgauge/libgauge/netty/ServedSinceMiss$Served"))).before a0 Z = true) (wi : (Jvm.Cond.instanceMethod ⟨"com/example/libgauge/libgauge/netty/ServedSinceMiss", "missed", "(I)Lcom/example/libgauge/libgauge/netty/ServedSinceMiss$Served;"⟩).before a0 Z = true) (wz : (Jvm.Cond.initialized "com/example/libgauge/libgauge/netty/ServedSinceMiss").before a0 Z = true) (hf : rm_missed.frames + 1 ≤ R.frames) (hl : W + (3 + 11) + rm_missed.locals ≤ R.locals) :
    Back l R p e below s args ⟨"com/example/libgauge/libgauge/netty/ServedSinceMiss", "missed", "(I)Lcom/example/libgauge/libgauge/netty/ServedSinceMiss$Served;"⟩ len W (fun A aa => aa = #[.ref x, .int n] ∧ A.U.heap = h0 ∧ A.cells + 0 ≤ R.cells ∧ A.slots + 0 ≤ R.slots)
      (fun A _ v B => ∃ L, (Fr Z.heap.size L ∧ Ext Z.heap B.U.heap ∧ Q_missed Z x fa sN sO sA lg n h0 v B.U.heap) ∧ B.locs = A.locs ++ L ∧ B.cells = A.cells + 0 ∧ B.slots = A.slots + 0) :=
  Jvm.Free.XT.back_of_sync (bytes := prog_23_method_5_code) (maxL := 3) (ret := (some (.object "com/example/libgauge/libgauge/netty/ServedSinceMiss$Served"))) (E := fun _ _ o t L k n' => k = 0 ∧ n' = 0 ∧ ∃ v, o = .returned v ∧ (Fr Z.heap.size L ∧ Ext Z.heap t.heap ∧ Q_missed Z x fa sN sO sA lg n h0 v t.heap)) (met_missed l Z a0 hw x fa sN sO sA cK lg n O SN SO SA E0 F1 F2 gx U0 Md Fn (ws := [Jvm.Cond.instanceMethod ⟨"com/example/libgauge/libgauge/netty/ServedSinceMiss", "missed", "(I)Lcom/example/libgauge/libgauge/netty/ServedSinceMiss$Served;"⟩]) (List.mem_cons_self ..)) hf hl
    (fun m meth c A aa Y hp => have hU : Z.Warmed39 A.U.vm := (State.WarmedH.trans hZ Y.warmed).wide
      ⟨by show (Cond.and _ (Cond.and _ .tt)).before aa A.U = true; rw [Cond.before_and, Cond.before_and, mvT hU wc, mvT hU wi]; rfl, mvT hU wc, mvT hU wz, hp.2.2.1, hp.2.2.2⟩)
    (fun m meth c A aa g mk Y hp => ⟨hp.1, State.WarmedH.trans hZ Y.warmed, hp.2.1⟩)
    (fun _ _ _ _ _ _ _ _ _ => trivial)
    (fun _ _ _ _ ⟨v, L, h1, h2, h3⟩ => ⟨L, 0, 0, h3, rfl, rfl, v, h1, h2⟩)
    (fun m meth c A aa g mk v t L k n' Y hp _ _ ⟨e1, e2, v', e3, e4⟩ => by cases e3; subst e1 e2; exact ⟨L, e4, rfl, rfl, rfl⟩)
theorem own_nn (x : Int32) : ∃ z, (x &&& (2147483647 : Int32)) = z ∧ (-1 : Int32) < z := by
  have e1 := c_and x (2147483647 : Int32) (by decide)
  refine ⟨_, rfl, ?_⟩
  simp only [Int32.lt_iff_toInt_lt, Int32.reduceToInt]; omega
theorem d_ex_0 : decode method_2_code 0 = .ok (.iload_n 0, 1) := by decide +kernel
theorem d_ex_1 : decode method_2_code 1 = .ok (.iconst (-1), 1) := by decide +kernel
theorem d_ex_2 : decode method_2_code 2 = .ok (.if_icmp .ne 7, 3) := by decide +kernel
theorem d_ex_5 : decode method_2_code 5 = .ok (.getstatic 7, 3) := by decide +kernel
theorem d_ex_8 : decode method_2_code 8 = .ok (.areturn, 1) := by decide +kernel
theorem d_ex_9 : decode method_2_code 9 = .ok (.iload_n 0, 1) := by decide +kernel
theorem d_ex_10 : decode method_2_code 10 = .ok (.iload_n 1, 1) := by decide +kernel
theorem d_ex_11 : decode method_2_code 11 = .ok (.if_icmp .ge 7, 3) := by decide +kernel
theorem d_ex_14 : decode method_2_code 14 = .ok (.getstatic 13, 3) := by decide +kernel
theorem d_ex_17 : decode method_2_code 17 = .ok (.areturn, 1) := by decide +kernel
theorem d_ex_18 : decode method_2_code 18 = .ok (.getstatic 16, 3) := by decide +kernel
theorem d_ex_21 : decode method_2_code 21 = .ok (.areturn, 1) := by decide +kernel
abbrev rm_ex : Room := ({ frames := 0, cells := 0, slots := 0, locals := 0 } : Room)
def Q_ex (Z : State) (sN sO sA : Addr) (lg n : Int32) (h0 : Heap) (v : Option Value) (h : Heap) : Prop := v = some (agV sN sO sA lg n) ∧ h = h0
set_option maxRecDepth 65536 in
set_option maxHeartbeats 40000000 in
theorem ct_ex (l : Launch) (Z : State) (a0 : Array Value) (hw : ∀ d ∈ tables_1, d.before a0 Z = true)  (sN sO sA : Addr) (lg n : Int32) {h0 : Heap} (O : Ext Z.heap h0) (SN : Sta Z Z.heap "com/example/libgauge/libgauge/netty/ServedSinceMiss$Served" "NOTHING" "Lcom/example/libgauge/libgauge/netty/ServedSinceMiss$Served;" (.ref sN)) (SO : Sta Z Z.heap "com/example/libgauge/libgauge/netty/ServedSinceMiss$Served" "ONLY_SMALLER" "Lcom/example/libgauge/libgauge/netty/ServedSinceMiss$Served;" (.ref sO)) (SA : Sta Z Z.heap "com/example/libgauge/libgauge/netty/ServedSinceMiss$Served" "AS_LARGE" "Lcom/example/libgauge/libgauge/netty/ServedSinceMiss$Served;" (.ref sA)) : Ct l Z (⟨"com/example/libgauge/libgauge/netty/ServedSinceMissServedPinLaw", "expect", "(II)Lcom/example/libgauge/libgauge/netty/ServedSinceMiss$Served;"⟩ : MethodName) method_2_code 2 (some (.object "com/example/libgauge/libgauge/netty/ServedSinceMiss$Served")) rm_ex #[(.int lg), (.int n)] h0 (Q_ex Z sN sO sA lg n h0) := by
  refine Ct.of_body (Ls := #[.val (.int lg), .val (.int n)]) (by decide +kernel) O (fun m => by first | (simp [entryFrame, mkF, argsToLocals, Value.category]; done) | rfl | (rcases ref_cases (Sts.ref OS) with rfl | ⟨r, rfl⟩ <;> rfl)) ?_
  intro p e s m below meth c T0 X0 e0
  subst e0
  refine E_iloadN X0 d_ex_0 rfl (pc' := 1) rfl ?_
  refine E_iconst X0 (v := (-1 : Int32)) d_ex_1 rfl (pc' := 2) rfl ?_
  by_cases q7 : lg = (-1 : Int32)
  · skip
    refine E_icF X0 d_ex_2 (XT.ii_ne_f q7) (pc' := 5) rfl ?_
    refine E_getstatic X0 d_ex_5 (hw _ (List.mem_of_getElem? (i := 24) rfl)) Via.refl SN (pc' := 8) rfl ?_
    intro T1 X2 e3
    exact E_areturn X2 (t := (.object "com/example/libgauge/libgauge/netty/ServedSinceMiss$Served")) d_ex_8 rfl rfl rfl rfl (by decide) (by decide) (⟨by rw [agV, if_pos q7], e3⟩)
  · skip
    refine E_icT X0 d_ex_2 (XT.ii_ne_t q7) (pc' := 9) (by decide) rfl ?_
    refine E_iloadN X0 d_ex_9 rfl (pc' := 10) rfl ?_
    refine E_iloadN X0 d_ex_10 rfl (pc' := 11) rfl ?_
    by_cases q16 : lg < n
    · skip
      refine E_icF X0 d_ex_11 (XT.ii_ge_f q16) (pc' := 14) rfl ?_
      refine E_getstatic X0 d_ex_14 (hw _ (List.mem_of_getElem? (i := 49) rfl)) Via.refl SO (pc' := 17) rfl ?_
      intro T4 X5 e6
      exact E_areturn X5 (t := (.object "com/example/libgauge/libgauge/netty/ServedSinceMiss$Served")) d_ex_17 rfl rfl rfl rfl (by decide) (by decide) (⟨by rw [agV, if_neg q7, if_pos q16], e6⟩)
    · skip
      refine E_icT X0 d_ex_11 (XT.ii_ge_t q16) (pc' := 18) (by decide) rfl ?_
      refine E_getstatic X0 d_ex_18 (hw _ (List.mem_of_getElem? (i := 52) rfl)) Via.refl SA (pc' := 21) rfl ?_
      intro T7 X8 e9
      exact E_areturn X8 (t := (.object "com/example/libgauge/libgauge/netty/ServedSinceMiss$Served")) d_ex_21 rfl rfl rfl rfl (by decide) (by decide) (⟨by rw [agV, if_neg q7, if_neg q16], e9⟩)
set_option maxRecDepth 65536 in
set_option maxHeartbeats 40000000 in
theorem sg_lawB (l : Launch) (Z : State) (a0 : Array Value) (hw : ∀ d ∈ tables_1, d.before a0 Z = true) (p0 p1 p2 p3 p4 : Int32) (sN sO sA : Addr) (SN : Sta Z Z.heap "com/example/libgauge/libgauge/netty/ServedSinceMiss$Served" "NOTHING" "Lcom/example/libgauge/libgauge/netty/ServedSinceMiss$Served;" (.ref sN)) (SO : Sta Z Z.heap "com/example/libgauge/libgauge/netty/ServedSinceMiss$Served" "ONLY_SMALLER" "Lcom/example/libgauge/libgauge/netty/ServedSinceMiss$Served;" (.ref sO)) (SA : Sta Z Z.heap "com/example/libgauge/libgauge/netty/ServedSinceMiss$Served" "AS_LARGE" "Lcom/example/libgauge/libgauge/netty/ServedSinceMiss$Served;" (.ref sA)) {p : Program} {e : Env} {s : State} {m : MethodId} {below : List Frame} {meth : Method} {c : Code} : ∀ {T0 : State} (s5 s6 s7 f8 f9 f10 mm : Int32) (x fa : Addr) (cK : ClassId), Wk l Z ({ frames := 6, cells := 16, slots := 128, locals := 3216 } : Room) code 19 (some .boolean) "com/example/libgauge/libgauge/netty/ServedSinceMissServedPinLaw" "law" p e s m #[(.int p0), (.int p1), (.int p2), (.int p3), (.int p4)] below meth c T0 2 20 → ((-1 : Int32) < s7) → (Exa Z T0.heap x "com/example/libgauge/libgauge/netty/ServedSinceMiss") → (Fld Z T0.heap x "com/example/libgauge/libgauge/netty/ServedSinceMiss" "largest" "I" (.int mm)) → (Fld Z T0.heap x "com/example/libgauge/libgauge/netty/ServedSinceMiss" "largestChanged" "Ljava/util/function/IntConsumer;" (.ref fa)) → (Z.heap.size ≤ x) → (Unt T0.heap x) → (LamKit.Made Z "com/example/libgauge/libgauge/netty/ServedSinceMiss" sgm cK) → (LamKit.FnAt Z.heap fa cK) → Ends p e below s Z (fun v _ => v = some (.int 1)) 16 128 T0 (mkF m 121 #[.val (.int p0), .val (.int p1), .val (.int p2), .val (.int p3), .val (.int p4), .val (.int s5), .val (.int s6), .val (.int s7), .val (.int f8), .val (.int f9), .val (.int f10), .val (.ref x), .val (.int mm), .unset, .unset, .unset, .unset, .unset, .unset] []) := by
  intro T0 s5 s6 s7 f8 f9 f10 mm x fa cK X0 h7 E0 F1 F2 gx U0 Md Fn
  refine E_iload X0 at_121 rfl (pc' := 123) rfl ?_
  refine E_iloadN X0 at_123 rfl (pc' := 124) rfl ?_
  refine E_static X0 (rm := rm_ex) at_124 (hw _ (List.mem_of_getElem? (i := 20) rfl)) (hw _ (List.mem_of_getElem? (i := 21) rfl)) (hw _ (List.mem_of_getElem? (i := 22) rfl)) (hw _ (List.mem_of_getElem? (i := 23) rfl)) (by decide) (argsL := [(.int mm), (.int p3)]) (st := []) rfl (ct_ex l Z a0 hw sN sO sA mm p3 X0.old SN SO SA) (lenOf (pd_3) rfl) rfl (by decide) (by decide) (by decide) (Nat.le_of_ble_eq_true rfl)  (pc' := 127) rfl ?_
  intro T1 _ X2 hQ3
  obtain ⟨hv4, e5⟩ := hQ3
  rw [← e5] at E0 F1 F2 U0
  obtain ⟨rv6, hr7⟩ := agV_ref sN sO sA mm p3
  rw [hr7] at hv4
  subst hv4
  show Ends p e below s Z _ _ _ T1 (mkF m 127 #[.val (.int p0), .val (.int p1), .val (.int p2), .val (.int p3), .val (.int p4), .val (.int s5), .val (.int s6), .val (.int s7), .val (.int f8), .val (.int f9), .val (.int f10), .val (.ref x), .val (.int mm), .unset, .unset, .unset, .unset, .unset, .unset] [(.ref rv6)])
  refine E_astore X2 at_127 rfl (l' := #[.val (.int p0), .val (.int p1), .val (.int p2), .val (.int p3), .val (.int p4), .val (.int s5), .val (.int s6), .val (.int s7), .val (.int f8), .val (.int f9), .val (.int f10), .val (.ref x), .val (.int mm), .val (.ref rv6), .unset, .unset, .unset, .unset, .unset]) rfl (pc' := 129) rfl ?_
  refine E_aload X2 at_129 rfl rfl (pc' := 131) rfl ?_
  refine E_iloadN X2 at_131 rfl (pc' := 132) rfl ?_
  refine E_virtual X2 (rm := rm_ag) (a := x) (D := "com/example/libgauge/libgauge/netty/ServedSinceMiss") at_132 (hw _ (List.mem_of_getElem? (i := 27) rfl)) (hw _ (List.mem_of_getElem? (i := 28) rfl)) (hw _ (List.mem_of_getElem? (i := 30) rfl)) (hw _ (List.mem_of_getElem? (i := 29) rfl)) (notFace_of_selects (args := #[]) (mvT X2.hZ (hw _ (List.mem_of_getElem? (i := 30) rfl)))) (by decide) E0 (hw _ (List.mem_of_getElem? (i := 3) rfl)) (hw _ (List.mem_of_getElem? (i := 31) rfl)) (argsL := [(.int p3)]) (st := []) rfl (ct_ag l Z a0 hw x sN sO sA mm p3 X2.old SN SO SA F1) (lenOf (pd_2) rfl) rfl (by decide) (by decide) (by decide) (Nat.le_of_ble_eq_true rfl)  (pc' := 135) rfl ?_
  intro T8 _ X9 hQ10
  obtain ⟨hv11, e12⟩ := hQ10
  rw [← e12] at E0 F1 F2 U0
  rw [hr7] at hv11
  subst hv11
  show Ends p e below s Z _ _ _ T8 (mkF m 135 #[.val (.int p0), .val (.int p1), .val (.int p2), .val (.int p3), .val (.int p4), .val (.int s5), .val (.int s6), .val (.int s7), .val (.int f8), .val (.int f9), .val (.int f10), .val (.ref x), .val (.int mm), .val (.ref rv6), .unset, .unset, .unset, .unset, .unset] [(.ref rv6)])
  refine E_astore X9 at_135 rfl (l' := #[.val (.int p0), .val (.int p1), .val (.int p2), .val (.int p3), .val (.int p4), .val (.int s5), .val (.int s6), .val (.int s7), .val (.int f8), .val (.int f9), .val (.int f10), .val (.ref x), .val (.int mm), .val (.ref rv6), .val (.ref rv6), .unset, .unset, .unset, .unset]) rfl (pc' := 137) rfl ?_
  refine E_aload X9 at_137 rfl rfl (pc' := 139) rfl ?_
  refine E_iloadN X9 at_139 rfl (pc' := 140) rfl ?_
  refine E_virtualB X9 (rC := 0) (rS := 0) (Q' := Q_missed Z x fa sN sO sA mm p3 _) (a := x) (D := "com/example/libgauge/libgauge/netty/ServedSinceMiss") at_140 (hw _ (List.mem_of_getElem? (i := 33) rfl)) (hw _ (List.mem_of_getElem? (i := 34) rfl)) (hw _ (List.mem_of_getElem? (i := 36) rfl)) (hw _ (List.mem_of_getElem? (i := 35) rfl)) (notFace_of_selects (args := #[]) (mvT X9.hZ (hw _ (List.mem_of_getElem? (i := 36) rfl)))) (by decide) E0  (argsL := [(.int p3)]) (st := []) rfl (back_missed l Z a0 hw x fa sN sO sA cK mm p3 X9.old SN SO SA E0 F1 F2 gx U0 Md Fn X9.hH (hw _ (List.mem_of_getElem? (i := 37) rfl)) (hw _ (List.mem_of_getElem? (i := 35) rfl)) (hw _ (List.mem_of_getElem? (i := 3) rfl)) (by decide) (Nat.le_of_ble_eq_true rfl)) (fun _ _ _ q => q) (lenOf (pd_2) rfl) rfl (by decide) (by decide)  (pc' := 143) rfl ?_
  intro T13 _ X14 hQ15
  obtain ⟨hv16, K17, U18, G19, G20⟩ := hQ15
  have Exa_21 := E0.keep K17
  rw [hr7] at hv16
  subst hv16
  show Ends p e below s Z _ _ _ T13 (mkF m 143 #[.val (.int p0), .val (.int p1), .val (.int p2), .val (.int p3), .val (.int p4), .val (.int s5), .val (.int s6), .val (.int s7), .val (.int f8), .val (.int f9), .val (.int f10), .val (.ref x), .val (.int mm), .val (.ref rv6), .val (.ref rv6), .unset, .unset, .unset, .unset] [(.ref rv6)])
  refine E_astore X14 at_143 rfl (l' := #[.val (.int p0), .val (.int p1), .val (.int p2), .val (.int p3), .val (.int p4), .val (.int s5), .val (.int s6), .val (.int s7), .val (.int f8), .val (.int f9), .val (.int f10), .val (.ref x), .val (.int mm), .val (.ref rv6), .val (.ref rv6), .val (.ref rv6), .unset, .unset, .unset]) rfl (pc' := 145) rfl ?_
  refine E_iload X14 at_145 rfl (pc' := 147) rfl ?_
  by_cases h147 : f10 = 0
  · skip
    refine E_ifT X14 at_147 (XT.i0_eq_t h147) (pc' := 157) (by decide) rfl ?_
    refine E_iconst X14 (v := (-1 : Int32)) at_157 rfl (pc' := 158) rfl ?_
    refine E_istore X14 at_158 (l' := #[.val (.int p0), .val (.int p1), .val (.int p2), .val (.int p3), .val (.int p4), .val (.int s5), .val (.int s6), .val (.int s7), .val (.int f8), .val (.int f9), .val (.int f10), .val (.ref x), .val (.int mm), .val (.ref rv6), .val (.ref rv6), .val (.ref rv6), .val (.int (-1 : Int32)), .unset, .unset]) rfl (pc' := 160) rfl ?_
    refine E_iload X14 at_160 rfl (pc' := 162) rfl ?_
    refine E_ifT X14 at_162 (XT.i0_eq_t h147) (pc' := 169) (by decide) rfl ?_
    refine E_iload X14 at_169 rfl (pc' := 171) rfl ?_
    refine E_iloadN X14 at_171 rfl (pc' := 172) rfl ?_
    refine E_static X14 (rm := rm_ex) at_172 (hw _ (List.mem_of_getElem? (i := 20) rfl)) (hw _ (List.mem_of_getElem? (i := 21) rfl)) (hw _ (List.mem_of_getElem? (i := 22) rfl)) (hw _ (List.mem_of_getElem? (i := 23) rfl)) (by decide) (argsL := [(.int (-1 : Int32)), (.int p3)]) (st := []) rfl (ct_ex l Z a0 hw sN sO sA (-1 : Int32) p3 X14.old SN SO SA) (lenOf (pd_3) rfl) rfl (by decide) (by decide) (by decide) (Nat.le_of_ble_eq_true rfl)  (pc' := 175) rfl ?_
    intro T22 _ X23 hQ24
    obtain ⟨hv25, e26⟩ := hQ24
    rw [← e26] at Exa_21 U18 G19 G20
    obtain ⟨rv27, hr28⟩ := agV_ref sN sO sA (-1 : Int32) p3
    rw [hr28] at hv25
    subst hv25
    show Ends p e below s Z _ _ _ T22 (mkF m 175 #[.val (.int p0), .val (.int p1), .val (.int p2), .val (.int p3), .val (.int p4), .val (.int s5), .val (.int s6), .val (.int s7), .val (.int f8), .val (.int f9), .val (.int f10), .val (.ref x), .val (.int mm), .val (.ref rv6), .val (.ref rv6), .val (.ref rv6), .val (.int (-1 : Int32)), .unset, .unset] [(.ref rv27)])
    refine E_astore X23 at_175 rfl (l' := #[.val (.int p0), .val (.int p1), .val (.int p2), .val (.int p3), .val (.int p4), .val (.int s5), .val (.int s6), .val (.int s7), .val (.int f8), .val (.int f9), .val (.int f10), .val (.ref x), .val (.int mm), .val (.ref rv6), .val (.ref rv6), .val (.ref rv6), .val (.int (-1 : Int32)), .val (.ref rv27), .unset]) rfl (pc' := 177) rfl ?_
    refine E_aload X23 at_177 rfl rfl (pc' := 179) rfl ?_
    refine E_iloadN X23 at_179 rfl (pc' := 180) rfl ?_
    refine E_virtual X23 (rm := rm_ag) (a := x) (D := "com/example/libgauge/libgauge/netty/ServedSinceMiss") at_180 (hw _ (List.mem_of_getElem? (i := 27) rfl)) (hw _ (List.mem_of_getElem? (i := 28) rfl)) (hw _ (List.mem_of_getElem? (i := 30) rfl)) (hw _ (List.mem_of_getElem? (i := 29) rfl)) (notFace_of_selects (args := #[]) (mvT X23.hZ (hw _ (List.mem_of_getElem? (i := 30) rfl)))) (by decide) Exa_21 (hw _ (List.mem_of_getElem? (i := 3) rfl)) (hw _ (List.mem_of_getElem? (i := 31) rfl)) (argsL := [(.int p3)]) (st := []) rfl (ct_ag l Z a0 hw x sN sO sA (-1 : Int32) p3 X23.old SN SO SA G19) (lenOf (pd_2) rfl) rfl (by decide) (by decide) (by decide) (Nat.le_of_ble_eq_true rfl)  (pc' := 183) rfl ?_
    intro T29 _ X30 hQ31
    obtain ⟨hv32, e33⟩ := hQ31
    rw [← e33] at Exa_21 U18 G19 G20
    rw [hr28] at hv32
    subst hv32
    show Ends p e below s Z _ _ _ T29 (mkF m 183 #[.val (.int p0), .val (.int p1), .val (.int p2), .val (.int p3), .val (.int p4), .val (.int s5), .val (.int s6), .val (.int s7), .val (.int f8), .val (.int f9), .val (.int f10), .val (.ref x), .val (.int mm), .val (.ref rv6), .val (.ref rv6), .val (.ref rv6), .val (.int (-1 : Int32)), .val (.ref rv27), .unset] [(.ref rv27)])
    refine E_astore X30 at_183 rfl (l' := #[.val (.int p0), .val (.int p1), .val (.int p2), .val (.int p3), .val (.int p4), .val (.int s5), .val (.int s6), .val (.int s7), .val (.int f8), .val (.int f9), .val (.int f10), .val (.ref x), .val (.int mm), .val (.ref rv6), .val (.ref rv6), .val (.ref rv6), .val (.int (-1 : Int32)), .val (.ref rv27), .val (.ref rv27)]) rfl (pc' := 185) rfl ?_
    refine E_aload X30 at_185 rfl rfl (pc' := 187) rfl ?_
    refine E_aload X30 at_187 rfl rfl (pc' := 189) rfl ?_
    refine E_acmp X30 at_189 rfl rfl true (decide_eq_true rfl) (pc' := 192) (by decide) rfl ?_
    refine E_aload X30 at_192 rfl rfl (pc' := 194) rfl ?_
    refine E_aload X30 at_194 rfl rfl (pc' := 196) rfl ?_
    refine E_acmp X30 at_196 rfl rfl true (decide_eq_true rfl) (pc' := 199) (by decide) rfl ?_
    refine E_aload X30 at_199 rfl rfl (pc' := 201) rfl ?_
    refine E_aload X30 at_201 rfl rfl (pc' := 203) rfl ?_
    refine E_acmp X30 at_203 rfl rfl true (decide_eq_true rfl) (pc' := 206) (by decide) rfl ?_
    refine E_iconst X30 (v := (1 : Int32)) at_206 rfl (pc' := 207) rfl ?_
    refine E_goto X30 at_207 (pc' := 211) (by decide) rfl ?_
    exact E_ireturnN X30 (t := .boolean) at_211 rfl (by simp) (by decide) (by decide) (rfl)
  · skip
    refine E_ifF X14 at_147 (XT.i0_eq_f h147) (pc' := 150) rfl ?_
    refine E_aload X14 at_150 rfl rfl (pc' := 152) rfl ?_
    refine E_iload X14 at_152 rfl (pc' := 154) rfl ?_
    refine E_virtualB X14 (rC := 0) (rS := 0) (Q' := Q_served Z x fa (-1 : Int32) s7 _) (a := x) (D := "com/example/libgauge/libgauge/netty/ServedSinceMiss") at_154 (hw _ (List.mem_of_getElem? (i := 44) rfl)) (hw _ (List.mem_of_getElem? (i := 45) rfl)) (hw _ (List.mem_of_getElem? (i := 47) rfl)) (hw _ (List.mem_of_getElem? (i := 46) rfl)) (notFace_of_selects (args := #[]) (mvT X14.hZ (hw _ (List.mem_of_getElem? (i := 47) rfl)))) (by decide) Exa_21  (argsL := [(.int s7)]) (st := []) rfl ((ct_served l Z a0 hw x fa cK (-1 : Int32) s7 X14.old Exa_21 G19 G20 gx U18 Md Fn).back (mL' := 4) X14.hH (hw _ (List.mem_of_getElem? (i := 48) rfl)) (hw _ (List.mem_of_getElem? (i := 3) rfl)) (by decide) (Nat.le_of_ble_eq_true rfl)) (fun _ _ _ q => q) (lenOf (pd_1) rfl) rfl (by decide) (by decide)  (pc' := 157) rfl ?_
    intro T34 _ X35 hQ36
    obtain ⟨rfl, K37, U38, G39, G40⟩ := hQ36
    have Exa_41 := Exa_21.keep K37
    rw [if_pos h7] at G39
    show Ends p e below s Z _ _ _ T34 (mkF m 157 #[.val (.int p0), .val (.int p1), .val (.int p2), .val (.int p3), .val (.int p4), .val (.int s5), .val (.int s6), .val (.int s7), .val (.int f8), .val (.int f9), .val (.int f10), .val (.ref x), .val (.int mm), .val (.ref rv6), .val (.ref rv6), .val (.ref rv6), .unset, .unset, .unset] [])
    refine E_iconst X35 (v := (-1 : Int32)) at_157 rfl (pc' := 158) rfl ?_
    refine E_istore X35 at_158 (l' := #[.val (.int p0), .val (.int p1), .val (.int p2), .val (.int p3), .val (.int p4), .val (.int s5), .val (.int s6), .val (.int s7), .val (.int f8), .val (.int f9), .val (.int f10), .val (.ref x), .val (.int mm), .val (.ref rv6), .val (.ref rv6), .val (.ref rv6), .val (.int (-1 : Int32)), .unset, .unset]) rfl (pc' := 160) rfl ?_
    refine E_iload X35 at_160 rfl (pc' := 162) rfl ?_
    refine E_ifF X35 at_162 (XT.i0_eq_f h147) (pc' := 165) rfl ?_
    refine E_iload X35 at_165 rfl (pc' := 167) rfl ?_
    refine E_istore X35 at_167 (l' := #[.val (.int p0), .val (.int p1), .val (.int p2), .val (.int p3), .val (.int p4), .val (.int s5), .val (.int s6), .val (.int s7), .val (.int f8), .val (.int f9), .val (.int f10), .val (.ref x), .val (.int mm), .val (.ref rv6), .val (.ref rv6), .val (.ref rv6), .val (.int s7), .unset, .unset]) rfl (pc' := 169) rfl ?_
    refine E_iload X35 at_169 rfl (pc' := 171) rfl ?_
    refine E_iloadN X35 at_171 rfl (pc' := 172) rfl ?_
    refine E_static X35 (rm := rm_ex) at_172 (hw _ (List.mem_of_getElem? (i := 20) rfl)) (hw _ (List.mem_of_getElem? (i := 21) rfl)) (hw _ (List.mem_of_getElem? (i := 22) rfl)) (hw _ (List.mem_of_getElem? (i := 23) rfl)) (by decide) (argsL := [(.int s7), (.int p3)]) (st := []) rfl (ct_ex l Z a0 hw sN sO sA s7 p3 X35.old SN SO SA) (lenOf (pd_3) rfl) rfl (by decide) (by decide) (by decide) (Nat.le_of_ble_eq_true rfl)  (pc' := 175) rfl ?_
    intro T42 _ X43 hQ44
    obtain ⟨hv45, e46⟩ := hQ44
    rw [← e46] at Exa_41 U38 G39 G40
    obtain ⟨rv47, hr48⟩ := agV_ref sN sO sA s7 p3
    rw [hr48] at hv45
    subst hv45
    show Ends p e below s Z _ _ _ T42 (mkF m 175 #[.val (.int p0), .val (.int p1), .val (.int p2), .val (.int p3), .val (.int p4), .val (.int s5), .val (.int s6), .val (.int s7), .val (.int f8), .val (.int f9), .val (.int f10), .val (.ref x), .val (.int mm), .val (.ref rv6), .val (.ref rv6), .val (.ref rv6), .val (.int s7), .unset, .unset] [(.ref rv47)])
    refine E_astore X43 at_175 rfl (l' := #[.val (.int p0), .val (.int p1), .val (.int p2), .val (.int p3), .val (.int p4), .val (.int s5), .val (.int s6), .val (.int s7), .val (.int f8), .val (.int f9), .val (.int f10), .val (.ref x), .val (.int mm), .val (.ref rv6), .val (.ref rv6), .val (.ref rv6), .val (.int s7), .val (.ref rv47), .unset]) rfl (pc' := 177) rfl ?_
    refine E_aload X43 at_177 rfl rfl (pc' := 179) rfl ?_
    refine E_iloadN X43 at_179 rfl (pc' := 180) rfl ?_
    refine E_virtual X43 (rm := rm_ag) (a := x) (D := "com/example/libgauge/libgauge/netty/ServedSinceMiss") at_180 (hw _ (List.mem_of_getElem? (i := 27) rfl)) (hw _ (List.mem_of_getElem? (i := 28) rfl)) (hw _ (List.mem_of_getElem? (i := 30) rfl)) (hw _ (List.mem_of_getElem? (i := 29) rfl)) (notFace_of_selects (args := #[]) (mvT X43.hZ (hw _ (List.mem_of_getElem? (i := 30) rfl)))) (by decide) Exa_41 (hw _ (List.mem_of_getElem? (i := 3) rfl)) (hw _ (List.mem_of_getElem? (i := 31) rfl)) (argsL := [(.int p3)]) (st := []) rfl (ct_ag l Z a0 hw x sN sO sA s7 p3 X43.old SN SO SA G39) (lenOf (pd_2) rfl) rfl (by decide) (by decide) (by decide) (Nat.le_of_ble_eq_true rfl)  (pc' := 183) rfl ?_
    intro T49 _ X50 hQ51
    obtain ⟨hv52, e53⟩ := hQ51
    rw [← e53] at Exa_41 U38 G39 G40
    rw [hr48] at hv52
    subst hv52
    show Ends p e below s Z _ _ _ T49 (mkF m 183 #[.val (.int p0), .val (.int p1), .val (.int p2), .val (.int p3), .val (.int p4), .val (.int s5), .val (.int s6), .val (.int s7), .val (.int f8), .val (.int f9), .val (.int f10), .val (.ref x), .val (.int mm), .val (.ref rv6), .val (.ref rv6), .val (.ref rv6), .val (.int s7), .val (.ref rv47), .unset] [(.ref rv47)])
    refine E_astore X50 at_183 rfl (l' := #[.val (.int p0), .val (.int p1), .val (.int p2), .val (.int p3), .val (.int p4), .val (.int s5), .val (.int s6), .val (.int s7), .val (.int f8), .val (.int f9), .val (.int f10), .val (.ref x), .val (.int mm), .val (.ref rv6), .val (.ref rv6), .val (.ref rv6), .val (.int s7), .val (.ref rv47), .val (.ref rv47)]) rfl (pc' := 185) rfl ?_
    refine E_aload X50 at_185 rfl rfl (pc' := 187) rfl ?_
    refine E_aload X50 at_187 rfl rfl (pc' := 189) rfl ?_
    refine E_acmp X50 at_189 rfl rfl true (decide_eq_true rfl) (pc' := 192) (by decide) rfl ?_
    refine E_aload X50 at_192 rfl rfl (pc' := 194) rfl ?_
    refine E_aload X50 at_194 rfl rfl (pc' := 196) rfl ?_
    refine E_acmp X50 at_196 rfl rfl true (decide_eq_true rfl) (pc' := 199) (by decide) rfl ?_
    refine E_aload X50 at_199 rfl rfl (pc' := 201) rfl ?_
    refine E_aload X50 at_201 rfl rfl (pc' := 203) rfl ?_
    refine E_acmp X50 at_203 rfl rfl true (decide_eq_true rfl) (pc' := 206) (by decide) rfl ?_
    refine E_iconst X50 (v := (1 : Int32)) at_206 rfl (pc' := 207) rfl ?_
    refine E_goto X50 at_207 (pc' := 211) (by decide) rfl ?_
    exact E_ireturnN X50 (t := .boolean) at_211 rfl (by simp) (by decide) (by decide) (rfl)
set_option maxRecDepth 65536 in
set_option maxHeartbeats 40000000 in
theorem sg_lawA (l : Launch) (Z : State) (a0 : Array Value) (hw : ∀ d ∈ tables_1, d.before a0 Z = true) (p0 p1 p2 p3 p4 : Int32) (sN sO sA : Addr) (SN : Sta Z Z.heap "com/example/libgauge/libgauge/netty/ServedSinceMiss$Served" "NOTHING" "Lcom/example/libgauge/libgauge/netty/ServedSinceMiss$Served;" (.ref sN)) (SO : Sta Z Z.heap "com/example/libgauge/libgauge/netty/ServedSinceMiss$Served" "ONLY_SMALLER" "Lcom/example/libgauge/libgauge/netty/ServedSinceMiss$Served;" (.ref sO)) (SA : Sta Z Z.heap "com/example/libgauge/libgauge/netty/ServedSinceMiss$Served" "AS_LARGE" "Lcom/example/libgauge/libgauge/netty/ServedSinceMiss$Served;" (.ref sA)) {p : Program} {e : Env} {s : State} {m : MethodId} {below : List Frame} {meth : Method} {c : Code} : ∀ {T0 : State} (s5 s6 s7 f8 f9 f10 : Int32), Wk l Z ({ frames := 6, cells := 16, slots := 128, locals := 3216 } : Room) code 19 (some .boolean) "com/example/libgauge/libgauge/netty/ServedSinceMissServedPinLaw" "law" p e s m #[(.int p0), (.int p1), (.int p2), (.int p3), (.int p4)] below meth c T0 0 0 → ((-1 : Int32) < s5) → ((-1 : Int32) < s6) → ((-1 : Int32) < s7) → Ends p e below s Z (fun v _ => v = some (.int 1)) 16 128 T0 (mkF m 60 #[.val (.int p0), .val (.int p1), .val (.int p2), .val (.int p3), .val (.int p4), .val (.int s5), .val (.int s6), .val (.int s7), .val (.int f8), .val (.int f9), .val (.int f10), .unset, .unset, .unset, .unset, .unset, .unset, .unset, .unset] []) := by
  intro T0 s5 s6 s7 f8 f9 f10 X0 h5 h6 h7
  refine E_newU X0 at_60 (hw _ (List.mem_of_getElem? (i := 1) rfl)) (hw _ (List.mem_of_getElem? (i := 2) rfl)) (hw _ (List.mem_of_getElem? (i := 3) rfl)) (by decide) (by decide) (pc' := 63) rfl ?_
  intro T1 b3 X2 hb4 K5 E6 D7 Un8
  have g9 : Z.heap.size ≤ b3 := Nat.le_trans X0.le (Nat.le_of_eq hb4.symm)
  have F10 : Fld Z T1.heap b3 "com/example/libgauge/libgauge/netty/ServedSinceMiss" "largest" "I" (.int (0 : Int32)) := D7 (Or.inl (hw _ (List.mem_of_getElem? (i := 17) rfl))) (ty := .int) (by decide)
  have F11 : Fld Z T1.heap b3 "com/example/libgauge/libgauge/netty/ServedSinceMiss" "largestChanged" "Ljava/util/function/IntConsumer;" .null := D7 (Or.inr (hw _ (List.mem_of_getElem? (i := 19) rfl))) (ty := (.object "java/util/function/IntConsumer")) (by decide)
  refine E_dup X2 at_63 rfl (pc' := 64) rfl ?_
  refine E_special X2 (rm := rm_init0) (a := b3) at_64 rfl rfl (hw _ (List.mem_of_getElem? (i := 4) rfl)) (hw _ (List.mem_of_getElem? (i := 5) rfl)) (hw _ (List.mem_of_getElem? (i := 6) rfl)) (by decide) (hw _ (List.mem_of_getElem? (i := 3) rfl)) (argsL := []) (st := [(.ref b3)]) rfl (ct_init0 l Z a0 hw b3 X2.old E6 F10 F11 g9 Un8) (lenOf (pd_4) rfl) rfl (by decide) (by decide) (by decide) (Nat.le_of_ble_eq_true rfl)  (pc' := 67) rfl ?_
  intro T12 _ X13 hQ14
  obtain ⟨rfl, K15, U1, G1, fa, cK, Md, Fn, G2⟩ := hQ14
  have Exa_16 := E6.keep K15
  show Ends p e below s Z _ _ _ T12 (mkF m 67 #[.val (.int p0), .val (.int p1), .val (.int p2), .val (.int p3), .val (.int p4), .val (.int s5), .val (.int s6), .val (.int s7), .val (.int f8), .val (.int f9), .val (.int f10), .unset, .unset, .unset, .unset, .unset, .unset, .unset, .unset] [(.ref b3)])
  refine E_astore X13 at_67 rfl (l' := #[.val (.int p0), .val (.int p1), .val (.int p2), .val (.int p3), .val (.int p4), .val (.int s5), .val (.int s6), .val (.int s7), .val (.int f8), .val (.int f9), .val (.int f10), .val (.ref b3), .unset, .unset, .unset, .unset, .unset, .unset, .unset]) rfl (pc' := 69) rfl ?_
  refine E_iload X13 at_69 rfl (pc' := 71) rfl ?_
  by_cases e71 : f8 = 0
  · skip
    refine E_ifT X13 at_71 (XT.i0_eq_t e71) (pc' := 81) (by decide) rfl ?_
    refine E_iload X13 at_81 rfl (pc' := 83) rfl ?_
    by_cases e83 : f9 = 0
    · skip
      refine E_ifT X13 at_83 (XT.i0_eq_t e83) (pc' := 93) (by decide) rfl ?_
      refine E_iconst X13 (v := (-1 : Int32)) at_93 rfl (pc' := 94) rfl ?_
      refine E_istore X13 at_94 (l' := #[.val (.int p0), .val (.int p1), .val (.int p2), .val (.int p3), .val (.int p4), .val (.int s5), .val (.int s6), .val (.int s7), .val (.int f8), .val (.int f9), .val (.int f10), .val (.ref b3), .val (.int (-1 : Int32)), .unset, .unset, .unset, .unset, .unset, .unset]) rfl (pc' := 96) rfl ?_
      refine E_iload X13 at_96 rfl (pc' := 98) rfl ?_
      refine E_ifT X13 at_98 (XT.i0_eq_t e71) (pc' := 105) (by decide) rfl ?_
      refine E_iload X13 at_105 rfl (pc' := 107) rfl ?_
      refine E_ifT X13 at_107 (XT.i0_eq_t e83) (pc' := 121) (by decide) rfl ?_
      exact sg_lawB l Z a0 hw p0 p1 p2 p3 p4 sN sO sA SN SO SA s5 s6 s7 f8 f9 f10 (-1 : Int32) b3 fa cK (X13.more (Nat.le_of_ble_eq_true rfl) (Nat.le_of_ble_eq_true rfl)) h7 Exa_16 G1 G2 g9 U1 Md Fn
    · skip
      refine E_ifF X13 at_83 (XT.i0_eq_f e83) (pc' := 86) rfl ?_
      refine E_aload X13 at_86 rfl rfl (pc' := 88) rfl ?_
      refine E_iload X13 at_88 rfl (pc' := 90) rfl ?_
      refine E_virtualB X13 (rC := 0) (rS := 0) (Q' := Q_served Z b3 fa (-1 : Int32) s6 _) (a := b3) (D := "com/example/libgauge/libgauge/netty/ServedSinceMiss") at_90 (hw _ (List.mem_of_getElem? (i := 44) rfl)) (hw _ (List.mem_of_getElem? (i := 45) rfl)) (hw _ (List.mem_of_getElem? (i := 47) rfl)) (hw _ (List.mem_of_getElem? (i := 46) rfl)) (notFace_of_selects (args := #[]) (mvT X13.hZ (hw _ (List.mem_of_getElem? (i := 47) rfl)))) (by decide) Exa_16  (argsL := [(.int s6)]) (st := []) rfl ((ct_served l Z a0 hw b3 fa cK (-1 : Int32) s6 X13.old Exa_16 G1 G2 g9 U1 Md Fn).back (mL' := 4) X13.hH (hw _ (List.mem_of_getElem? (i := 48) rfl)) (hw _ (List.mem_of_getElem? (i := 3) rfl)) (by decide) (Nat.le_of_ble_eq_true rfl)) (fun _ _ _ q => q) (lenOf (pd_1) rfl) rfl (by decide) (by decide)  (pc' := 93) rfl ?_
      intro T17 _ X18 hQ19
      obtain ⟨rfl, K20, U21, G22, G23⟩ := hQ19
      have Exa_24 := Exa_16.keep K20
      rw [if_pos h6] at G22
      show Ends p e below s Z _ _ _ T17 (mkF m 93 #[.val (.int p0), .val (.int p1), .val (.int p2), .val (.int p3), .val (.int p4), .val (.int s5), .val (.int s6), .val (.int s7), .val (.int f8), .val (.int f9), .val (.int f10), .val (.ref b3), .unset, .unset, .unset, .unset, .unset, .unset, .unset] [])
      refine E_iconst X18 (v := (-1 : Int32)) at_93 rfl (pc' := 94) rfl ?_
      refine E_istore X18 at_94 (l' := #[.val (.int p0), .val (.int p1), .val (.int p2), .val (.int p3), .val (.int p4), .val (.int s5), .val (.int s6), .val (.int s7), .val (.int f8), .val (.int f9), .val (.int f10), .val (.ref b3), .val (.int (-1 : Int32)), .unset, .unset, .unset, .unset, .unset, .unset]) rfl (pc' := 96) rfl ?_
      refine E_iload X18 at_96 rfl (pc' := 98) rfl ?_
      refine E_ifT X18 at_98 (XT.i0_eq_t e71) (pc' := 105) (by decide) rfl ?_
      refine E_iload X18 at_105 rfl (pc' := 107) rfl ?_
      refine E_ifF X18 at_107 (XT.i0_eq_f e83) (pc' := 110) rfl ?_
      refine E_iload X18 at_110 rfl (pc' := 112) rfl ?_
      refine E_iload X18 at_112 rfl (pc' := 114) rfl ?_
      refine E_icF X18 at_114 (XT.ii_le_f h6) (pc' := 117) rfl ?_
      refine E_iload X18 at_117 rfl (pc' := 119) rfl ?_
      refine E_istore X18 at_119 (l' := #[.val (.int p0), .val (.int p1), .val (.int p2), .val (.int p3), .val (.int p4), .val (.int s5), .val (.int s6), .val (.int s7), .val (.int f8), .val (.int f9), .val (.int f10), .val (.ref b3), .val (.int s6), .unset, .unset, .unset, .unset, .unset, .unset]) rfl (pc' := 121) rfl ?_
      exact sg_lawB l Z a0 hw p0 p1 p2 p3 p4 sN sO sA SN SO SA s5 s6 s7 f8 f9 f10 s6 b3 fa cK (X18.more (Nat.le_of_ble_eq_true rfl) (Nat.le_of_ble_eq_true rfl)) h7 Exa_24 G22 G23 g9 U21 Md Fn
  · skip
    refine E_ifF X13 at_71 (XT.i0_eq_f e71) (pc' := 74) rfl ?_
    refine E_aload X13 at_74 rfl rfl (pc' := 76) rfl ?_
    refine E_iload X13 at_76 rfl (pc' := 78) rfl ?_
    refine E_virtualB X13 (rC := 0) (rS := 0) (Q' := Q_served Z b3 fa (-1 : Int32) s5 _) (a := b3) (D := "com/example/libgauge/libgauge/netty/ServedSinceMiss") at_78 (hw _ (List.mem_of_getElem? (i := 44) rfl)) (hw _ (List.mem_of_getElem? (i := 45) rfl)) (hw _ (List.mem_of_getElem? (i := 47) rfl)) (hw _ (List.mem_of_getElem? (i := 46) rfl)) (notFace_of_selects (args := #[]) (mvT X13.hZ (hw _ (List.mem_of_getElem? (i := 47) rfl)))) (by decide) Exa_16  (argsL := [(.int s5)]) (st := []) rfl ((ct_served l Z a0 hw b3 fa cK (-1 : Int32) s5 X13.old Exa_16 G1 G2 g9 U1 Md Fn).back (mL' := 4) X13.hH (hw _ (List.mem_of_getElem? (i := 48) rfl)) (hw _ (List.mem_of_getElem? (i := 3) rfl)) (by decide) (Nat.le_of_ble_eq_true rfl)) (fun _ _ _ q => q) (lenOf (pd_1) rfl) rfl (by decide) (by decide)  (pc' := 81) rfl ?_
    intro T25 _ X26 hQ27
    obtain ⟨rfl, K28, U29, G30, G31⟩ := hQ27
    have Exa_32 := Exa_16.keep K28
    rw [if_pos h5] at G30
    show Ends p e below s Z _ _ _ T25 (mkF m 81 #[.val (.int p0), .val (.int p1), .val (.int p2), .val (.int p3), .val (.int p4), .val (.int s5), .val (.int s6), .val (.int s7), .val (.int f8), .val (.int f9), .val (.int f10), .val (.ref b3), .unset, .unset, .unset, .unset, .unset, .unset, .unset] [])
    refine E_iload X26 at_81 rfl (pc' := 83) rfl ?_
    by_cases e83 : f9 = 0
    · skip
      refine E_ifT X26 at_83 (XT.i0_eq_t e83) (pc' := 93) (by decide) rfl ?_
      refine E_iconst X26 (v := (-1 : Int32)) at_93 rfl (pc' := 94) rfl ?_
      refine E_istore X26 at_94 (l' := #[.val (.int p0), .val (.int p1), .val (.int p2), .val (.int p3), .val (.int p4), .val (.int s5), .val (.int s6), .val (.int s7), .val (.int f8), .val (.int f9), .val (.int f10), .val (.ref b3), .val (.int (-1 : Int32)), .unset, .unset, .unset, .unset, .unset, .unset]) rfl (pc' := 96) rfl ?_
      refine E_iload X26 at_96 rfl (pc' := 98) rfl ?_
      refine E_ifF X26 at_98 (XT.i0_eq_f e71) (pc' := 101) rfl ?_
      refine E_iload X26 at_101 rfl (pc' := 103) rfl ?_
      refine E_istore X26 at_103 (l' := #[.val (.int p0), .val (.int p1), .val (.int p2), .val (.int p3), .val (.int p4), .val (.int s5), .val (.int s6), .val (.int s7), .val (.int f8), .val (.int f9), .val (.int f10), .val (.ref b3), .val (.int s5), .unset, .unset, .unset, .unset, .unset, .unset]) rfl (pc' := 105) rfl ?_
      refine E_iload X26 at_105 rfl (pc' := 107) rfl ?_
      refine E_ifT X26 at_107 (XT.i0_eq_t e83) (pc' := 121) (by decide) rfl ?_
      exact sg_lawB l Z a0 hw p0 p1 p2 p3 p4 sN sO sA SN SO SA s5 s6 s7 f8 f9 f10 s5 b3 fa cK (X26.more (Nat.le_of_ble_eq_true rfl) (Nat.le_of_ble_eq_true rfl)) h7 Exa_32 G30 G31 g9 U29 Md Fn
    · skip
      refine E_ifF X26 at_83 (XT.i0_eq_f e83) (pc' := 86) rfl ?_
      refine E_aload X26 at_86 rfl rfl (pc' := 88) rfl ?_
      refine E_iload X26 at_88 rfl (pc' := 90) rfl ?_
      refine E_virtualB X26 (rC := 0) (rS := 0) (Q' := Q_served Z b3 fa s5 s6 _) (a := b3) (D := "com/example/libgauge/libgauge/netty/ServedSinceMiss") at_90 (hw _ (List.mem_of_getElem? (i := 44) rfl)) (hw _ (List.mem_of_getElem? (i := 45) rfl)) (hw _ (List.mem_of_getElem? (i := 47) rfl)) (hw _ (List.mem_of_getElem? (i := 46) rfl)) (notFace_of_selects (args := #[]) (mvT X26.hZ (hw _ (List.mem_of_getElem? (i := 47) rfl)))) (by decide) Exa_32  (argsL := [(.int s6)]) (st := []) rfl ((ct_served l Z a0 hw b3 fa cK s5 s6 X26.old Exa_32 G30 G31 g9 U29 Md Fn).back (mL' := 4) X26.hH (hw _ (List.mem_of_getElem? (i := 48) rfl)) (hw _ (List.mem_of_getElem? (i := 3) rfl)) (by decide) (Nat.le_of_ble_eq_true rfl)) (fun _ _ _ q => q) (lenOf (pd_1) rfl) rfl (by decide) (by decide)  (pc' := 93) rfl ?_
      intro T33 _ X34 hQ35
      obtain ⟨rfl, K36, U37, G38, G39⟩ := hQ35
      have Exa_40 := Exa_32.keep K36
      show Ends p e below s Z _ _ _ T33 (mkF m 93 #[.val (.int p0), .val (.int p1), .val (.int p2), .val (.int p3), .val (.int p4), .val (.int s5), .val (.int s6), .val (.int s7), .val (.int f8), .val (.int f9), .val (.int f10), .val (.ref b3), .unset, .unset, .unset, .unset, .unset, .unset, .unset] [])
      refine E_iconst X34 (v := (-1 : Int32)) at_93 rfl (pc' := 94) rfl ?_
      refine E_istore X34 at_94 (l' := #[.val (.int p0), .val (.int p1), .val (.int p2), .val (.int p3), .val (.int p4), .val (.int s5), .val (.int s6), .val (.int s7), .val (.int f8), .val (.int f9), .val (.int f10), .val (.ref b3), .val (.int (-1 : Int32)), .unset, .unset, .unset, .unset, .unset, .unset]) rfl (pc' := 96) rfl ?_
      refine E_iload X34 at_96 rfl (pc' := 98) rfl ?_
      refine E_ifF X34 at_98 (XT.i0_eq_f e71) (pc' := 101) rfl ?_
      refine E_iload X34 at_101 rfl (pc' := 103) rfl ?_
      refine E_istore X34 at_103 (l' := #[.val (.int p0), .val (.int p1), .val (.int p2), .val (.int p3), .val (.int p4), .val (.int s5), .val (.int s6), .val (.int s7), .val (.int f8), .val (.int f9), .val (.int f10), .val (.ref b3), .val (.int s5), .unset, .unset, .unset, .unset, .unset, .unset]) rfl (pc' := 105) rfl ?_
      refine E_iload X34 at_105 rfl (pc' := 107) rfl ?_
      refine E_ifF X34 at_107 (XT.i0_eq_f e83) (pc' := 110) rfl ?_
      refine E_iload X34 at_110 rfl (pc' := 112) rfl ?_
      refine E_iload X34 at_112 rfl (pc' := 114) rfl ?_
      by_cases h114 : s5 < s6
      · skip
        refine E_icF X34 at_114 (XT.ii_le_f h114) (pc' := 117) rfl ?_
        rw [if_pos h114] at G38
        refine E_iload X34 at_117 rfl (pc' := 119) rfl ?_
        refine E_istore X34 at_119 (l' := #[.val (.int p0), .val (.int p1), .val (.int p2), .val (.int p3), .val (.int p4), .val (.int s5), .val (.int s6), .val (.int s7), .val (.int f8), .val (.int f9), .val (.int f10), .val (.ref b3), .val (.int s6), .unset, .unset, .unset, .unset, .unset, .unset]) rfl (pc' := 121) rfl ?_
        exact sg_lawB l Z a0 hw p0 p1 p2 p3 p4 sN sO sA SN SO SA s5 s6 s7 f8 f9 f10 s6 b3 fa cK (X34.more (Nat.le_of_ble_eq_true rfl) (Nat.le_of_ble_eq_true rfl)) h7 Exa_40 G38 G39 g9 U37 Md Fn
      · skip
        refine E_icT X34 at_114 (XT.ii_le_t h114) (pc' := 121) (by decide) rfl ?_
        rw [if_neg h114] at G38
        exact sg_lawB l Z a0 hw p0 p1 p2 p3 p4 sN sO sA SN SO SA s5 s6 s7 f8 f9 f10 s5 b3 fa cK (X34.more (Nat.le_of_ble_eq_true rfl) (Nat.le_of_ble_eq_true rfl)) h7 Exa_40 G38 G39 g9 U37 Md Fn
set_option maxRecDepth 65536 in
set_option maxHeartbeats 40000000 in
theorem ct_law (l : Launch) (Z : State) (a0 : Array Value) (hw : ∀ d ∈ tables_1, d.before a0 Z = true) (p0 p1 p2 p3 p4 : Int32) (sN sO sA : Addr) (O : Ext Z.heap Z.heap) (SN : Sta Z Z.heap "com/example/libgauge/libgauge/netty/ServedSinceMiss$Served" "NOTHING" "Lcom/example/libgauge/libgauge/netty/ServedSinceMiss$Served;" (.ref sN)) (SO : Sta Z Z.heap "com/example/libgauge/libgauge/netty/ServedSinceMiss$Served" "ONLY_SMALLER" "Lcom/example/libgauge/libgauge/netty/ServedSinceMiss$Served;" (.ref sO)) (SA : Sta Z Z.heap "com/example/libgauge/libgauge/netty/ServedSinceMiss$Served" "AS_LARGE" "Lcom/example/libgauge/libgauge/netty/ServedSinceMiss$Served;" (.ref sA)) : Ct l Z x code maxLocals ret room_1 #[(.int p0), (.int p1), (.int p2), (.int p3), (.int p4)] Z.heap (fun v _ => v = some (.int 1)) := by
  show Ct l Z (⟨"com/example/libgauge/libgauge/netty/ServedSinceMissServedPinLaw", "law", "(IIIII)Z"⟩ : MethodName) code 19 (some .boolean) ({ frames := 6, cells := 16, slots := 128, locals := 3216 } : Room) _ _ _
  refine Ct.of_body (Ls := #[.val (.int p0), .val (.int p1), .val (.int p2), .val (.int p3), .val (.int p4), .unset, .unset, .unset, .unset, .unset, .unset, .unset, .unset, .unset, .unset, .unset, .unset, .unset, .unset]) (by decide +kernel) O (fun m => by first | (simp [entryFrame, mkF, argsToLocals, Value.category]; done) | rfl) ?_
  intro p e s m below meth c T0 X0 e0
  obtain ⟨s5, hs5, h5⟩ := own_nn p0
  obtain ⟨s6, hs6, h6⟩ := own_nn p1
  obtain ⟨s7, hs7, h7⟩ := own_nn p2
  refine E_iloadN X0 at_0 rfl (pc' := 1) rfl ?_
  refine E_ldcI X0 (v := (2147483647 : Int32)) at_1 (hw _ (List.mem_of_getElem? (i := 0) rfl)) (pc' := 3) rfl ?_
  refine E_iand X0 (v := s5) at_3 hs5 (pc' := 4) rfl ?_
  refine E_istore X0 at_4 (l' := #[.val (.int p0), .val (.int p1), .val (.int p2), .val (.int p3), .val (.int p4), .val (.int s5), .unset, .unset, .unset, .unset, .unset, .unset, .unset, .unset, .unset, .unset, .unset, .unset, .unset]) rfl (pc' := 6) rfl ?_
  refine E_iloadN X0 at_6 rfl (pc' := 7) rfl ?_
  refine E_ldcI X0 (v := (2147483647 : Int32)) at_7 (hw _ (List.mem_of_getElem? (i := 0) rfl)) (pc' := 9) rfl ?_
  refine E_iand X0 (v := s6) at_9 hs6 (pc' := 10) rfl ?_
  refine E_istore X0 at_10 (l' := #[.val (.int p0), .val (.int p1), .val (.int p2), .val (.int p3), .val (.int p4), .val (.int s5), .val (.int s6), .unset, .unset, .unset, .unset, .unset, .unset, .unset, .unset, .unset, .unset, .unset, .unset]) rfl (pc' := 12) rfl ?_
  refine E_iloadN X0 at_12 rfl (pc' := 13) rfl ?_
  refine E_ldcI X0 (v := (2147483647 : Int32)) at_13 (hw _ (List.mem_of_getElem? (i := 0) rfl)) (pc' := 15) rfl ?_
  refine E_iand X0 (v := s7) at_15 hs7 (pc' := 16) rfl ?_
  refine E_istore X0 at_16 (l' := #[.val (.int p0), .val (.int p1), .val (.int p2), .val (.int p3), .val (.int p4), .val (.int s5), .val (.int s6), .val (.int s7), .unset, .unset, .unset, .unset, .unset, .unset, .unset, .unset, .unset, .unset, .unset]) rfl (pc' := 18) rfl ?_
  refine E_iload X0 at_18 rfl (pc' := 20) rfl ?_
  refine E_iconst X0 (v := (1 : Int32)) at_20 rfl (pc' := 21) rfl ?_
  refine E_iand X0 at_21 rfl (pc' := 22) rfl ?_
  by_cases hc22 : (p4 &&& (1 : Int32)) = 0
  · skip
    refine E_ifT X0 at_22 (XT.i0_eq_t hc22) (pc' := 29) (by decide) rfl ?_
    refine E_iconst X0 (v := (0 : Int32)) at_29 rfl (pc' := 30) rfl ?_
    refine E_istore X0 at_30 (l' := #[.val (.int p0), .val (.int p1), .val (.int p2), .val (.int p3), .val (.int p4), .val (.int s5), .val (.int s6), .val (.int s7), .val (.int (0 : Int32)), .unset, .unset, .unset, .unset, .unset, .unset, .unset, .unset, .unset, .unset]) rfl (pc' := 32) rfl ?_
    refine E_iload X0 at_32 rfl (pc' := 34) rfl ?_
    refine E_iconst X0 (v := (2 : Int32)) at_34 rfl (pc' := 35) rfl ?_
    refine E_iand X0 at_35 rfl (pc' := 36) rfl ?_
    by_cases hc36 : (p4 &&& (2 : Int32)) = 0
    · skip
      refine E_ifT X0 at_36 (XT.i0_eq_t hc36) (pc' := 43) (by decide) rfl ?_
      refine E_iconst X0 (v := (0 : Int32)) at_43 rfl (pc' := 44) rfl ?_
      refine E_istore X0 at_44 (l' := #[.val (.int p0), .val (.int p1), .val (.int p2), .val (.int p3), .val (.int p4), .val (.int s5), .val (.int s6), .val (.int s7), .val (.int (0 : Int32)), .val (.int (0 : Int32)), .unset, .unset, .unset, .unset, .unset, .unset, .unset, .unset, .unset]) rfl (pc' := 46) rfl ?_
      refine E_iload X0 at_46 rfl (pc' := 48) rfl ?_
      refine E_iconst X0 (v := (4 : Int32)) at_48 rfl (pc' := 49) rfl ?_
      refine E_iand X0 at_49 rfl (pc' := 50) rfl ?_
      by_cases hc50 : (p4 &&& (4 : Int32)) = 0
      · skip
        refine E_ifT X0 at_50 (XT.i0_eq_t hc50) (pc' := 57) (by decide) rfl ?_
        refine E_iconst X0 (v := (0 : Int32)) at_57 rfl (pc' := 58) rfl ?_
        refine E_istore X0 at_58 (l' := #[.val (.int p0), .val (.int p1), .val (.int p2), .val (.int p3), .val (.int p4), .val (.int s5), .val (.int s6), .val (.int s7), .val (.int (0 : Int32)), .val (.int (0 : Int32)), .val (.int (0 : Int32)), .unset, .unset, .unset, .unset, .unset, .unset, .unset, .unset]) rfl (pc' := 60) rfl ?_
        exact sg_lawA l Z a0 hw p0 p1 p2 p3 p4 sN sO sA SN SO SA s5 s6 s7 (0 : Int32) (0 : Int32) (0 : Int32) X0 h5 h6 h7
      · skip
        refine E_ifF X0 at_50 (XT.i0_eq_f hc50) (pc' := 53) rfl ?_
        refine E_iconst X0 (v := (1 : Int32)) at_53 rfl (pc' := 54) rfl ?_
        refine E_goto X0 at_54 (pc' := 58) (by decide) rfl ?_
        refine E_istore X0 at_58 (l' := #[.val (.int p0), .val (.int p1), .val (.int p2), .val (.int p3), .val (.int p4), .val (.int s5), .val (.int s6), .val (.int s7), .val (.int (0 : Int32)), .val (.int (0 : Int32)), .val (.int (1 : Int32)), .unset, .unset, .unset, .unset, .unset, .unset, .unset, .unset]) rfl (pc' := 60) rfl ?_
        exact sg_lawA l Z a0 hw p0 p1 p2 p3 p4 sN sO sA SN SO SA s5 s6 s7 (0 : Int32) (0 : Int32) (1 : Int32) X0 h5 h6 h7
    · skip
      refine E_ifF X0 at_36 (XT.i0_eq_f hc36) (pc' := 39) rfl ?_
      refine E_iconst X0 (v := (1 : Int32)) at_39 rfl (pc' := 40) rfl ?_
      refine E_goto X0 at_40 (pc' := 44) (by decide) rfl ?_
      refine E_istore X0 at_44 (l' := #[.val (.int p0), .val (.int p1), .val (.int p2), .val (.int p3), .val (.int p4), .val (.int s5), .val (.int s6), .val (.int s7), .val (.int (0 : Int32)), .val (.int (1 : Int32)), .unset, .unset, .unset, .unset, .unset, .unset, .unset, .unset, .unset]) rfl (pc' := 46) rfl ?_
      refine E_iload X0 at_46 rfl (pc' := 48) rfl ?_
      refine E_iconst X0 (v := (4 : Int32)) at_48 rfl (pc' := 49) rfl ?_
      refine E_iand X0 at_49 rfl (pc' := 50) rfl ?_
      by_cases hc50 : (p4 &&& (4 : Int32)) = 0
      · skip
        refine E_ifT X0 at_50 (XT.i0_eq_t hc50) (pc' := 57) (by decide) rfl ?_
        refine E_iconst X0 (v := (0 : Int32)) at_57 rfl (pc' := 58) rfl ?_
        refine E_istore X0 at_58 (l' := #[.val (.int p0), .val (.int p1), .val (.int p2), .val (.int p3), .val (.int p4), .val (.int s5), .val (.int s6), .val (.int s7), .val (.int (0 : Int32)), .val (.int (1 : Int32)), .val (.int (0 : Int32)), .unset, .unset, .unset, .unset, .unset, .unset, .unset, .unset]) rfl (pc' := 60) rfl ?_
        exact sg_lawA l Z a0 hw p0 p1 p2 p3 p4 sN sO sA SN SO SA s5 s6 s7 (0 : Int32) (1 : Int32) (0 : Int32) X0 h5 h6 h7
      · skip
        refine E_ifF X0 at_50 (XT.i0_eq_f hc50) (pc' := 53) rfl ?_
        refine E_iconst X0 (v := (1 : Int32)) at_53 rfl (pc' := 54) rfl ?_
        refine E_goto X0 at_54 (pc' := 58) (by decide) rfl ?_
        refine E_istore X0 at_58 (l' := #[.val (.int p0), .val (.int p1), .val (.int p2), .val (.int p3), .val (.int p4), .val (.int s5), .val (.int s6), .val (.int s7), .val (.int (0 : Int32)), .val (.int (1 : Int32)), .val (.int (1 : Int32)), .unset, .unset, .unset, .unset, .unset, .unset, .unset, .unset]) rfl (pc' := 60) rfl ?_
        exact sg_lawA l Z a0 hw p0 p1 p2 p3 p4 sN sO sA SN SO SA s5 s6 s7 (0 : Int32) (1 : Int32) (1 : Int32) X0 h5 h6 h7
  · skip
    refine E_ifF X0 at_22 (XT.i0_eq_f hc22) (pc' := 25) rfl ?_
    refine E_iconst X0 (v := (1 : Int32)) at_25 rfl (pc' := 26) rfl ?_
    refine E_goto X0 at_26 (pc' := 30) (by decide) rfl ?_
    refine E_istore X0 at_30 (l' := #[.val (.int p0), .val (.int p1), .val (.int p2), .val (.int p3), .val (.int p4), .val (.int s5), .val (.int s6), .val (.int s7), .val (.int (1 : Int32)), .unset, .unset, .unset, .unset, .unset, .unset, .unset, .unset, .unset, .unset]) rfl (pc' := 32) rfl ?_
    refine E_iload X0 at_32 rfl (pc' := 34) rfl ?_
    refine E_iconst X0 (v := (2 : Int32)) at_34 rfl (pc' := 35) rfl ?_
    refine E_iand X0 at_35 rfl (pc' := 36) rfl ?_
    by_cases hc36 : (p4 &&& (2 : Int32)) = 0
    · skip
      refine E_ifT X0 at_36 (XT.i0_eq_t hc36) (pc' := 43) (by decide) rfl ?_
      refine E_iconst X0 (v := (0 : Int32)) at_43 rfl (pc' := 44) rfl ?_
      refine E_istore X0 at_44 (l' := #[.val (.int p0), .val (.int p1), .val (.int p2), .val (.int p3), .val (.int p4), .val (.int s5), .val (.int s6), .val (.int s7), .val (.int (1 : Int32)), .val (.int (0 : Int32)), .unset, .unset, .unset, .unset, .unset, .unset, .unset, .unset, .unset]) rfl (pc' := 46) rfl ?_
      refine E_iload X0 at_46 rfl (pc' := 48) rfl ?_
      refine E_iconst X0 (v := (4 : Int32)) at_48 rfl (pc' := 49) rfl ?_
      refine E_iand X0 at_49 rfl (pc' := 50) rfl ?_
      by_cases hc50 : (p4 &&& (4 : Int32)) = 0
      · skip
        refine E_ifT X0 at_50 (XT.i0_eq_t hc50) (pc' := 57) (by decide) rfl ?_
        refine E_iconst X0 (v := (0 : Int32)) at_57 rfl (pc' := 58) rfl ?_
        refine E_istore X0 at_58 (l' := #[.val (.int p0), .val (.int p1), .val (.int p2), .val (.int p3), .val (.int p4), .val (.int s5), .val (.int s6), .val (.int s7), .val (.int (1 : Int32)), .val (.int (0 : Int32)), .val (.int (0 : Int32)), .unset, .unset, .unset, .unset, .unset, .unset, .unset, .unset]) rfl (pc' := 60) rfl ?_
        exact sg_lawA l Z a0 hw p0 p1 p2 p3 p4 sN sO sA SN SO SA s5 s6 s7 (1 : Int32) (0 : Int32) (0 : Int32) X0 h5 h6 h7
      · skip
        refine E_ifF X0 at_50 (XT.i0_eq_f hc50) (pc' := 53) rfl ?_
        refine E_iconst X0 (v := (1 : Int32)) at_53 rfl (pc' := 54) rfl ?_
        refine E_goto X0 at_54 (pc' := 58) (by decide) rfl ?_
        refine E_istore X0 at_58 (l' := #[.val (.int p0), .val (.int p1), .val (.int p2), .val (.int p3), .val (.int p4), .val (.int s5), .val (.int s6), .val (.int s7), .val (.int (1 : Int32)), .val (.int (0 : Int32)), .val (.int (1 : Int32)), .unset, .unset, .unset, .unset, .unset, .unset, .unset, .unset]) rfl (pc' := 60) rfl ?_
        exact sg_lawA l Z a0 hw p0 p1 p2 p3 p4 sN sO sA SN SO SA s5 s6 s7 (1 : Int32) (0 : Int32) (1 : Int32) X0 h5 h6 h7
    · skip
      refine E_ifF X0 at_36 (XT.i0_eq_f hc36) (pc' := 39) rfl ?_
      refine E_iconst X0 (v := (1 : Int32)) at_39 rfl (pc' := 40) rfl ?_
      refine E_goto X0 at_40 (pc' := 44) (by decide) rfl ?_
      refine E_istore X0 at_44 (l' := #[.val (.int p0), .val (.int p1), .val (.int p2), .val (.int p3), .val (.int p4), .val (.int s5), .val (.int s6), .val (.int s7), .val (.int (1 : Int32)), .val (.int (1 : Int32)), .unset, .unset, .unset, .unset, .unset, .unset, .unset, .unset, .unset]) rfl (pc' := 46) rfl ?_
      refine E_iload X0 at_46 rfl (pc' := 48) rfl ?_
      refine E_iconst X0 (v := (4 : Int32)) at_48 rfl (pc' := 49) rfl ?_
      refine E_iand X0 at_49 rfl (pc' := 50) rfl ?_
      by_cases hc50 : (p4 &&& (4 : Int32)) = 0
      · skip
        refine E_ifT X0 at_50 (XT.i0_eq_t hc50) (pc' := 57) (by decide) rfl ?_
        refine E_iconst X0 (v := (0 : Int32)) at_57 rfl (pc' := 58) rfl ?_
        refine E_istore X0 at_58 (l' := #[.val (.int p0), .val (.int p1), .val (.int p2), .val (.int p3), .val (.int p4), .val (.int s5), .val (.int s6), .val (.int s7), .val (.int (1 : Int32)), .val (.int (1 : Int32)), .val (.int (0 : Int32)), .unset, .unset, .unset, .unset, .unset, .unset, .unset, .unset]) rfl (pc' := 60) rfl ?_
        exact sg_lawA l Z a0 hw p0 p1 p2 p3 p4 sN sO sA SN SO SA s5 s6 s7 (1 : Int32) (1 : Int32) (0 : Int32) X0 h5 h6 h7
      · skip
        refine E_ifF X0 at_50 (XT.i0_eq_f hc50) (pc' := 53) rfl ?_
        refine E_iconst X0 (v := (1 : Int32)) at_53 rfl (pc' := 54) rfl ?_
        refine E_goto X0 at_54 (pc' := 58) (by decide) rfl ?_
        refine E_istore X0 at_58 (l' := #[.val (.int p0), .val (.int p1), .val (.int p2), .val (.int p3), .val (.int p4), .val (.int s5), .val (.int s6), .val (.int s7), .val (.int (1 : Int32)), .val (.int (1 : Int32)), .val (.int (1 : Int32)), .unset, .unset, .unset, .unset, .unset, .unset, .unset, .unset]) rfl (pc' := 60) rfl ?_
        exact sg_lawA l Z a0 hw p0 p1 p2 p3 p4 sN sO sA SN SO SA s5 s6 s7 (1 : Int32) (1 : Int32) (1 : Int32) X0 h5 h6 h7
set_option maxRecDepth 65536 in
set_option maxHeartbeats 40000000 in
theorem comes_1 {Post : Tables → Env → Array Value → State → Outcome → State → Prop} (hpost : ∀ tb e args s v u, (limb_1_1.after args s (.returned v) u = true ∧ limb_1_2.after args s (.returned v) u = true ∧ True) → ReturnedEndW s (.returned v) u (Jvm.fieldLocs frame_1_writes args s ++ Jvm.arrayLocs frame_1_arrays args s ++ Jvm.staticLocs frame_1_statics s) 16 128 → Post tb e args s (.returned v) u) :
    ArmFor flags0 classFile x code maxLocals ret World_1 tables_1 room_1 Calls_1 rest_1 Pre_1 Post := by
  intro l hfl _ _ p e ha hc hk s m args below hf hA hF happ hP
  obtain ⟨hcalls, hrest, hpre⟩ := hP
  obtain ⟨-, -, -, hnamed, -, -, -, hat⟩ := (Spec.applies_iff hf).mp happ
  obtain ⟨hg, hn⟩ := and_e (Cond.before_iff.mp (show (Jvm.Cond.and given_1 narrow_1).before args s = true from hpre))
  obtain ⟨hcnt, g0⟩ := and_e hg
  obtain ⟨i0, g1⟩ := and_e g0
  obtain ⟨i1, g2⟩ := and_e g1
  obtain ⟨i2, g3⟩ := and_e g2
  obtain ⟨i3, g4⟩ := and_e g3
  obtain ⟨w0, w1, w2, w3, w4, rfl⟩ : ∃ w0 w1 w2 w3 w4 : Value, args = #[w0, w1, w2, w3, w4] := by
    have hs : args.size = 5 := by simpa [Cond.value, given_1] using hcnt
    obtain ⟨L⟩ := args
    match L, hs with
    | [w0, w1, w2, w3, w4], _ => exact ⟨w0, w1, w2, w3, w4, rfl⟩
  have hw := fun d (hd : d ∈ tables_1) => atoms_spec (ws := Jvm.Cond.code x code maxLocals ret :: tables_1) hat d (List.mem_cons_of_mem _ hd)
  have hfit : Fit s := fun {y c} hc i hi => by
    obtain ⟨ha, rfl⟩ := Array.getElem?_eq_some_iff.mp hc
    have q := List.all_eq_true.mp ((Array.all_eq_true_iff_forall_mem.mp hF) _ (Array.getElem_mem ha)) i (List.mem_range.mpr hi)
    simpa [Array.getElem?_eq_getElem hi] using q
  obtain ⟨x0, ex0⟩ := is_v i0
  obtain rfl : w0 = (.int x0) := Option.some.inj ex0
  obtain ⟨x1, ex1⟩ := is_v i1
  obtain rfl : w1 = (.int x1) := Option.some.inj ex1
  obtain ⟨x2, ex2⟩ := is_v i2
  obtain rfl : w2 = (.int x2) := Option.some.inj ex2
  obtain ⟨x3, ex3⟩ := is_v i3
  obtain rfl : w3 = (.int x3) := Option.some.inj ex3
  obtain ⟨x4, ex4⟩ := is_v g4
  obtain rfl : w4 = (.int x4) := Option.some.inj ex4
  obtain ⟨n1, hn1⟩ := and_e hn
  obtain ⟨n2, n3⟩ := and_e hn1
  obtain ⟨sN, eN⟩ := exa_v n1
  have SN := Sta.start eN (Or.inr ⟨(hw _ (List.mem_of_getElem? (i := 25) rfl)), (hw _ (List.mem_of_getElem? (i := 26) rfl))⟩)
  obtain ⟨sO, eO⟩ := exa_v n2
  have SO := Sta.start eO (Or.inr ⟨(hw _ (List.mem_of_getElem? (i := 25) rfl)), (hw _ (List.mem_of_getElem? (i := 50) rfl))⟩)
  obtain ⟨sA, eA⟩ := exa_v n3
  have SA := Sta.start eA (Or.inr ⟨(hw _ (List.mem_of_getElem? (i := 25) rfl)), (hw _ (List.mem_of_getElem? (i := 53) rfl))⟩)
  obtain ⟨n, o, h1, h2, h3, _, L, rfl, ⟨N, -, rfl⟩, hq⟩ := ct_law l s _ hw x0 x1 x2 x3 x4 sN sO sA ⟨Nat.le_refl _, fun _ _ q => q⟩ SN SO SA tables_1 p e ha hc hk s m _ below hf ((Spec.applies_iff_loose hf).mp happ).1 ⟨rfl, State.WarmedH.refl s, rfl⟩ trivial
  refine ⟨n, _, h1, h2, h3, hpost _ _ _ _ _ _ ⟨Cond.after_iff.mpr rfl, Cond.after_iff.mpr (eq_i res_at (Term.int_eval (1)) rfl), trivial⟩ (ReturnedEndW.of_narrow hq.1 hq.2.1 ((hq.2.2.sift fun y hy => Or.inr (N y hy)).mono (by decide) (by decide)))⟩
theorem main_1_1 : Claimed_1_1 := comes_1 fun _ _ _ _ _ _ h hF => ⟨h.1, hF⟩
theorem main_1_2 : Claimed_1_2 := comes_1 fun _ _ _ _ _ _ h hF => ⟨h.2.1, hF⟩
end Jvm.Pilot.@@N@@
namespace Jvm.Pilot.@@N@@
open Jvm Jvm.ClassFile Sem Op Lib Jvm.Free Jvm.Stand Jvm.Pilot.@@N@@.Jvm.D
/-! MADE BY PROGRAM (witnessworld.py) out of the Statement's table words and the real class files: 15 classes; the members and pool entries that the words name. The judged class is class 1, her method 2. -/
namespace start1
open Jvm.ClassFile
def u (s : String) : CpInfo := .utf8 (stringToUtf16 s)
/-- a pool by its gaps: so many unusable entries, then the entry; so many at the end -/
def gap : Nat → List CpInfo → List CpInfo
  | 0, r => r
  | n + 1, r => .unusable :: gap n r
def poolList (es : List (Nat × CpInfo)) (last : Nat) : List CpInfo := es.foldr (fun e r => gap e.1 (e.2 :: r)) (gap last [])
def pool (es : List (Nat × CpInfo)) (last : Nat) : Array CpInfo := ⟨poolList es last⟩
def fileOf (pool : Array CpInfo) (this : Nat) (attrs : Array Attribute := #[]) (ms : Array MethodInfo := #[]) (fl : Nat := 33) (sup : Nat := 0) (ifs : Array Nat := #[]) (fds : Array FieldInfo := #[]) : ClassFile where
  minorVersion := 0
  majorVersion := 65
  constantPool := pool
  accessFlags := fl
  thisClass := this
  superClass := sup
  interfaces := ifs
  fields := fds
  methods := ms
  attributes := attrs
def plain (name : String) (sup : Option ClassId) : Class where
  name := name
  kind := .ordinary
  loader := none
  accessFlags := 33
  super := sup
  interfaces := #[]
  cf := none
  fields := #[]
  methods := #[]
  instanceTypes := #[]
  staticTypes := #[]
  resolved := #[]
  callSites := []
  init := .initialized
  statics := none
  mirror := none

def pool0 : Array CpInfo := pool [(5, u "<init>"), (0, u "()V"), (1, .class_ 10), (1, u "java/lang/Object")] 113

def k0c0 : Code := { maxStack := 0, maxLocals := 1, code := object_method_1_code, exceptionTable := #[], attributes := #[] }
def k0m0 : Method := { name := "<init>", desc := "()V", sig := { parameters := [], returnType := none }, accessFlags := 1, code := some k0c0 }
/-- java/lang/Object -/
def k0 : Class := { plain "java/lang/Object" none with
  accessFlags := 33
  interfaces := #[]
  cf := some (fileOf pool0 8 #[] #[{ accessFlags := 1, nameIndex := 5, descriptorIndex := 6, attributes := #[] }] 33 0 #[] #[])
  fields := #[]
  methods := #[k0m0]
  instanceTypes := #[]
  staticTypes := #[]
  resolved := Array.replicate 124 none
  statics := none }

def pool1 : Array CpInfo := pool [(2, .class_ 4), (0, .nameAndType 5 6), (0, u "java/lang/Object"), (0, u "<init>"), (0, u "()V"), (0, .fieldref 8 9), (0, .class_ 10), (0, .nameAndType 11 12), (0, u "com/example/libgauge/libgauge/netty/ServedSinceMiss$Served"), (0, u "NOTHING"), (0, u "Lcom/example/libgauge/libgauge/netty/ServedSinceMiss$Served;"), (0, .fieldref 8 14), (0, .nameAndType 15 12), (0, u "ONLY_SMALLER"), (0, .fieldref 8 17), (0, .nameAndType 18 12), (0, u "AS_LARGE"), (0, .integer 2147483647), (0, .class_ 21), (0, u "com/example/libgauge/libgauge/netty/ServedSinceMiss"), (0, .methodref 20 3), (0, .methodref 20 24), (0, .nameAndType 25 26), (0, u "served"), (0, u "(I)V"), (0, .methodref 28 29), (0, .class_ 30), (0, .nameAndType 31 32), (0, u "com/example/libgauge/libgauge/netty/ServedSinceMissServedPinLaw"), (0, u "expect"), (0, u "(II)Lcom/example/libgauge/libgauge/netty/ServedSinceMiss$Served;"), (0, .methodref 20 34), (0, .nameAndType 35 36), (0, u "against"), (0, u "(I)Lcom/example/libgauge/libgauge/netty/ServedSinceMiss$Served;"), (0, .methodref 20 38), (0, .nameAndType 39 36), (0, u "missed"), (3, u "law"), (0, u "(IIIII)Z")] 4

def k1m0 : Method := { name := "<init>", desc := "()V", sig := { parameters := [], returnType := none }, accessFlags := 1, code := none }
def k1c1 : Code := { maxStack := 2, maxLocals := 2, code := method_2_code, exceptionTable := #[], attributes := #[] }
def k1m1 : Method := { name := "expect", desc := "(II)Lcom/example/libgauge/libgauge/netty/ServedSinceMiss$Served;", sig := { parameters := [.int, .int], returnType := some (.object "com/example/libgauge/libgauge/netty/ServedSinceMiss$Served") }, accessFlags := 10, code := some k1c1 }
def k1c2 : Code := { maxStack := 2, maxLocals := 19, code := code, exceptionTable := #[], attributes := #[] }
def k1m2 : Method := { name := "law", desc := "(IIIII)Z", sig := { parameters := [.int, .int, .int, .int, .int], returnType := some .boolean }, accessFlags := 9, code := some k1c2 }
/-- com/example/libgauge/libgauge/netty/ServedSinceMissServedPinLaw -/
def k1 : Class := { plain "com/example/libgauge/libgauge/netty/ServedSinceMissServedPinLaw" (some 0) with
  accessFlags := 49
  interfaces := #[]
  cf := some (fileOf pool1 28 #[] #[{ accessFlags := 1, nameIndex := 5, descriptorIndex := 6, attributes := #[] }, { accessFlags := 10, nameIndex := 31, descriptorIndex := 32, attributes := #[] }, { accessFlags := 9, nameIndex := 43, descriptorIndex := 44, attributes := #[] }] 49 2 #[] #[])
  fields := #[]
  methods := #[k1m0, k1m1, k1m2]
  instanceTypes := #[]
  staticTypes := #[]
  resolved := Array.replicate 49 none
  statics := none }

def pool2 : Array CpInfo := pool [(1, .invokeDynamic 0 2), (0, .nameAndType 3 4), (0, u "accept"), (0, u "()Ljava/util/function/IntConsumer;"), (0, .methodref 6 7), (0, .class_ 8), (0, .nameAndType 9 10), (0, u "com/example/libgauge/libgauge/netty/ServedSinceMiss"), (0, u "<init>"), (0, u "(Ljava/util/function/IntConsumer;)V"), (0, .methodref 12 13), (0, .class_ 14), (0, .nameAndType 9 15), (0, u "java/lang/Object"), (0, u "()V"), (0, .fieldref 6 17), (0, .nameAndType 18 19), (0, u "largest"), (0, u "I"), (0, .fieldref 6 21), (0, .nameAndType 22 23), (0, u "largestChanged"), (0, u "Ljava/util/function/IntConsumer;"), (0, .interfaceMethodref 25 26), (0, .class_ 27), (0, .nameAndType 3 28), (0, u "java/util/function/IntConsumer"), (0, u "(I)V"), (0, .fieldref 30 31), (0, .class_ 32), (0, .nameAndType 33 34), (0, u "com/example/libgauge/libgauge/netty/ServedSinceMiss$Served"), (0, u "NOTHING"), (0, u "Lcom/example/libgauge/libgauge/netty/ServedSinceMiss$Served;"), (0, .fieldref 30 36), (0, .nameAndType 37 34), (0, u "ONLY_SMALLER"), (0, .fieldref 30 39), (0, .nameAndType 40 34), (0, u "AS_LARGE"), (0, .methodref 6 42), (0, .nameAndType 43 44), (0, u "against"), (0, u "(I)Lcom/example/libgauge/libgauge/netty/ServedSinceMiss$Served;"), (4, u "served"), (3, u "missed"), (0, u "lambda$new$0"), (4, .methodType 28), (0, .methodHandle 6 61), (0, .methodref 6 62), (0, .nameAndType 54 28), (0, .methodHandle 6 64), (0, .methodref 65 66), (0, .class_ 67), (0, .nameAndType 68 69), (0, u "java/lang/invoke/LambdaMetafactory"), (0, u "metafactory"), (0, u "(Ljava/lang/invoke/MethodHandles$Lookup;Ljava/lang/String;Ljava/lang/invoke/MethodType;Ljava/lang/invoke/MethodType;Ljava/lang/invoke/MethodHandle;Ljava/lang/invoke/MethodType;)Ljava/lang/invoke/CallSite;")] 7

def k2c0 : Code := { maxStack := 2, maxLocals := 1, code := prog_23_method_1_code, exceptionTable := #[], attributes := #[] }
def k2m0 : Method := { name := "<init>", desc := "()V", sig := { parameters := [], returnType := none }, accessFlags := 0, code := some k2c0 }
def k2c1 : Code := { maxStack := 2, maxLocals := 2, code := prog_23_method_2_code, exceptionTable := #[], attributes := #[] }
def k2m1 : Method := { name := "<init>", desc := "(Ljava/util/function/IntConsumer;)V", sig := { parameters := [(.object "java/util/function/IntConsumer")], returnType := none }, accessFlags := 0, code := some k2c1 }
def k2c2 : Code := { maxStack := 2, maxLocals := 4, code := prog_23_method_3_code, exceptionTable := #[{ startPc := 12, endPc := 37, handlerPc := 40, catchType := 0 }, { startPc := 40, endPc := 43, handlerPc := 40, catchType := 0 }], attributes := #[] }
def k2m2 : Method := { name := "served", desc := "(I)V", sig := { parameters := [.int], returnType := none }, accessFlags := 0, code := some k2c2 }
def k2c3 : Code := { maxStack := 2, maxLocals := 3, code := prog_23_method_4_code, exceptionTable := #[], attributes := #[] }
def k2m3 : Method := { name := "against", desc := "(I)Lcom/example/libgauge/libgauge/netty/ServedSinceMiss$Served;", sig := { parameters := [.int], returnType := some (.object "com/example/libgauge/libgauge/netty/ServedSinceMiss$Served") }, accessFlags := 0, code := some k2c3 }
def k2c4 : Code := { maxStack := 2, maxLocals := 3, code := ⟨#[0x2a, 0x1b, 0xb6, 0x00, 0x29, 0x4d, 0x2a, 0x02, 0xb5, 0x00, 0x10, 0x2a, 0xb4, 0x00, 0x14, 0x03, 0xb9, 0x00, 0x18, 0x02, 0x00, 0x2c, 0xb0]⟩, exceptionTable := #[], attributes := #[] }
def k2m4 : Method := { name := "missed", desc := "(I)Lcom/example/libgauge/libgauge/netty/ServedSinceMiss$Served;", sig := { parameters := [.int], returnType := some (.object "com/example/libgauge/libgauge/netty/ServedSinceMiss$Served") }, accessFlags := 32, code := some k2c4 }
def k2c5 : Code := { maxStack := 0, maxLocals := 1, code := prog_23_method_6_code, exceptionTable := #[], attributes := #[] }
def k2m5 : Method := { name := "lambda$new$0", desc := "(I)V", sig := { parameters := [.int], returnType := none }, accessFlags := 4106, code := some k2c5 }
/-- com/example/libgauge/libgauge/netty/ServedSinceMiss -/
def k2 : Class := { plain "com/example/libgauge/libgauge/netty/ServedSinceMiss" (some 0) with
  accessFlags := 48
  interfaces := #[]
  cf := some (fileOf pool2 6 #[.nestMembers #[30], .bootstrapMethods #[⟨63, #[59, 60, 59]⟩]] #[{ accessFlags := 0, nameIndex := 9, descriptorIndex := 15, attributes := #[] }, { accessFlags := 0, nameIndex := 9, descriptorIndex := 10, attributes := #[] }, { accessFlags := 0, nameIndex := 49, descriptorIndex := 28, attributes := #[] }, { accessFlags := 0, nameIndex := 43, descriptorIndex := 44, attributes := #[] }, { accessFlags := 32, nameIndex := 53, descriptorIndex := 44, attributes := #[] }, { accessFlags := 4106, nameIndex := 54, descriptorIndex := 28, attributes := #[] }] 48 12 #[] #[{ accessFlags := 26, nameIndex := 33, descriptorIndex := 19, attributes := #[] }, { accessFlags := 18, nameIndex := 22, descriptorIndex := 23, attributes := #[] }, { accessFlags := 66, nameIndex := 18, descriptorIndex := 19, attributes := #[] }])
  fields := #[{ name := "NOTHING", type := .int, accessFlags := 26, slot := 0, constantValue := 0 }, { name := "largestChanged", type := (.object "java/util/function/IntConsumer"), accessFlags := 18, slot := 0, constantValue := 0 }, { name := "largest", type := .int, accessFlags := 66, slot := 1, constantValue := 0 }]
  methods := #[k2m0, k2m1, k2m2, k2m3, k2m4, k2m5]
  instanceTypes := #[(.object "java/util/function/IntConsumer"), .int]
  staticTypes := #[.int]
  resolved := Array.replicate 77 none
  callSites := [(0, 1, .constant 1)]
  statics := none }

def pool3 : Array CpInfo := pool [(9, u "accept"), (2, .class_ 14), (1, u "java/util/function/IntConsumer"), (0, u "(I)V"), (0, .class_ 17), (0, u "java/lang/Object")] 34

def k3m0 : Method := { name := "accept", desc := "(I)V", sig := { parameters := [.int], returnType := none }, accessFlags := 1025, code := none }
/-- java/util/function/IntConsumer -/
def k3 : Class := { plain "java/util/function/IntConsumer" (some 0) with
  accessFlags := 1537
  interfaces := #[]
  cf := some (fileOf pool3 12 #[] #[{ accessFlags := 1025, nameIndex := 9, descriptorIndex := 15, attributes := #[] }] 1537 16 #[] #[])
  fields := #[]
  methods := #[k3m0]
  instanceTypes := #[]
  staticTypes := #[]
  resolved := Array.replicate 52 none
  statics := none }

def pool4 : Array CpInfo := pool [(1, .class_ 2), (0, u "java/lang/constant/Constable"), (0, .class_ 4), (0, u "java/lang/Object")] 6

/-- java/lang/constant/Constable -/
def k4 : Class := { plain "java/lang/constant/Constable" (some 0) with
  accessFlags := 1537
  interfaces := #[]
  cf := some (fileOf pool4 1 #[] #[] 1537 3 #[] #[])
  fields := #[]
  methods := #[]
  instanceTypes := #[]
  staticTypes := #[]
  resolved := Array.replicate 11 none
  statics := none }

def pool5 : Array CpInfo := pool [(1, .class_ 2), (0, u "java/lang/Comparable"), (0, .class_ 4), (0, u "java/lang/Object")] 7

/-- java/lang/Comparable -/
def k5 : Class := { plain "java/lang/Comparable" (some 0) with
  accessFlags := 1537
  interfaces := #[]
  cf := some (fileOf pool5 1 #[] #[] 1537 3 #[] #[])
  fields := #[]
  methods := #[]
  instanceTypes := #[]
  staticTypes := #[]
  resolved := Array.replicate 12 none
  statics := none }

def pool6 : Array CpInfo := pool [(1, .class_ 2), (0, u "java/io/Serializable"), (0, .class_ 4), (0, u "java/lang/Object")] 2

/-- java/io/Serializable -/
def k6 : Class := { plain "java/io/Serializable" (some 0) with
  accessFlags := 1537
  interfaces := #[]
  cf := some (fileOf pool6 1 #[] #[] 1537 3 #[] #[])
  fields := #[]
  methods := #[]
  instanceTypes := #[]
  staticTypes := #[]
  resolved := Array.replicate 7 none
  statics := none }

def pool7 : Array CpInfo := pool [(2, .class_ 4), (1, u "java/lang/Enum"), (0, u "name"), (0, u "Ljava/lang/String;"), (2, u "ordinal"), (0, u "I"), (1, .class_ 14), (1, u "java/lang/Object"), (4, u "hash"), (86, .class_ 108), (1, u "java/lang/Enum$EnumDesc"), (2, .class_ 112), (0, u "java/lang/constant/Constable"), (0, .class_ 114), (0, u "java/lang/Comparable"), (0, .class_ 116), (0, u "java/io/Serializable")] 87

/-- java/lang/Enum -/
def k7 : Class := { plain "java/lang/Enum" (some 0) with
  accessFlags := 1057
  interfaces := #[4, 5, 6]
  cf := some (fileOf pool7 2 #[.nestMembers #[106]] #[] 1057 12 #[111, 113, 115] #[{ accessFlags := 18, nameIndex := 5, descriptorIndex := 6, attributes := #[] }, { accessFlags := 18, nameIndex := 9, descriptorIndex := 10, attributes := #[] }, { accessFlags := 2, nameIndex := 19, descriptorIndex := 10, attributes := #[] }])
  fields := #[{ name := "name", type := (.object "java/lang/String"), accessFlags := 18, slot := 0, constantValue := 0 }, { name := "ordinal", type := .int, accessFlags := 18, slot := 1, constantValue := 0 }, { name := "hash", type := .int, accessFlags := 2, slot := 2, constantValue := 0 }]
  methods := #[]
  instanceTypes := #[(.object "java/lang/String"), .int, .int]
  staticTypes := #[]
  resolved := Array.replicate 204 none
  statics := none }

def pool8 : Array CpInfo := pool [(1, .class_ 2), (0, u "com/example/libgauge/libgauge/netty/ServedSinceMiss$Served"), (2, u "NOTHING"), (0, u "Lcom/example/libgauge/libgauge/netty/ServedSinceMiss$Served;"), (2, u "ONLY_SMALLER"), (2, u "AS_LARGE"), (2, u "$VALUES"), (0, u "[Lcom/example/libgauge/libgauge/netty/ServedSinceMiss$Served;"), (6, .class_ 25), (1, u "java/lang/Enum"), (26, .class_ 53), (0, u "com/example/libgauge/libgauge/netty/ServedSinceMiss")] 2

/-- com/example/libgauge/libgauge/netty/ServedSinceMiss$Served -/
def k8 : Class := { plain "com/example/libgauge/libgauge/netty/ServedSinceMiss$Served" (some 7) with
  accessFlags := 16432
  interfaces := #[]
  cf := some (fileOf pool8 1 #[.nestHost 52] #[] 16432 23 #[] #[{ accessFlags := 16409, nameIndex := 5, descriptorIndex := 6, attributes := #[] }, { accessFlags := 16409, nameIndex := 9, descriptorIndex := 6, attributes := #[] }, { accessFlags := 16409, nameIndex := 12, descriptorIndex := 6, attributes := #[] }, { accessFlags := 4122, nameIndex := 15, descriptorIndex := 16, attributes := #[] }])
  fields := #[{ name := "NOTHING", type := (.object "com/example/libgauge/libgauge/netty/ServedSinceMiss$Served"), accessFlags := 16409, slot := 0, constantValue := 0 }, { name := "ONLY_SMALLER", type := (.object "com/example/libgauge/libgauge/netty/ServedSinceMiss$Served"), accessFlags := 16409, slot := 1, constantValue := 0 }, { name := "AS_LARGE", type := (.object "com/example/libgauge/libgauge/netty/ServedSinceMiss$Served"), accessFlags := 16409, slot := 2, constantValue := 0 }, { name := "$VALUES", type := (.array (.object "com/example/libgauge/libgauge/netty/ServedSinceMiss$Served")), accessFlags := 4122, slot := 3, constantValue := 0 }]
  methods := #[]
  instanceTypes := #[(.object "java/lang/String"), .int, .int]
  staticTypes := #[(.object "com/example/libgauge/libgauge/netty/ServedSinceMiss$Served"), (.object "com/example/libgauge/libgauge/netty/ServedSinceMiss$Served"), (.object "com/example/libgauge/libgauge/netty/ServedSinceMiss$Served"), (.array (.object "com/example/libgauge/libgauge/netty/ServedSinceMiss$Served"))]
  resolved := Array.replicate 56 none
  statics := some 0 }

def pool9 : Array CpInfo := pool [(1, u "java/lang/Cloneable"), (0, .class_ 1), (0, u "java/lang/Object"), (0, .class_ 3)] 3

/-- java/lang/Cloneable -/
def k9 : Class := { plain "java/lang/Cloneable" (some 0) with
  accessFlags := 1537
  interfaces := #[]
  cf := some (fileOf pool9 2 #[] #[] 1537 4 #[] #[])
  fields := #[]
  methods := #[]
  instanceTypes := #[]
  staticTypes := #[]
  resolved := Array.replicate 8 none
  statics := none }

/-- the primitive byte -/
def k10 : Class := { plain "byte" none with kind := .primitive 'B', accessFlags := 0x411 }
/-- [B -/
def k11 : Class := { plain "[B" (some 0) with kind := .array 10 .byte, interfaces := #[9, 6], accessFlags := 1041 }

/-- the primitive int -/
def k12 : Class := { plain "int" none with kind := .primitive 'I', accessFlags := 0x411 }
/-- [I -/
def k13 : Class := { plain "[I" (some 0) with kind := .array 12 .int, interfaces := #[9, 6], accessFlags := 1041 }

def classes0 : Array Class := #[k0, k1, k2, k3, k4, k5, k6, k7, k8, k9, k10, k11, k12, k13]
/-- the class that the rule has made for the site at 1 of com/example/libgauge/libgauge/netty/ServedSinceMiss.<init> -/
def k14 : Class := Jvm.LamKit.madeRec { classes := classes0 } "com/example/libgauge/libgauge/netty/ServedSinceMiss" (Jvm.Lambda.Shape.mk "java/util/function/IntConsumer" "accept" (Jvm.ClassFile.MethodDescriptor.mk ([Jvm.ClassFile.FieldType.int] : List Jvm.ClassFile.FieldType) (Option.none : Option Jvm.ClassFile.FieldType)) ([] : List Jvm.ClassFile.FieldType) (6 : Nat) "com/example/libgauge/libgauge/netty/ServedSinceMiss" "lambda$new$0" (Jvm.ClassFile.MethodDescriptor.mk ([Jvm.ClassFile.FieldType.int] : List Jvm.ClassFile.FieldType) (Option.none : Option Jvm.ClassFile.FieldType)) false (Jvm.ClassFile.MethodDescriptor.mk ([Jvm.ClassFile.FieldType.int] : List Jvm.ClassFile.FieldType) (Option.none : Option Jvm.ClassFile.FieldType))) 14

def heap : Heap := #[{ cls := 8, slots := #[.ref 2, .ref 3, .ref 4, .null], vm := .statics 8 },
  { cls := 14, slots := #[], vm := .none },
  { cls := 8, slots := #[.null, .int 0, .int 0], vm := .none },
  { cls := 8, slots := #[.null, .int 1, .int 0], vm := .none },
  { cls := 8, slots := #[.null, .int 2, .int 0], vm := .none }]
def classes : Array Class := #[k0, k1, k2, k3, k4, k5, k6, k7, k8, k9, k10, k11, k12, k13, k14]
def interned : List (Array UInt16 × Addr) := []
def slotsUsed : Nat := 13
def theMethod : MethodId := ⟨1, 2⟩
def args0 : Array Value := #[.int 5, .int 6, .int 7, .int 8, .int 9]
def aboutOver (below : List Frame) : State where
  vm := { classes := classes, interned := interned.toArray }
  heap := heap
  slotsUsed := slotsUsed
  threads := #[{ frames := .invoking theMethod args0 :: below }]
def below0 : List Frame := [.native { method := ⟨0, 0⟩, args := #[] }]
def about1 : State := aboutOver below0
def p0 : Program := .bare "" "" ""
def e0 : Env := launch0.env 0 0 0
theorem w_frames : about1.frames = Frame.invoking theMethod args0 :: below0 := rfl
set_option maxRecDepth 65536 in
theorem w_args : argsFit about1.vm theMethod args0 = true := by decide +kernel
set_option maxRecDepth 65536 in
theorem w_heap : heapFits about1 = true := by decide +kernel
set_option maxRecDepth 65536 in
theorem w_runnable : about1.curStatus? = some .runnable := by decide +kernel
set_option maxRecDepth 65536 in
theorem w_alone : about1.alone = true := by decide +kernel
set_option maxRecDepth 65536 in
theorem w_named : about1.methodNamed? x = some theMethod := by decide +kernel
set_option maxRecDepth 65536 in
theorem w_hears : about1.hears theMethod below0 = true := by decide +kernel
set_option maxRecDepth 65536 in
theorem w_ripe : about1.ripe theMethod args0 below0 = true := by decide +kernel
theorem w_running : about1.status = .running := rfl
set_option maxRecDepth 65536 in
theorem w_room : about1.hasRoom e0.platform room_1 = true :=
  launch0.hasRoom_least _ room_1 (by decide +kernel) (by decide +kernel) (by decide +kernel) (by decide +kernel) (by decide +kernel) (by decide +kernel)
theorem allAtoms_all (ts : List Jvm.Cond) (a : Array Jvm.Value) (st : Jvm.State) : (allAtoms ts).before a st = ts.all (fun c => c.before a st) := by
  induction ts with
  | nil => rfl
  | cons c t ih =>
    show (Jvm.Cond.and c (allAtoms t)).before a st = _
    rw [Jvm.Cond.before_and, ih, List.all_cons]
def words1 : List Jvm.Cond := Jvm.Cond.code x code maxLocals ret :: tables_1
/-- a 'code' word, met by the world's own term for the bytes: nothing is compared byte by byte -/
theorem code_word {y : MethodName} {bytes : ByteArray} {mx : Nat} {rt : Option FieldType} {a : Array Value} {s : State} {m : MethodId} {meth : Method} {c : Code} (h1 : s.methodNamed? y = some m) (h2 : s.vm.method? m = some meth) (h3 : meth.code = some c) (h4 : c.code = bytes)
    (h5 : (c.maxLocals == mx && c.exceptionTable.isEmpty && decide (c.maxStack ≤ mostOperands) && decide (meth.sig.returnType = rt) && !meth.locks && decide (parseMethodDescriptor y.desc = some meth.sig)) = true) : (Jvm.Cond.code y bytes mx rt).before a s = true := by
  simp only [Bool.and_eq_true, beq_iff_eq, Bool.not_eq_true', decide_eq_true_eq] at h5
  obtain ⟨⟨⟨⟨⟨g1, g2⟩, g3⟩, g4⟩, g5⟩, g6⟩ := h5
  simp [Cond.before, Cond.holds, Cond.value, h1, h2, h3, h4, g1, g2, g3, g4, g5, g6]
def isCode : Jvm.Cond → Bool
  | .code _ _ _ _ => true
  | _ => false
theorem all_split {L : List Jvm.Cond} {P : Jvm.Cond → Bool} (h1 : L.all (fun c => isCode c || P c) = true) (h2 : ∀ c ∈ L.filter isCode, P c = true) : L.all P = true := by
  refine List.all_eq_true.mpr fun c hc => ?_
  have h := List.all_eq_true.mp h1 c hc
  rcases Bool.eq_false_or_eq_true (isCode c) with hi | hi
  · exact h2 c (List.mem_filter.mpr ⟨hc, hi⟩)
  · simpa [hi] using h
set_option maxRecDepth 65536 in
theorem w_c0 : (Jvm.Cond.code x code maxLocals ret).before args0 about1 = true := code_word (m := ⟨1, 2⟩) (meth := k1m2) (c := k1c2) (by decide +kernel) rfl rfl rfl (by decide +kernel)
set_option maxRecDepth 65536 in
theorem w_c1 : (Jvm.Cond.code ({ cls := "com/example/libgauge/libgauge/netty/ServedSinceMiss", name := "<init>", desc := "()V" } : Jvm.MethodName) prog_23_method_1_code (1 : Nat) (Option.none : Option Jvm.ClassFile.FieldType)).before args0 about1 = true := code_word (m := ⟨2, 0⟩) (meth := k2m0) (c := k2c0) (by decide +kernel) rfl rfl rfl (by decide +kernel)
set_option maxRecDepth 65536 in
theorem w_c2 : (Jvm.Cond.code ({ cls := "com/example/libgauge/libgauge/netty/ServedSinceMiss", name := "<init>", desc := "(Ljava/util/function/IntConsumer;)V" } : Jvm.MethodName) prog_23_method_2_code (2 : Nat) (Option.none : Option Jvm.ClassFile.FieldType)).before args0 about1 = true := code_word (m := ⟨2, 1⟩) (meth := k2m1) (c := k2c1) (by decide +kernel) rfl rfl rfl (by decide +kernel)
set_option maxRecDepth 65536 in
theorem w_c3 : (Jvm.Cond.code ({ cls := "java/lang/Object", name := "<init>", desc := "()V" } : Jvm.MethodName) object_method_1_code (1 : Nat) (Option.none : Option Jvm.ClassFile.FieldType)).before args0 about1 = true := code_word (m := ⟨0, 0⟩) (meth := k0m0) (c := k0c0) (by decide +kernel) rfl rfl rfl (by decide +kernel)
set_option maxRecDepth 65536 in
theorem w_c4 : (Jvm.Cond.code ({ cls := "com/example/libgauge/libgauge/netty/ServedSinceMissServedPinLaw", name := "expect", desc := "(II)Lcom/example/libgauge/libgauge/netty/ServedSinceMiss$Served;" } : Jvm.MethodName) method_2_code (2 : Nat) (Option.some (Jvm.ClassFile.FieldType.object "com/example/libgauge/libgauge/netty/ServedSinceMiss$Served"))).before args0 about1 = true := code_word (m := ⟨1, 1⟩) (meth := k1m1) (c := k1c1) (by decide +kernel) rfl rfl rfl (by decide +kernel)
set_option maxRecDepth 65536 in
theorem w_c5 : (Jvm.Cond.code ({ cls := "com/example/libgauge/libgauge/netty/ServedSinceMiss", name := "against", desc := "(I)Lcom/example/libgauge/libgauge/netty/ServedSinceMiss$Served;" } : Jvm.MethodName) prog_23_method_4_code (3 : Nat) (Option.some (Jvm.ClassFile.FieldType.object "com/example/libgauge/libgauge/netty/ServedSinceMiss$Served"))).before args0 about1 = true := code_word (m := ⟨2, 3⟩) (meth := k2m3) (c := k2c3) (by decide +kernel) rfl rfl rfl (by decide +kernel)
set_option maxRecDepth 65536 in
theorem w_c6 : (Jvm.Cond.code ({ cls := "com/example/libgauge/libgauge/netty/ServedSinceMiss", name := "lambda$new$0", desc := "(I)V" } : Jvm.MethodName) prog_23_method_6_code (1 : Nat) (Option.none : Option Jvm.ClassFile.FieldType)).before args0 about1 = true := code_word (m := ⟨2, 5⟩) (meth := k2m5) (c := k2c5) (by decide +kernel) rfl rfl rfl (by decide +kernel)
def codes1 : List Jvm.Cond := [Jvm.Cond.code x code maxLocals ret, Jvm.Cond.code ({ cls := "com/example/libgauge/libgauge/netty/ServedSinceMiss", name := "<init>", desc := "()V" } : Jvm.MethodName) prog_23_method_1_code (1 : Nat) (Option.none : Option Jvm.ClassFile.FieldType), Jvm.Cond.code ({ cls := "com/example/libgauge/libgauge/netty/ServedSinceMiss", name := "<init>", desc := "(Ljava/util/function/IntConsumer;)V" } : Jvm.MethodName) prog_23_method_2_code (2 : Nat) (Option.none : Option Jvm.ClassFile.FieldType), Jvm.Cond.code ({ cls := "java/lang/Object", name := "<init>", desc := "()V" } : Jvm.MethodName) object_method_1_code (1 : Nat) (Option.none : Option Jvm.ClassFile.FieldType), Jvm.Cond.code ({ cls := "com/example/libgauge/libgauge/netty/ServedSinceMissServedPinLaw", name := "expect", desc := "(II)Lcom/example/libgauge/libgauge/netty/ServedSinceMiss$Served;" } : Jvm.MethodName) method_2_code (2 : Nat) (Option.some (Jvm.ClassFile.FieldType.object "com/example/libgauge/libgauge/netty/ServedSinceMiss$Served")), Jvm.Cond.code ({ cls := "com/example/libgauge/libgauge/netty/ServedSinceMiss", name := "against", desc := "(I)Lcom/example/libgauge/libgauge/netty/ServedSinceMiss$Served;" } : Jvm.MethodName) prog_23_method_4_code (3 : Nat) (Option.some (Jvm.ClassFile.FieldType.object "com/example/libgauge/libgauge/netty/ServedSinceMiss$Served")), Jvm.Cond.code ({ cls := "com/example/libgauge/libgauge/netty/ServedSinceMiss", name := "lambda$new$0", desc := "(I)V" } : Jvm.MethodName) prog_23_method_6_code (1 : Nat) (Option.none : Option Jvm.ClassFile.FieldType)]
set_option maxRecDepth 65536 in
theorem codes_eq : words1.filter isCode = codes1 := rfl
theorem w_codes : ∀ c ∈ words1.filter isCode, c.before args0 about1 = true := by
  rw [codes_eq]
  intro c hc
  simp only [codes1, List.mem_cons, List.not_mem_nil, or_false] at hc
  rcases hc with rfl | rfl | rfl | rfl | rfl | rfl | rfl
  · exact w_c0
  · exact w_c1
  · exact w_c2
  · exact w_c3
  · exact w_c4
  · exact w_c5
  · exact w_c6
set_option maxRecDepth 65536 in
theorem w_t1 : (words1.take 24).all (fun c => isCode c || c.before args0 about1) = true := by decide +kernel
set_option maxRecDepth 65536 in
theorem w_t2 : ((words1.drop 24).take 24).all (fun c => isCode c || c.before args0 about1) = true := by decide +kernel
set_option maxRecDepth 65536 in
theorem w_t3 : ((words1.drop 24).drop 24).all (fun c => isCode c || c.before args0 about1) = true := by decide +kernel
theorem w_tables : (allAtoms (Jvm.Cond.code x code maxLocals ret :: tables_1)).before args0 about1 = true := by
  rw [allAtoms_all]
  show words1.all (fun c => c.before args0 about1) = true
  refine all_split ?_ w_codes
  rw [← List.take_append_drop 24 words1, List.all_append, w_t1, ← List.take_append_drop 24 (words1.drop 24), List.all_append, w_t2, w_t3]
  rfl
set_option maxRecDepth 65536 in
theorem w_case : (Jvm.Cond.and given_1 narrow_1).before args0 about1 = true := by decide +kernel
theorem w_applies : (headSpec (Jvm.Cond.code x code maxLocals ret :: tables_1) room_1).applies x e0.platform about1 = true :=
  (Spec.applies_iff w_frames).mpr ⟨w_running, w_runnable, w_alone, w_named, w_hears, w_ripe, w_room, w_tables⟩
theorem atStart : AtStart classFile x code maxLocals ret World_1 tables_1 room_1 Calls_1 rest_1 Pre_1 launch0 p0 e0 about1 theMethod args0 below0 :=
  ⟨lists_1, trivial, launch0.admits_env _ _ _, launch0.least_env, fairChoices_fair.cas, fairChoices_fair.clock, w_frames, w_args, w_heap, w_applies, trivial, trivial, w_case⟩
end start1
theorem witness_1 : WitnessClaimed_1 := ⟨start1.p0, start1.e0, start1.about1, start1.theMethod, start1.args0, start1.below0, start1.atStart⟩
end Jvm.Pilot.@@N@@
