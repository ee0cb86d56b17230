import JvmDerived
import JvmDerived.Pilot.@@N@@Statement
import JvmDerived.Pilot.@@N@@Code
set_option linter.unusedVariables false
set_option linter.unusedSimpArgs false
namespace Jvm.Pilot.@@N@@
open Jvm Jvm.ClassFile Sem Op Lib Jvm.Free Jvm.Stand Jvm.LawKit Jvm.RoadKit Bundle Jvm.Pilot.@@N@@.Jvm.D
section Own
variable {p : Program} {l : Launch} {e : Env} {R : Room} {s : State} {m : MethodId} {args : Array Value} {below : List Frame} {meth : Method} {c : Code} {T T' : State} {cells slots : Nat} {Z : State} {bytes : ByteArray} {mL : Nat} {ret : Option FieldType} {own nm : String} {Q : Option Value → Heap → Prop} {cC cS : Nat} {pc : Nat} {Ls : Array Slot} {st : List Value} {a0 : Array Value} {g g' : JFrame}
/-- the walk stands at T, so many cells and slots made, nothing old written -/
def Wk (l : Launch) (Z : State) (R : Room) (bytes : ByteArray) (mL : Nat) (ret : Option FieldType) (own nm : String) (p : Program) (e : Env) (s : State) (m : MethodId) (args : Array Value) (below : List Frame) (meth : Method) (c : Code) (T : State) (cells slots : Nat) : Prop :=
  (p.tables.exec = Jvm.exec ∧ c.code = bytes ∧ c.maxLocals = mL ∧ meth.sig.returnType = ret ∧ meth.locks = false ∧ s.vm.findClass own = some m.cls ∧ meth.name = nm ∧ Z.Warmed39 s.vm) ∧
  ∃ locs, Stand p l e R s m args below meth c T locs cells slots ∧ Fr Z.heap.size locs ∧ Ext Z.heap T.heap
/-- from T with frame g the method comes to its end, and Q holds there -/
def Ends (p : Program) (e : Env) (below : List Frame) (s : State) (Z : State) (Q : Option Value → Heap → Prop) (cC cS : Nat) (T : State) (g : JFrame) : Prop :=
  ∃ t o, Steps p.tables e below (T.setTop g) t ∧ t.status = .running ∧ Ended t below o ∧ ∃ v L, o = .returned v ∧ (Fr Z.heap.size L ∧ Ext Z.heap t.heap ∧ Q v t.heap) ∧ FrameEnd s o t L cC cS
/-- a method's contract -/
def Ct (l : Launch) (Z : State) (y : MethodName) (bytes : ByteArray) (mL : Nat) (ret : Option FieldType) (rm : Room) (as' : Array Value) (h : Heap) (Q : Option Value → Heap → Prop) : Prop :=
  ∀ ws, MetFree l y (head1 (Jvm.Cond.code y bytes mL ret :: ws) rm) (fun a U => a = as' ∧ Z.Warmed39 U.vm ∧ U.heap = h) (fun _ _ _ _ _ => True) (fun _ U o U' => ∃ v L, o = .returned v ∧ (Fr Z.heap.size L ∧ Ext Z.heap U'.heap ∧ Q v U'.heap) ∧ FrameEnd U o U' L rm.cells rm.slots)
theorem Wk.hx (X : Wk l Z R bytes mL ret own nm p e s m args below meth c T cells slots) : p.tables.exec = Jvm.exec := X.1.1
theorem Wk.hb (X : Wk l Z R bytes mL ret own nm p e s m args below meth c T cells slots) {pc : Nat} {r : Except DecodeError (Instr × Nat)} (h : decode bytes pc = r) : decode c.code pc = r := X.1.2.1 ▸ h
theorem Wk.hown (X : Wk l Z R bytes mL ret own nm p e s m args below meth c T cells slots) : s.vm.findClass own = some m.cls := X.1.2.2.2.2.2.1
theorem Wk.hZ (X : Wk l Z R bytes mL ret own nm p e s m args below meth c T cells slots) : Z.Warmed39 s.vm := X.1.2.2.2.2.2.2.2
theorem Wk.at (X : Wk l Z R bytes mL ret own nm p e s m args below meth c T cells slots) : At T m c below := by obtain ⟨-, _, X, -⟩ := X; exact X.here
theorem Wk.old (X : Wk l Z R bytes mL ret own nm p e s m args below meth c T cells slots) : Ext Z.heap T.heap := by obtain ⟨-, _, -, -, X⟩ := X; exact X
theorem Wk.le (X : Wk l Z R bytes mL ret own nm p e s m args below meth c T cells slots) : Z.heap.size ≤ T.heap.size := X.old.1
theorem Wk.size (X : Wk l Z R bytes mL ret own nm p e s m args below meth c T cells slots) (h : Ls.size = mL) {pc : Nat} {st : List Value} : (mkF m pc Ls st).locals.size = c.maxLocals := h.trans X.1.2.2.1.symm
theorem Wk.more (X : Wk l Z R bytes mL ret own nm p e s m args below meth c T cells slots) {cells' slots' : Nat} (h1 : cells ≤ cells') (h2 : slots ≤ slots') : Wk l Z R bytes mL ret own nm p e s m args below meth c T cells' slots' := by
  obtain ⟨q, locs, Y, r⟩ := X; exact ⟨q, locs, Y.more h1 h2, r⟩
theorem E_by (f : ∀ target, Steps p.tables e below (T'.setTop g') target → Steps p.tables e below (T.setTop g) target) (k : Ends p e below s Z Q cC cS T' g') : Ends p e below s Z Q cC cS T g := by
  obtain ⟨t, o, h1, r⟩ := k; exact ⟨t, o, f _ h1, r⟩
theorem E_tr (f : Steps p.tables e below (T.setTop g) (T'.setTop g')) (k : Ends p e below s Z Q cC cS T' g') : Ends p e below s Z Q cC cS T g := E_by (fun _ q => f.trans q) k
theorem Keep.of_ext {h h' : Heap} (E : Ext h h') : Keep h h' [] := (Keep.refl h []).ext E
theorem own_keq {h h1 h2 : Heap} {ws : List Addr} (K : Keep h h1 ws) (q : h2 = h1) : Keep h h2 ws := q ▸ K
theorem Keep.old {h h' : Heap} {ws : List Addr} (O : Ext Z.heap h) (K : Keep h h' ws) (q : ∀ x ∈ ws, Z.heap.size ≤ x) : Ext Z.heap h' := ⟨Nat.le_trans O.1 K.1, fun x c r => K.2.1 x c (O.2 x c r) fun z => absurd (Array.getElem?_eq_some_iff.mp r).1 (Nat.not_lt.mpr (q x z))⟩
theorem Ct.of_body {y1 y2 y3 : String} {rm : Room} {as' : Array Value} {h : Heap} (pn : plainFor ⟨y1, y2, y3⟩ = true) (O : Ext Z.heap h) (ef : ∀ m, entryFrame m as' mL = mkF m 0 Ls [])
    (k : ∀ {p : Program} {e : Env} {s : State} {m : MethodId} {below : List Frame} {meth : Method} {c : Code} {T : State}, Wk l Z rm bytes mL ret y1 y2 p e s m as' below meth c T 0 0 → T.heap = h → Ends p e below s Z Q rm.cells rm.slots T (mkF m 0 Ls [])) : Ct l Z ⟨y1, y2, y3⟩ bytes mL ret rm as' h Q := by
  intro ws
  refine MetFree.of_bodySF pn hisR ?_
  intro p e s m args below meth c s₁ Bd hml0 hP hK
  obtain ⟨rfl, hZ, hh⟩ := hP
  have e0 : s₁.heap = h := by rw [← hh, Bd.state]; rfl
  have X : Wk l Z rm bytes mL ret y1 y2 p e s m args below meth c s₁ 0 0 := ⟨⟨Bd.exec, Bd.bytes, hml0, Bd.returns, Bd.notSynchronized, findClass_of_methodNamed Bd.named, (name_of_methodNamed Bd.named Bd.method).1, hZ⟩, [], Stand.of_body Bd, Fr.nil _, e0 ▸ O⟩
  obtain ⟨t, o, h1, r⟩ := k X e0
  exact ⟨t, o, castTop (ef m) h1, r⟩
theorem Ct.back {y : MethodName} {rm : Room} {as' : Array Value} {h : Heap} {mL' : Nat} {bytes' : ByteArray} {ret' : Option FieldType} {Q' : Option Value → Heap → Prop} (hC : Ct l Z y bytes' mL' ret' rm as' h Q') {len W : Nat}
    (hZ : Z.Warmed39 s.vm) (wc : (Jvm.Cond.code y bytes' mL' ret').before a0 Z = true) (wz : (Jvm.Cond.initialized y.cls).before a0 Z = true) (hf : rm.frames + 1 ≤ R.frames) (hl : W + (mL' + 11) + rm.locals ≤ R.locals) :
    Back l R p e below s args y len W (fun A a => a = as' ∧ A.U.heap = h ∧ A.cells + rm.cells ≤ R.cells ∧ A.slots + rm.slots ≤ R.slots)
      (fun A _ v B => ∃ L, (Fr Z.heap.size L ∧ Ext Z.heap B.U.heap ∧ Q' v B.U.heap) ∧ B.locs = A.locs ++ L ∧ B.cells = A.cells + rm.cells ∧ B.slots = A.slots + rm.slots) :=
  backOf (Q := fun v h L => Fr Z.heap.size L ∧ Ext Z.heap h ∧ Q' v h) (hC []) hZ wc wz hf hl

theorem E_aloadN (X : Wk l Z R bytes mL ret own nm p e s m args below meth c T cells slots) {j : Fin 4} {v : Value} (hd : decode bytes pc = .ok (.aload_n j, 1)) (hl : Ls[j.val]? = some (.val v)) (hv : v.isRef = true) {pc' : Nat} (hp : pc + 1 = pc') (k : Ends p e below s Z Q cC cS T (mkF m pc' Ls (v :: st))) : Ends p e below s Z Q cC cS T (mkF m pc Ls (st)) := by
  subst hp; exact E_by (fun _ q => XS.aloadN X.at X.hx rfl (X.hb hd) hl hv q) k
theorem E_aload (X : Wk l Z R bytes mL ret own nm p e s m args below meth c T cells slots) {j : Nat} {v : Value} (hd : decode bytes pc = .ok (.aload j, 2)) (hl : Ls[j]? = some (.val v)) (hv : v.isRef = true) {pc' : Nat} (hp : pc + 2 = pc') (k : Ends p e below s Z Q cC cS T (mkF m pc' Ls (v :: st))) : Ends p e below s Z Q cC cS T (mkF m pc Ls (st)) := by
  subst hp; exact E_by (fun _ q => XS.aload X.at X.hx rfl (X.hb hd) hl hv q) k
theorem E_iloadN (X : Wk l Z R bytes mL ret own nm p e s m args below meth c T cells slots) {j : Fin 4} {v : Int32} (hd : decode bytes pc = .ok (.iload_n j, 1)) (hl : Ls[j.val]? = some (.val (.int v))) {pc' : Nat} (hp : pc + 1 = pc') (k : Ends p e below s Z Q cC cS T (mkF m pc' Ls (.int v :: st))) : Ends p e below s Z Q cC cS T (mkF m pc Ls (st)) := by
  subst hp; exact E_by (fun _ q => XS.iloadN X.at X.hx rfl (X.hb hd) hl q) k
theorem E_iload (X : Wk l Z R bytes mL ret own nm p e s m args below meth c T cells slots) {j : Nat} {v : Int32} (hd : decode bytes pc = .ok (.iload j, 2)) (hl : Ls[j]? = some (.val (.int v))) {pc' : Nat} (hp : pc + 2 = pc') (k : Ends p e below s Z Q cC cS T (mkF m pc' Ls (.int v :: st))) : Ends p e below s Z Q cC cS T (mkF m pc Ls (st)) := by
  subst hp; exact E_by (fun _ q => XS.iload X.at X.hx rfl (X.hb hd) hl q) k
theorem E_aconstNull (X : Wk l Z R bytes mL ret own nm p e s m args below meth c T cells slots) (hd : decode bytes pc = .ok (.aconst_null, 1)) {pc' : Nat} (hp : pc + 1 = pc') (k : Ends p e below s Z Q cC cS T (mkF m pc' Ls (.null :: st))) : Ends p e below s Z Q cC cS T (mkF m pc Ls (st)) := by
  subst hp; exact E_by (fun _ q => XS.aconstNull X.at X.hx rfl (X.hb hd) q) k
theorem E_iconst (X : Wk l Z R bytes mL ret own nm p e s m args below meth c T cells slots) {i : Int} {v : Int32} (hd : decode bytes pc = .ok (.iconst i, 1)) (hv : Int32.ofInt i = v) {pc' : Nat} (hp : pc + 1 = pc') (k : Ends p e below s Z Q cC cS T (mkF m pc' Ls (.int v :: st))) : Ends p e below s Z Q cC cS T (mkF m pc Ls st) := by
  subst hp hv; exact E_by (fun _ q => XS.iconst X.at X.hx rfl (X.hb hd) q) k
theorem E_bipush (X : Wk l Z R bytes mL ret own nm p e s m args below meth c T cells slots) {i : Int} {v : Int32} (hd : decode bytes pc = .ok (.bipush i, 2)) (hv : (Int8.ofInt i).toInt32 = v) {pc' : Nat} (hp : pc + 2 = pc') (k : Ends p e below s Z Q cC cS T (mkF m pc' Ls (.int v :: st))) : Ends p e below s Z Q cC cS T (mkF m pc Ls st) := by
  subst hp hv; exact E_by (fun _ q => XS.bipush X.at X.hx rfl (X.hb hd) q) k
theorem E_sipush (X : Wk l Z R bytes mL ret own nm p e s m args below meth c T cells slots) {i : Int} {v : Int32} (hd : decode bytes pc = .ok (.sipush i, 3)) (hv : (Int16.ofInt i).toInt32 = v) {pc' : Nat} (hp : pc + 3 = pc') (k : Ends p e below s Z Q cC cS T (mkF m pc' Ls (.int v :: st))) : Ends p e below s Z Q cC cS T (mkF m pc Ls st) := by
  subst hp hv; exact E_by (fun _ q => XS.sipush X.at X.hx rfl (X.hb hd) q) k
theorem E_iadd (X : Wk l Z R bytes mL ret own nm p e s m args below meth c T cells slots) {x y v : Int32} (hd : decode bytes pc = .ok (.iadd, 1)) (hv : x + y = v) {pc' : Nat} (hp : pc + 1 = pc') (k : Ends p e below s Z Q cC cS T (mkF m pc' Ls (.int v :: st))) : Ends p e below s Z Q cC cS T (mkF m pc Ls (.int y :: .int x :: st)) := by
  subst hp hv; exact E_by (fun _ q => XS.iadd X.at X.hx rfl (X.hb hd) rfl q) k
theorem E_isub (X : Wk l Z R bytes mL ret own nm p e s m args below meth c T cells slots) {x y v : Int32} (hd : decode bytes pc = .ok (.isub, 1)) (hv : x - y = v) {pc' : Nat} (hp : pc + 1 = pc') (k : Ends p e below s Z Q cC cS T (mkF m pc' Ls (.int v :: st))) : Ends p e below s Z Q cC cS T (mkF m pc Ls (.int y :: .int x :: st)) := by
  subst hp hv; exact E_by (fun _ q => XS.isub X.at X.hx rfl (X.hb hd) rfl q) k
theorem E_imul (X : Wk l Z R bytes mL ret own nm p e s m args below meth c T cells slots) {x y v : Int32} (hd : decode bytes pc = .ok (.imul, 1)) (hv : x * y = v) {pc' : Nat} (hp : pc + 1 = pc') (k : Ends p e below s Z Q cC cS T (mkF m pc' Ls (.int v :: st))) : Ends p e below s Z Q cC cS T (mkF m pc Ls (.int y :: .int x :: st)) := by
  subst hp hv; exact E_by (fun _ q => XS.imul X.at X.hx rfl (X.hb hd) rfl q) k
theorem E_iand (X : Wk l Z R bytes mL ret own nm p e s m args below meth c T cells slots) {x y v : Int32} (hd : decode bytes pc = .ok (.iand, 1)) (hv : x &&& y = v) {pc' : Nat} (hp : pc + 1 = pc') (k : Ends p e below s Z Q cC cS T (mkF m pc' Ls (.int v :: st))) : Ends p e below s Z Q cC cS T (mkF m pc Ls (.int y :: .int x :: st)) := by
  subst hp hv; exact E_by (fun _ q => XS.iand X.at X.hx rfl (X.hb hd) rfl q) k
theorem E_ior (X : Wk l Z R bytes mL ret own nm p e s m args below meth c T cells slots) {x y v : Int32} (hd : decode bytes pc = .ok (.ior, 1)) (hv : x ||| y = v) {pc' : Nat} (hp : pc + 1 = pc') (k : Ends p e below s Z Q cC cS T (mkF m pc' Ls (.int v :: st))) : Ends p e below s Z Q cC cS T (mkF m pc Ls (.int y :: .int x :: st)) := by
  subst hp hv; exact E_by (fun _ q => XS.ior X.at X.hx rfl (X.hb hd) rfl q) k
theorem E_ixor (X : Wk l Z R bytes mL ret own nm p e s m args below meth c T cells slots) {x y v : Int32} (hd : decode bytes pc = .ok (.ixor, 1)) (hv : x ^^^ y = v) {pc' : Nat} (hp : pc + 1 = pc') (k : Ends p e below s Z Q cC cS T (mkF m pc' Ls (.int v :: st))) : Ends p e below s Z Q cC cS T (mkF m pc Ls (.int y :: .int x :: st)) := by
  subst hp hv; exact E_by (fun _ q => XS.ixor X.at X.hx rfl (X.hb hd) rfl q) k
theorem E_ishl (X : Wk l Z R bytes mL ret own nm p e s m args below meth c T cells slots) {x y v : Int32} (hd : decode bytes pc = .ok (.ishl, 1)) (hv : x <<< (y &&& 31) = v) {pc' : Nat} (hp : pc + 1 = pc') (k : Ends p e below s Z Q cC cS T (mkF m pc' Ls (.int v :: st))) : Ends p e below s Z Q cC cS T (mkF m pc Ls (.int y :: .int x :: st)) := by
  subst hp hv; exact E_by (fun _ q => XS.ishl X.at X.hx rfl (X.hb hd) rfl q) k
theorem E_ishr (X : Wk l Z R bytes mL ret own nm p e s m args below meth c T cells slots) {x y v : Int32} (hd : decode bytes pc = .ok (.ishr, 1)) (hv : x >>> (y &&& 31) = v) {pc' : Nat} (hp : pc + 1 = pc') (k : Ends p e below s Z Q cC cS T (mkF m pc' Ls (.int v :: st))) : Ends p e below s Z Q cC cS T (mkF m pc Ls (.int y :: .int x :: st)) := by
  subst hp hv; exact E_by (fun _ q => XS.ishr X.at X.hx rfl (X.hb hd) rfl q) k
theorem E_iushr (X : Wk l Z R bytes mL ret own nm p e s m args below meth c T cells slots) {x y v : Int32} (hd : decode bytes pc = .ok (.iushr, 1)) (hv : (x.toUInt32 >>> (y &&& 31).toUInt32).toInt32 = v) {pc' : Nat} (hp : pc + 1 = pc') (k : Ends p e below s Z Q cC cS T (mkF m pc' Ls (.int v :: st))) : Ends p e below s Z Q cC cS T (mkF m pc Ls (.int y :: .int x :: st)) := by
  subst hp hv; exact E_by (fun _ q => XS.iushr X.at X.hx rfl (X.hb hd) rfl q) k
theorem E_ineg (X : Wk l Z R bytes mL ret own nm p e s m args below meth c T cells slots) {x v : Int32} (hd : decode bytes pc = .ok (.ineg, 1)) (hv : -x = v) {pc' : Nat} (hp : pc + 1 = pc') (k : Ends p e below s Z Q cC cS T (mkF m pc' Ls (.int v :: st))) : Ends p e below s Z Q cC cS T (mkF m pc Ls (.int x :: st)) := by
  subst hp hv; exact E_by (fun _ q => XS.ineg X.at X.hx rfl (X.hb hd) rfl q) k
theorem E_i2c (X : Wk l Z R bytes mL ret own nm p e s m args below meth c T cells slots) {x v : Int32} (hd : decode bytes pc = .ok (.i2c, 1)) (hv : x.toUInt32.toUInt16.toUInt32.toInt32 = v) {pc' : Nat} (hp : pc + 1 = pc') (k : Ends p e below s Z Q cC cS T (mkF m pc' Ls (.int v :: st))) : Ends p e below s Z Q cC cS T (mkF m pc Ls (.int x :: st)) := by
  subst hp hv; exact E_by (fun _ q => XS.i2c X.at X.hx rfl (X.hb hd) rfl q) k
theorem E_i2b (X : Wk l Z R bytes mL ret own nm p e s m args below meth c T cells slots) {x v : Int32} (hd : decode bytes pc = .ok (.i2b, 1)) (hv : x.toInt8.toInt32 = v) {pc' : Nat} (hp : pc + 1 = pc') (k : Ends p e below s Z Q cC cS T (mkF m pc' Ls (.int v :: st))) : Ends p e below s Z Q cC cS T (mkF m pc Ls (.int x :: st)) := by
  subst hp hv; exact E_by (fun _ q => XS.i2b X.at X.hx rfl (X.hb hd) rfl q) k
theorem E_i2s (X : Wk l Z R bytes mL ret own nm p e s m args below meth c T cells slots) {x v : Int32} (hd : decode bytes pc = .ok (.i2s, 1)) (hv : x.toInt16.toInt32 = v) {pc' : Nat} (hp : pc + 1 = pc') (k : Ends p e below s Z Q cC cS T (mkF m pc' Ls (.int v :: st))) : Ends p e below s Z Q cC cS T (mkF m pc Ls (.int x :: st)) := by
  subst hp hv; exact E_by (fun _ q => XS.i2s X.at X.hx rfl (X.hb hd) rfl q) k
theorem E_dup (X : Wk l Z R bytes mL ret own nm p e s m args below meth c T cells slots) {v : Value} (hd : decode bytes pc = .ok (.dup, 1)) (hc : v.category = 1) {pc' : Nat} (hp : pc + 1 = pc') (k : Ends p e below s Z Q cC cS T (mkF m pc' Ls (v :: v :: st))) : Ends p e below s Z Q cC cS T (mkF m pc Ls (v :: st)) := by
  subst hp; exact E_by (fun _ q => XS.dup X.at X.hx rfl (X.hb hd) rfl hc q) k
theorem E_dupx1 (X : Wk l Z R bytes mL ret own nm p e s m args below meth c T cells slots) {v u : Value} (hd : decode bytes pc = .ok (.dup_x1, 1)) (hc : v.category = 1) (hc2 : u.category = 1) {pc' : Nat} (hp : pc + 1 = pc') (k : Ends p e below s Z Q cC cS T (mkF m pc' Ls (v :: u :: v :: st))) : Ends p e below s Z Q cC cS T (mkF m pc Ls (v :: u :: st)) := by
  subst hp; exact E_by (fun _ q => XT.dupX1 X.at X.hx rfl (X.hb hd) rfl hc hc2 q) k
theorem E_pop (X : Wk l Z R bytes mL ret own nm p e s m args below meth c T cells slots) {v : Value} (hd : decode bytes pc = .ok (.pop, 1)) (hc : v.category = 1) {pc' : Nat} (hp : pc + 1 = pc') (k : Ends p e below s Z Q cC cS T (mkF m pc' Ls (st))) : Ends p e below s Z Q cC cS T (mkF m pc Ls (v :: st)) := by
  subst hp; exact E_by (fun _ q => XS.pop X.at X.hx rfl (X.hb hd) rfl hc q) k
theorem E_istoreN (X : Wk l Z R bytes mL ret own nm p e s m args below meth c T cells slots) {j : Fin 4} {x : Int32} (hd : decode bytes pc = .ok (.istore_n j, 1)) {l' : Array Slot} (hl : storeLocals Ls j.val (.int x) = some l') {pc' : Nat} (hp : pc + 1 = pc') (k : Ends p e below s Z Q cC cS T (mkF m pc' l' (st))) : Ends p e below s Z Q cC cS T (mkF m pc Ls (.int x :: st)) := by
  subst hp; exact E_by (fun _ q => XS.istoreN X.at X.hx rfl (X.hb hd) rfl hl q) k
theorem E_istore (X : Wk l Z R bytes mL ret own nm p e s m args below meth c T cells slots) {j : Nat} {x : Int32} (hd : decode bytes pc = .ok (.istore j, 2)) {l' : Array Slot} (hl : storeLocals Ls j (.int x) = some l') {pc' : Nat} (hp : pc + 2 = pc') (k : Ends p e below s Z Q cC cS T (mkF m pc' l' (st))) : Ends p e below s Z Q cC cS T (mkF m pc Ls (.int x :: st)) := by
  subst hp; exact E_by (fun _ q => XS.istore X.at X.hx rfl (X.hb hd) rfl hl q) k
theorem E_astoreN (X : Wk l Z R bytes mL ret own nm p e s m args below meth c T cells slots) {j : Fin 4} {x : Value} (hd : decode bytes pc = .ok (.astore_n j, 1)) (hv : x.isRef = true) {l' : Array Slot} (hl : storeLocals Ls j.val x = some l') {pc' : Nat} (hp : pc + 1 = pc') (k : Ends p e below s Z Q cC cS T (mkF m pc' l' (st))) : Ends p e below s Z Q cC cS T (mkF m pc Ls (x :: st)) := by
  subst hp; exact E_by (fun _ q => XS.astoreN X.at X.hx rfl (X.hb hd) rfl hv hl q) k
theorem E_astore (X : Wk l Z R bytes mL ret own nm p e s m args below meth c T cells slots) {j : Nat} {x : Value} (hd : decode bytes pc = .ok (.astore j, 2)) (hv : x.isRef = true) {l' : Array Slot} (hl : storeLocals Ls j x = some l') {pc' : Nat} (hp : pc + 2 = pc') (k : Ends p e below s Z Q cC cS T (mkF m pc' l' (st))) : Ends p e below s Z Q cC cS T (mkF m pc Ls (x :: st)) := by
  subst hp; exact E_by (fun _ q => XS.astore X.at X.hx rfl (X.hb hd) rfl hv hl q) k
theorem E_iinc (X : Wk l Z R bytes mL ret own nm p e s m args below meth c T cells slots) {j : Nat} {i : Int} {x y : Int32} (hd : decode bytes pc = .ok (.iinc j i, 3)) (hy : x + Int32.ofInt i = y) (hl : Ls[j]? = some (.val (.int x))) {l' : Array Slot} (hl' : storeLocals Ls j (.int y) = some l') {pc' : Nat} (hp : pc + 3 = pc') (k : Ends p e below s Z Q cC cS T (mkF m pc' l' st)) : Ends p e below s Z Q cC cS T (mkF m pc Ls st) := by
  subst hp hy; exact E_by (fun _ q => XS.iinc X.at X.hx rfl (X.hb hd) hl hl' q) k
theorem E_irem (X : Wk l Z R bytes mL ret own nm p e s m args below meth c T cells slots) {x y v : Int32} (hd : decode bytes pc = .ok (.irem, 1)) (hy : y ≠ 0) (hv : x % y = v) {pc' : Nat} (hp : pc + 1 = pc') (k : Ends p e below s Z Q cC cS T (mkF m pc' Ls (.int v :: st))) : Ends p e below s Z Q cC cS T (mkF m pc Ls (.int y :: .int x :: st)) := by
  subst hp hv; obtain ⟨q, locs, Y, r⟩ := id X; exact E_by (fun _ k => iremM Y X.hx rfl (X.hb hd) rfl hy k) k
theorem E_idiv (X : Wk l Z R bytes mL ret own nm p e s m args below meth c T cells slots) {x y v : Int32} (hd : decode bytes pc = .ok (.idiv, 1)) (hy : y ≠ 0) (hv : x / y = v) {pc' : Nat} (hp : pc + 1 = pc') (k : Ends p e below s Z Q cC cS T (mkF m pc' Ls (.int v :: st))) : Ends p e below s Z Q cC cS T (mkF m pc Ls (.int y :: .int x :: st)) := by
  subst hp hv; exact E_by (fun _ k => XS.idiv X.at X.hx rfl (X.hb hd) rfl hy k) k
theorem E_goto (X : Wk l Z R bytes mL ret own nm p e s m args below meth c T cells slots) {o : Int} (hd : decode bytes pc = .ok (.goto o, 3)) {pc' : Nat} (ho : 0 ≤ (pc : Int) + o) (hp : ((pc : Int) + o).toNat = pc') (k : Ends p e below s Z Q cC cS T (mkF m pc' Ls st)) : Ends p e below s Z Q cC cS T (mkF m pc Ls st) :=
  E_by (fun _ q => XS.goto X.at X.hx rfl (pc0 := pc) rfl (X.hb hd) ho hp q) k
theorem E_ifT (X : Wk l Z R bytes mL ret own nm p e s m args below meth c T cells slots) {cd : ClassFile.Cond} {o : Int} {x : Int32} (hd : decode bytes pc = .ok (.ifCond cd o, 3)) (hc : ifCond.holds cd x = true) {pc' : Nat} (ho : 0 ≤ (pc : Int) + o) (hp : ((pc : Int) + o).toNat = pc') (k : Ends p e below s Z Q cC cS T (mkF m pc' Ls st)) : Ends p e below s Z Q cC cS T (mkF m pc Ls (.int x :: st)) :=
  E_by (fun _ q => XS.ifYes X.at X.hx rfl (pc0 := pc) rfl (X.hb hd) rfl hc ho hp q) k
theorem E_ifF (X : Wk l Z R bytes mL ret own nm p e s m args below meth c T cells slots) {cd : ClassFile.Cond} {o : Int} {x : Int32} (hd : decode bytes pc = .ok (.ifCond cd o, 3)) (hc : ifCond.holds cd x = false) {pc' : Nat} (hp : pc + 3 = pc') (k : Ends p e below s Z Q cC cS T (mkF m pc' Ls st)) : Ends p e below s Z Q cC cS T (mkF m pc Ls (.int x :: st)) := by
  subst hp; exact E_by (fun _ q => XS.ifNo X.at X.hx rfl (X.hb hd) rfl hc q) k
theorem E_icT (X : Wk l Z R bytes mL ret own nm p e s m args below meth c T cells slots) {cd : ClassFile.Cond} {o : Int} {x y : Int32} (hd : decode bytes pc = .ok (.if_icmp cd o, 3)) (hc : if_icmp.holds cd x y = true) {pc' : Nat} (ho : 0 ≤ (pc : Int) + o) (hp : ((pc : Int) + o).toNat = pc') (k : Ends p e below s Z Q cC cS T (mkF m pc' Ls st)) : Ends p e below s Z Q cC cS T (mkF m pc Ls (.int y :: .int x :: st)) :=
  E_by (fun _ q => XS.icmpYes X.at X.hx rfl (pc0 := pc) rfl (X.hb hd) rfl hc ho hp q) k
theorem E_icF (X : Wk l Z R bytes mL ret own nm p e s m args below meth c T cells slots) {cd : ClassFile.Cond} {o : Int} {x y : Int32} (hd : decode bytes pc = .ok (.if_icmp cd o, 3)) (hc : if_icmp.holds cd x y = false) {pc' : Nat} (hp : pc + 3 = pc') (k : Ends p e below s Z Q cC cS T (mkF m pc' Ls st)) : Ends p e below s Z Q cC cS T (mkF m pc Ls (.int y :: .int x :: st)) := by
  subst hp; exact E_by (fun _ q => XS.icmpNo X.at X.hx rfl (X.hb hd) rfl hc q) k
theorem E_nullT (X : Wk l Z R bytes mL ret own nm p e s m args below meth c T cells slots) {o : Int} (hd : decode bytes pc = .ok (.ifnull o, 3)) {pc' : Nat} (ho : 0 ≤ (pc : Int) + o) (hp : ((pc : Int) + o).toNat = pc') (k : Ends p e below s Z Q cC cS T (mkF m pc' Ls st)) : Ends p e below s Z Q cC cS T (mkF m pc Ls (.null :: st)) :=
  E_by (fun _ q => XS.ifnullYes X.at X.hx rfl (pc0 := pc) rfl (X.hb hd) rfl ho hp q) k
theorem E_nullF (X : Wk l Z R bytes mL ret own nm p e s m args below meth c T cells slots) {o : Int} {b : Addr} (hd : decode bytes pc = .ok (.ifnull o, 3)) {pc' : Nat} (hp : pc + 3 = pc') (k : Ends p e below s Z Q cC cS T (mkF m pc' Ls st)) : Ends p e below s Z Q cC cS T (mkF m pc Ls (.ref b :: st)) := by
  subst hp; exact E_by (fun _ q => XS.ifnullNo X.at X.hx rfl (X.hb hd) rfl q) k
theorem E_nonnullT (X : Wk l Z R bytes mL ret own nm p e s m args below meth c T cells slots) {o : Int} {b : Addr} (hd : decode bytes pc = .ok (.ifnonnull o, 3)) {pc' : Nat} (ho : 0 ≤ (pc : Int) + o) (hp : ((pc : Int) + o).toNat = pc') (k : Ends p e below s Z Q cC cS T (mkF m pc' Ls st)) : Ends p e below s Z Q cC cS T (mkF m pc Ls (.ref b :: st)) :=
  E_by (fun _ q => XT.nonnullYes X.at X.hx rfl (pc0 := pc) rfl (X.hb hd) rfl rfl (fun q => nomatch q) ho hp q) k
theorem E_nonnullF (X : Wk l Z R bytes mL ret own nm p e s m args below meth c T cells slots) {o : Int} (hd : decode bytes pc = .ok (.ifnonnull o, 3)) {pc' : Nat} (hp : pc + 3 = pc') (k : Ends p e below s Z Q cC cS T (mkF m pc' Ls st)) : Ends p e below s Z Q cC cS T (mkF m pc Ls (.null :: st)) := by
  subst hp; exact E_by (fun _ q => XT.nonnullNo X.at X.hx rfl (X.hb hd) rfl rfl q) k
theorem E_acmp (X : Wk l Z R bytes mL ret own nm p e s m args below meth c T cells slots) {cd : ACond} {o : Int} {x y : Value} (hd : decode bytes pc = .ok (.if_acmp cd o, 3)) (h1 : x.isRef = true) (h2 : y.isRef = true) (same : Bool) (hq : decide (x = y) = same) {pc' : Nat} (ho : 0 ≤ (pc : Int) + o) (hp : pc' = if acV cd same = true then ((pc : Int) + o).toNat else pc + 3) (k : Ends p e below s Z Q cC cS T (mkF m pc' Ls st)) : Ends p e below s Z Q cC cS T (mkF m pc Ls (y :: x :: st)) := by
  obtain ⟨_, locs, Y, r⟩ := id X; exact E_by (fun _ q => acmp Y X.hx rfl h1 h2 (pc0 := pc) rfl (X.hb hd) rfl hq ho hp q) k
theorem E_ldcI (X : Wk l Z R bytes mL ret own nm p e s m args below meth c T cells slots) {ix : Nat} {v : Int32} (hd : decode bytes pc = .ok (.ldc ix, 2)) (w : (Jvm.Cond.constant own ix v).before a0 Z = true) {pc' : Nat} (hp : pc + 2 = pc') (k : Ends p e below s Z Q cC cS T (mkF m pc' Ls (.int v :: st))) : Ends p e below s Z Q cC cS T (mkF m pc Ls st) := by
  subst hp; obtain ⟨_, locs, Y, r⟩ := id X; exact E_by (fun _ q => Y.ldcI X.hx X.hown (mvT X.hZ w) rfl (X.hb hd) q) k
theorem E_new (X : Wk l Z R bytes mL ret own nm p e s m args below meth c T cells slots) {C : String} {ix n : Nat} (hd : decode bytes pc = .ok (.new ix, 3)) (w1 : (Jvm.Cond.classLink own ix C).before a0 Z = true) (w2 : (Jvm.Cond.instantiable C n).before a0 Z = true) (w3 : (Jvm.Cond.initialized C).before a0 Z = true) (hc : cells + 1 ≤ R.cells) (hs : slots + n ≤ R.slots) {pc' : Nat} (hp : pc + 3 = pc')
    (k : ∀ (T' : State) (b : Addr), Wk l Z R bytes mL ret own nm p e s m args below meth c T' (cells + 1) (slots + n) → b = T.heap.size → Keep T.heap T'.heap [] → Exa Z T'.heap b C → (∀ {O nm d : String} {ty : FieldType}, Laid Z a0 C O nm d → parseFieldDescriptor d = some ty → Fld Z T'.heap b O nm d (defaultValue ty)) → Ends p e below s Z Q cC cS T' (mkF m pc' Ls (.ref b :: st))) : Ends p e below s Z Q cC cS T (mkF m pc Ls st) := by
  subst hp; obtain ⟨q0, locs, Y, N, O⟩ := id X
  obtain ⟨T', h', Y', rfl, E, A, D, -, stp⟩ := newO Y X.hx X.hZ X.hown w1 w2 w3 rfl (g := mkF m pc Ls st) rfl (X.hb hd) hc hs
  exact E_by stp (k T' _ ⟨q0, locs, Y', N, Keep.old O (Keep.of_ext E) all0⟩ rfl (Keep.of_ext E) A D)
theorem E_newarray (X : Wk l Z R bytes mL ret own nm p e s m args below meth c T cells slots) {aty : ArrayType} {n : Int32} (cap : Nat) (hd : decode bytes pc = .ok (.newarray aty, 2)) (w : (Jvm.Cond.arrayClass (newarray.typeOf aty)).before a0 Z = true) (hn : ¬ n < 0) (hcap : n.toNatClampNeg ≤ cap) (hb : cap * 8 ≤ 536870912) (hc : cells + 1 ≤ R.cells) (hs : slots + cap ≤ R.slots) {pc' : Nat} (hp : pc + 2 = pc')
    (k : ∀ (T' : State) (b : Addr) (kA : ClassId), Wk l Z R bytes mL ret own nm p e s m args below meth c T' (cells + 1) (slots + cap) → b = T.heap.size → Keep T.heap T'.heap [] → Arv Z T'.heap b kA (newarray.typeOf aty) n [] (defaultValue (newarray.typeOf aty)) → Ends p e below s Z Q cC cS T' (mkF m pc' Ls (.ref b :: st))) : Ends p e below s Z Q cC cS T (mkF m pc Ls (.int n :: st)) := by
  subst hp; obtain ⟨q0, locs, Y, N, O⟩ := id X
  obtain ⟨T', h', kA, Y', rfl, E, A, stp⟩ := newP Y X.hx X.hZ w rfl (g := mkF m pc Ls (.int n :: st)) rfl (X.hb hd) rfl hn hcap hb hc hs
  exact E_by stp (k T' _ kA ⟨q0, locs, Y', N, Keep.old O (Keep.of_ext E) all0⟩ rfl (Keep.of_ext E) (Arv.new A hn))
theorem E_anewarray (X : Wk l Z R bytes mL ret own nm p e s m args below meth c T cells slots) {C : String} {ix : Nat} {n : Int32} (cap : Nat) (hd : decode bytes pc = .ok (.anewarray ix, 3)) (w1 : (Jvm.Cond.classLink own ix C).before a0 Z = true) (w2 : (Jvm.Cond.arrayOver (.object C)).before a0 Z = true) (hn : ¬ n < 0) (hcap : n.toNatClampNeg ≤ cap) (hb : cap * 8 ≤ 536870912) (hc : cells + 1 ≤ R.cells) (hs : slots + cap ≤ R.slots) {pc' : Nat} (hp : pc + 3 = pc')
    (k : ∀ (T' : State) (b : Addr) (kA : ClassId), Wk l Z R bytes mL ret own nm p e s m args below meth c T' (cells + 1) (slots + cap) → b = T.heap.size → Keep T.heap T'.heap [] → Arv Z T'.heap b kA (.object C) n [] .null → Ovr Z kA C → Ends p e below s Z Q cC cS T' (mkF m pc' Ls (.ref b :: st))) : Ends p e below s Z Q cC cS T (mkF m pc Ls (.int n :: st)) := by
  subst hp; obtain ⟨q0, locs, Y, N, O⟩ := id X
  obtain ⟨T', h', kA, Y', rfl, E, A, Ov, stp⟩ := newR Y X.hx X.hZ X.hown w1 w2 rfl (g := mkF m pc Ls (.int n :: st)) rfl (X.hb hd) rfl hn hcap hb hc hs
  exact E_by stp (k T' _ kA ⟨q0, locs, Y', N, Keep.old O (Keep.of_ext E) all0⟩ rfl (Keep.of_ext E) (Arv.new A hn) Ov)
theorem E_aastore (X : Wk l Z R bytes mL ret own nm p e s m args below meth c T cells slots) {a y : Addr} {kA : ClassId} {z j : Int32} {vs : List Value} {C : String} (i : Nat) (hd : decode bytes pc = .ok (.aastore, 1)) (V : Arv Z T.heap a kA (.object C) z vs .null) (Ov : Ovr Z kA C) (I : Ins Z T.heap y C true) (hj : ¬ j < 0 ∧ j < z) (hi : j.toNatClampNeg = i) (hl : i < vs.length) (ha : Z.heap.size ≤ a) {pc' : Nat} (hp : pc + 1 = pc')
    (k : ∀ (T' : State), Wk l Z R bytes mL ret own nm p e s m args below meth c T' cells slots → Keep T.heap T'.heap [a] → Arv Z T'.heap a kA (.object C) z (vs.set i (.ref y)) .null → Ends p e below s Z Q cC cS T' (mkF m pc' Ls st)) : Ends p e below s Z Q cC cS T (mkF m pc Ls (.ref y :: .int j :: .ref a :: st)) := by
  subst hp; obtain ⟨q0, locs, Y, N, O⟩ := id X
  obtain ⟨cl, A, q1, S1, N1, H1, G1⟩ := V
  obtain ⟨T', h', Y', rfl, W, stp⟩ := stR Y X.hx X.hZ rfl A (j := j) (inb_of S1 hj) rfl (Sto.ofV A q1 Ov I) (g := mkF m pc Ls (.ref y :: .int j :: .ref a :: st)) rfl rfl (X.hb hd)
  exact E_by stp (k T' ⟨q0, _, Y', Fr.snoc Y' N ha, Keep.old O (Keep.of_wr W) (allS ha all0)⟩ (Keep.of_wr W) (Arv.set A q1 S1 N1 H1 G1 rfl W i hi hl))
theorem E_aastoreA (X : Wk l Z R bytes mL ret own nm p e s m args below meth c T cells slots) {a y : Addr} {kA : ClassId} {z j : Int32} {vs : List Value} {C : String} (hd : decode bytes pc = .ok (.aastore, 1)) (V : Arv Z T.heap a kA (.object C) z vs .null) (Ov : Ovr Z kA C) (I : Ins Z T.heap y C true) (hj : ¬ j < 0 ∧ j < z) (hi : j.toNatClampNeg = vs.length) (ha : Z.heap.size ≤ a) {pc' : Nat} (hp : pc + 1 = pc')
    (k : ∀ (T' : State), Wk l Z R bytes mL ret own nm p e s m args below meth c T' cells slots → Keep T.heap T'.heap [a] → Arv Z T'.heap a kA (.object C) z (vs ++ [.ref y]) .null → Ends p e below s Z Q cC cS T' (mkF m pc' Ls st)) : Ends p e below s Z Q cC cS T (mkF m pc Ls (.ref y :: .int j :: .ref a :: st)) := by
  refine E_aastore X vs.length hd (V.pad (pad_rep vs .null 1)) Ov I hj hi (by simp) ha hp fun T' X' K' V' => k T' X' K' ?_
  have q : (vs ++ List.replicate 1 Value.null).set vs.length (.ref y) = vs ++ [.ref y] := by simp
  rw [q] at V'; exact V'
theorem E_iastore (X : Wk l Z R bytes mL ret own nm p e s m args below meth c T cells slots) {a : Addr} {kA : ClassId} {z j x : Int32} {vs : List Value} {dv : Value} {y : Int32} (i : Nat) (hd : decode bytes pc = .ok (.iastore, 1)) (hy : x = y) (V : Arv Z T.heap a kA .int z vs dv) (hj : ¬ j < 0 ∧ j < z) (hi : j.toNatClampNeg = i) (hl : i < vs.length) (ha : Z.heap.size ≤ a) {pc' : Nat} (hp : pc + 1 = pc')
    (k : ∀ (T' : State), Wk l Z R bytes mL ret own nm p e s m args below meth c T' cells slots → Keep T.heap T'.heap [a] → Arv Z T'.heap a kA .int z (vs.set i (.int y)) dv → Ends p e below s Z Q cC cS T' (mkF m pc' Ls st)) : Ends p e below s Z Q cC cS T (mkF m pc Ls (.int x :: .int j :: .ref a :: st)) := by
  subst hp hy; obtain ⟨q0, locs, Y, N, O⟩ := id X
  obtain ⟨cl, A, q1, S1, N1, H1, G1⟩ := V
  obtain ⟨T', h', Y', rfl, W, stp⟩ := stI Y X.hx X.hZ rfl A (j := j) (x := x) (inb_of S1 hj) (g := mkF m pc Ls (.int x :: .int j :: .ref a :: st)) rfl rfl (X.hb hd)
  exact E_by stp (k T' ⟨q0, _, Y', Fr.snoc Y' N ha, Keep.old O (Keep.of_wr W) (allS ha all0)⟩ (Keep.of_wr W) (Arv.set A q1 S1 N1 H1 G1 (rfl) W i hi hl))
theorem E_castore (X : Wk l Z R bytes mL ret own nm p e s m args below meth c T cells slots) {a : Addr} {kA : ClassId} {z j x : Int32} {vs : List Value} {dv : Value} {y : Int32} (i : Nat) (hd : decode bytes pc = .ok (.castore, 1)) (hy : nar .char x = y) (V : Arv Z T.heap a kA .char z vs dv) (hj : ¬ j < 0 ∧ j < z) (hi : j.toNatClampNeg = i) (hl : i < vs.length) (ha : Z.heap.size ≤ a) {pc' : Nat} (hp : pc + 1 = pc')
    (k : ∀ (T' : State), Wk l Z R bytes mL ret own nm p e s m args below meth c T' cells slots → Keep T.heap T'.heap [a] → Arv Z T'.heap a kA .char z (vs.set i (.int y)) dv → Ends p e below s Z Q cC cS T' (mkF m pc' Ls st)) : Ends p e below s Z Q cC cS T (mkF m pc Ls (.int x :: .int j :: .ref a :: st)) := by
  subst hp hy; obtain ⟨q0, locs, Y, N, O⟩ := id X
  obtain ⟨cl, A, q1, S1, N1, H1, G1⟩ := V
  obtain ⟨T', h', Y', rfl, W, stp⟩ := stC Y X.hx X.hZ rfl A (j := j) (x := x) (inb_of S1 hj) (g := mkF m pc Ls (.int x :: .int j :: .ref a :: st)) rfl rfl (X.hb hd)
  exact E_by stp (k T' ⟨q0, _, Y', Fr.snoc Y' N ha, Keep.old O (Keep.of_wr W) (allS ha all0)⟩ (Keep.of_wr W) (Arv.set A q1 S1 N1 H1 G1 (fits_nar_char _) W i hi hl))
theorem E_bastore (X : Wk l Z R bytes mL ret own nm p e s m args below meth c T cells slots) {a : Addr} {kA : ClassId} {z j x : Int32} {vs : List Value} {dv : Value} {y : Int32} (i : Nat) (hd : decode bytes pc = .ok (.bastore, 1)) (hy : x.toInt8.toInt32 = y) (V : Arv Z T.heap a kA .byte z vs dv) (hj : ¬ j < 0 ∧ j < z) (hi : j.toNatClampNeg = i) (hl : i < vs.length) (ha : Z.heap.size ≤ a) {pc' : Nat} (hp : pc + 1 = pc')
    (k : ∀ (T' : State), Wk l Z R bytes mL ret own nm p e s m args below meth c T' cells slots → Keep T.heap T'.heap [a] → Arv Z T'.heap a kA .byte z (vs.set i (.int y)) dv → Ends p e below s Z Q cC cS T' (mkF m pc' Ls st)) : Ends p e below s Z Q cC cS T (mkF m pc Ls (.int x :: .int j :: .ref a :: st)) := by
  subst hp hy; obtain ⟨q0, locs, Y, N, O⟩ := id X
  obtain ⟨cl, A, q1, S1, N1, H1, G1⟩ := V
  obtain ⟨T', h', Y', rfl, W, stp⟩ := stB Y X.hx X.hZ rfl A (j := j) (x := x) (inb_of S1 hj) (g := mkF m pc Ls (.int x :: .int j :: .ref a :: st)) rfl rfl (X.hb hd)
  exact E_by stp (k T' ⟨q0, _, Y', Fr.snoc Y' N ha, Keep.old O (Keep.of_wr W) (allS ha all0)⟩ (Keep.of_wr W) (Arv.set A q1 S1 N1 H1 G1 (fits_nar_byte _) W i hi hl))
theorem E_iastoreA (X : Wk l Z R bytes mL ret own nm p e s m args below meth c T cells slots) {a : Addr} {kA : ClassId} {z j x : Int32} {vs : List Value} {dv : Value} {y : Int32} (hd : decode bytes pc = .ok (.iastore, 1)) (hy : x = y) (V : Arv Z T.heap a kA .int z vs dv) (hj : ¬ j < 0 ∧ j < z) (hi : j.toNatClampNeg = vs.length) (ha : Z.heap.size ≤ a) {pc' : Nat} (hp : pc + 1 = pc')
    (k : ∀ (T' : State), Wk l Z R bytes mL ret own nm p e s m args below meth c T' cells slots → Keep T.heap T'.heap [a] → Arv Z T'.heap a kA .int z (vs ++ [.int y]) dv → Ends p e below s Z Q cC cS T' (mkF m pc' Ls st)) : Ends p e below s Z Q cC cS T (mkF m pc Ls (.int x :: .int j :: .ref a :: st)) := by
  refine E_iastore X vs.length hd hy (V.pad (pad_rep vs dv 1)) hj hi (by simp) ha hp fun T' X' K' V' => k T' X' K' ?_
  have q : (vs ++ List.replicate 1 dv).set vs.length (.int y) = vs ++ [.int y] := by simp
  rw [q] at V'; exact V'
theorem E_castoreA (X : Wk l Z R bytes mL ret own nm p e s m args below meth c T cells slots) {a : Addr} {kA : ClassId} {z j x : Int32} {vs : List Value} {dv : Value} {y : Int32} (hd : decode bytes pc = .ok (.castore, 1)) (hy : nar .char x = y) (V : Arv Z T.heap a kA .char z vs dv) (hj : ¬ j < 0 ∧ j < z) (hi : j.toNatClampNeg = vs.length) (ha : Z.heap.size ≤ a) {pc' : Nat} (hp : pc + 1 = pc')
    (k : ∀ (T' : State), Wk l Z R bytes mL ret own nm p e s m args below meth c T' cells slots → Keep T.heap T'.heap [a] → Arv Z T'.heap a kA .char z (vs ++ [.int y]) dv → Ends p e below s Z Q cC cS T' (mkF m pc' Ls st)) : Ends p e below s Z Q cC cS T (mkF m pc Ls (.int x :: .int j :: .ref a :: st)) := by
  refine E_castore X vs.length hd hy (V.pad (pad_rep vs dv 1)) hj hi (by simp) ha hp fun T' X' K' V' => k T' X' K' ?_
  have q : (vs ++ List.replicate 1 dv).set vs.length (.int y) = vs ++ [.int y] := by simp
  rw [q] at V'; exact V'
theorem E_bastoreA (X : Wk l Z R bytes mL ret own nm p e s m args below meth c T cells slots) {a : Addr} {kA : ClassId} {z j x : Int32} {vs : List Value} {dv : Value} {y : Int32} (hd : decode bytes pc = .ok (.bastore, 1)) (hy : x.toInt8.toInt32 = y) (V : Arv Z T.heap a kA .byte z vs dv) (hj : ¬ j < 0 ∧ j < z) (hi : j.toNatClampNeg = vs.length) (ha : Z.heap.size ≤ a) {pc' : Nat} (hp : pc + 1 = pc')
    (k : ∀ (T' : State), Wk l Z R bytes mL ret own nm p e s m args below meth c T' cells slots → Keep T.heap T'.heap [a] → Arv Z T'.heap a kA .byte z (vs ++ [.int y]) dv → Ends p e below s Z Q cC cS T' (mkF m pc' Ls st)) : Ends p e below s Z Q cC cS T (mkF m pc Ls (.int x :: .int j :: .ref a :: st)) := by
  refine E_bastore X vs.length hd hy (V.pad (pad_rep vs dv 1)) hj hi (by simp) ha hp fun T' X' K' V' => k T' X' K' ?_
  have q : (vs ++ List.replicate 1 dv).set vs.length (.int y) = vs ++ [.int y] := by simp
  rw [q] at V'; exact V'
theorem E_iaload (X : Wk l Z R bytes mL ret own nm p e s m args below meth c T cells slots) {a : Addr} {kA : ClassId} {z j : Int32} {vs : List Value} {dv v : Value} (hd : decode bytes pc = .ok (.iaload, 1)) (V : Arv Z T.heap a kA .int z vs dv) (hj : ¬ j < 0 ∧ j < z) (hv : vs.getD j.toNatClampNeg dv = v) {pc' : Nat} (hp : pc + 1 = pc')
    (k : Ends p e below s Z Q cC cS T (mkF m pc' Ls (v :: st))) : Ends p e below s Z Q cC cS T (mkF m pc Ls (.int j :: .ref a :: st)) := by
  subst hp; obtain ⟨q0, locs, Y, N, O⟩ := id X
  obtain ⟨cl, A, q1, S1, N1, H1, G1⟩ := V
  exact E_by (Y.iaload X.hx A.1 (State.isArrayOf_alike X.hZ.alike A.2.1) A.2.2 (inb_of S1 hj) (Has.at H1 (inb_of S1 hj) hv) (g := mkF m pc Ls (.int j :: .ref a :: st)) rfl rfl (X.hb hd)) k
theorem E_caload (X : Wk l Z R bytes mL ret own nm p e s m args below meth c T cells slots) {a : Addr} {kA : ClassId} {z j : Int32} {vs : List Value} {dv v : Value} (hd : decode bytes pc = .ok (.caload, 1)) (V : Arv Z T.heap a kA .char z vs dv) (hj : ¬ j < 0 ∧ j < z) (hv : vs.getD j.toNatClampNeg dv = v) {pc' : Nat} (hp : pc + 1 = pc')
    (k : Ends p e below s Z Q cC cS T (mkF m pc' Ls (v :: st))) : Ends p e below s Z Q cC cS T (mkF m pc Ls (.int j :: .ref a :: st)) := by
  subst hp; obtain ⟨q0, locs, Y, N, O⟩ := id X
  obtain ⟨cl, A, q1, S1, N1, H1, G1⟩ := V
  exact E_by (Y.caload X.hx A.1 (State.isArrayOf_alike X.hZ.alike A.2.1) A.2.2 (inb_of S1 hj) (Has.at H1 (inb_of S1 hj) hv) (g := mkF m pc Ls (.int j :: .ref a :: st)) rfl rfl (X.hb hd)) k
theorem E_baload (X : Wk l Z R bytes mL ret own nm p e s m args below meth c T cells slots) {a : Addr} {kA : ClassId} {z j : Int32} {vs : List Value} {dv v : Value} (hd : decode bytes pc = .ok (.baload, 1)) (V : Arv Z T.heap a kA .byte z vs dv) (hj : ¬ j < 0 ∧ j < z) (hv : vs.getD j.toNatClampNeg dv = v) {pc' : Nat} (hp : pc + 1 = pc')
    (k : Ends p e below s Z Q cC cS T (mkF m pc' Ls (v :: st))) : Ends p e below s Z Q cC cS T (mkF m pc Ls (.int j :: .ref a :: st)) := by
  subst hp; obtain ⟨q0, locs, Y, N, O⟩ := id X
  obtain ⟨cl, A, q1, S1, N1, H1, G1⟩ := V
  exact E_by (Y.baloadBytes X.hx A.1 (State.isArrayOf_alike X.hZ.alike A.2.1) A.2.2 (inb_of S1 hj) (Has.at H1 (inb_of S1 hj) hv) (g := mkF m pc Ls (.int j :: .ref a :: st)) rfl rfl (X.hb hd)) k
theorem E_aaload (X : Wk l Z R bytes mL ret own nm p e s m args below meth c T cells slots) {a : Addr} {kA : ClassId} {z j : Int32} {vs : List Value} {dv v : Value} {ty : FieldType} (hd : decode bytes pc = .ok (.aaload, 1)) (V : Arv Z T.heap a kA ty z vs dv) (hty : ty.isReference = true) (hj : ¬ j < 0 ∧ j < z) (hv : vs.getD j.toNatClampNeg dv = v) {pc' : Nat} (hp : pc + 1 = pc')
    (k : Ends p e below s Z Q cC cS T (mkF m pc' Ls (v :: st))) : Ends p e below s Z Q cC cS T (mkF m pc Ls (.int j :: .ref a :: st)) := by
  subst hp; obtain ⟨q0, locs, Y, N, O⟩ := id X
  obtain ⟨cl, A, q1, S1, N1, H1, G1⟩ := V
  exact E_by (Y.aaload X.hx A.1 (State.isArrayOf_alike X.hZ.alike A.2.1) hty A.2.2 (inb_of S1 hj) (Has.at H1 (inb_of S1 hj) hv) (g := mkF m pc Ls (.int j :: .ref a :: st)) rfl rfl (X.hb hd)) k
theorem E_clone (X : Wk l Z R bytes mL ret own nm p e s m args below meth c T cells slots) {a : Addr} {kA : ClassId} {z : Int32} {vs : List Value} {dv : Value} {ty : FieldType} {ix : Nat} {ad : String} (cap : Nat) (hd : decode bytes pc = .ok (.invokevirtual ix, 3)) (w1 : (Jvm.Cond.methodLink own ix ⟨ad, "clone", "()Ljava/lang/Object;"⟩).before a0 Z = true) (w2 : (Jvm.Cond.sameMethod ad "java/lang/Object" "clone" "()Ljava/lang/Object;").before a0 Z = true) (w3 : (Jvm.Cond.native ⟨"java/lang/Object", "clone", "()Ljava/lang/Object;"⟩).before a0 Z = true) (w4 : (Jvm.Cond.instanceMethod ⟨"java/lang/Object", "clone", "()Ljava/lang/Object;"⟩).before a0 Z = true) (w5 : (Jvm.Cond.selects ad ⟨ad, "clone", "()Ljava/lang/Object;"⟩ ⟨"java/lang/Object", "clone", "()Ljava/lang/Object;"⟩).before a0 Z = true) (w6 : (Jvm.Cond.castable ad "java/lang/Cloneable").before a0 Z = true) (V : Arv Z T.heap a kA ty z vs dv) (E : Exa Z T.heap a ad) (hsz : Ls.size = mL) (hf : 1 ≤ R.frames) (hl : (st.map fun v => v.category).sum + 14 ≤ R.locals) (hcap : z.toNatClampNeg ≤ cap) (hc : cells + 1 ≤ R.cells) (hs : slots + cap ≤ R.slots) {pc' : Nat} (hp : pc + 3 = pc')
    (k : ∀ (T' : State) (b : Addr), Wk l Z R bytes mL ret own nm p e s m args below meth c T' (cells + 1) (slots + cap) → b = T.heap.size → Keep T.heap T'.heap [] → Arv Z T'.heap b kA ty z vs dv → Exa Z T'.heap b ad → Ends p e below s Z Q cC cS T' (mkF m pc' Ls (.ref b :: st))) : Ends p e below s Z Q cC cS T (mkF m pc Ls (.ref a :: st)) := by
  subst hp; obtain ⟨q0, locs, Y, N, O⟩ := id X
  obtain ⟨T', h', Y', rfl, E, V1, X1, stp⟩ := cloneH Y X.hx X.hZ X.hown w1 w2 w3 w4 w5 w6 rfl V.arh E (g := mkF m pc Ls (.ref a :: st)) rfl (X.size hsz) rfl (X.hb hd) hf (W := (st.map fun v => v.category).sum) (by show 2 * 0 + _ ≤ _; omega) hl hcap hc hs
  exact E_by stp (k T' _ ⟨q0, locs, Y', N, Keep.old O (Keep.of_ext E) all0⟩ rfl (Keep.of_ext E) V1 X1)
theorem E_instNull (X : Wk l Z R bytes mL ret own nm p e s m args below meth c T cells slots) {ix : Nat} (hd : decode bytes pc = .ok (.instanceof ix, 3)) {pc' : Nat} (hp : pc + 3 = pc') (k : Ends p e below s Z Q cC cS T (mkF m pc' Ls (.int 0 :: st))) : Ends p e below s Z Q cC cS T (mkF m pc Ls (.null :: st)) := by
  subst hp; obtain ⟨q0, locs, Y, N, O⟩ := id X
  exact E_by (fun _ q => Y.instanceofNull X.hx (g := mkF m pc Ls (.null :: st)) rfl (rest := st) rfl (X.hb hd) _ q) k
theorem E_arraylength (X : Wk l Z R bytes mL ret own nm p e s m args below meth c T cells slots) {a : Addr} {kA : ClassId} {z : Int32} {vs : List Value} {dv : Value} {ty : FieldType} (hd : decode bytes pc = .ok (.arraylength, 1)) (V : Arv Z T.heap a kA ty z vs dv) {pc' : Nat} (hp : pc + 1 = pc')
    (k : Ends p e below s Z Q cC cS T (mkF m pc' Ls (.int z :: st))) : Ends p e below s Z Q cC cS T (mkF m pc Ls (.ref a :: st)) := by
  subst hp; obtain ⟨q0, locs, Y, N, O⟩ := id X
  obtain ⟨cl, A, q1, S1, N1, H1, G1⟩ := V
  refine E_by (Y.arraylength X.hx A.1 (State.isArrayOf_alike X.hZ.alike A.2.1) (g := mkF m pc Ls (.ref a :: st)) rfl rfl (X.hb hd)) ?_
  rw [len_of S1 N1]; exact k
theorem E_getfield (X : Wk l Z R bytes mL ret own nm p e s m args below meth c T cells slots) {a : Addr} {O n d R0 : String} {ix : Nat} {v : Value} (hd : decode bytes pc = .ok (.getfield ix, 3)) (w : (Jvm.Cond.fieldLink own ix R0 n d).before a0 Z = true) (via : Via Z R0 O n d) (F : Fld Z T.heap a O n d v) {pc' : Nat} (hp : pc + 3 = pc')
    (k : ∀ (T' : State), Wk l Z R bytes mL ret own nm p e s m args below meth c T' cells slots → T'.heap = T.heap → Ends p e below s Z Q cC cS T' (mkF m pc' Ls (v :: st))) : Ends p e below s Z Q cC cS T (mkF m pc Ls (.ref a :: st)) := by
  subst hp; obtain ⟨q0, locs, Y, N, Od⟩ := id X
  obtain ⟨T', Y', e1, stp⟩ := getF Y X.hx X.hZ X.hown (host := "") (Or.inl w) via rfl F (g := mkF m pc Ls (.ref a :: st)) rfl rfl (X.hb hd)
  exact E_by stp (k T' ⟨q0, locs, Y', N, e1 ▸ Od⟩ e1)
theorem E_getstatic (X : Wk l Z R bytes mL ret own nm p e s m args below meth c T cells slots) {O n d R0 : String} {ix : Nat} {v : Value} (hd : decode bytes pc = .ok (.getstatic ix, 3)) (w : (Jvm.Cond.fieldLink own ix R0 n d).before a0 Z = true) (via : Via Z R0 O n d) (F : Sta Z Z.heap O n d v) {pc' : Nat} (hp : pc + 3 = pc')
    (k : ∀ (T' : State), Wk l Z R bytes mL ret own nm p e s m args below meth c T' cells slots → T'.heap = T.heap → Ends p e below s Z Q cC cS T' (mkF m pc' Ls (v :: st))) : Ends p e below s Z Q cC cS T (mkF m pc Ls st) := by
  subst hp; obtain ⟨q0, locs, Y, N, Od⟩ := id X
  obtain ⟨T', Y', e1, stp⟩ := getS Y X.hx X.hZ (host := "") X.hown w via rfl (F.ext Od) (g := mkF m pc Ls st) rfl (X.hb hd)
  exact E_by stp (k T' ⟨q0, locs, Y', N, e1 ▸ Od⟩ e1)
theorem E_putfield (X : Wk l Z R bytes mL ret own nm p e s m args below meth c T cells slots) {a : Addr} {O n d R0 C : String} {ix kk : Nat} {v old : Value} {ty : FieldType} (hd : decode bytes pc = .ok (.putfield ix, 3)) (w : (Jvm.Cond.fieldLink own ix R0 n d).before a0 Z = true) (via : Via Z R0 O n d) (F : Fld Z T.heap a O n d old) (E : Exa Z T.heap a C) (L : (Jvm.Cond.lays C O n d).before a0 Z = true ∨ ((Jvm.Cond.laysFinal C O n d).before a0 Z = true ∧ own = O ∧ nm = "<init>")) (wi : (Jvm.Cond.instantiable C kk).before a0 Z = true) (hty : parseFieldDescriptor d = some ty) (hn : narrow ty v = v) (hf : fits ty v = true) (ha : Z.heap.size ≤ a) {pc' : Nat} (hp : pc + 3 = pc')
    (k : ∀ (T' : State), Wk l Z R bytes mL ret own nm p e s m args below meth c T' cells slots → Wr T.heap T'.heap a (Jvm.RoadKit.slotOf Z O n d) v → Ends p e below s Z Q cC cS T' (mkF m pc' Ls st)) : Ends p e below s Z Q cC cS T (mkF m pc Ls (v :: .ref a :: st)) := by
  subst hp; obtain ⟨q0, locs, Y, N, Od⟩ := id X
  obtain ⟨T', h', Y', rfl, W, stp⟩ := putF Y X.hx X.hZ X.hown (host := "") (Or.inl w) via rfl F E (L.imp id fun q => ⟨q.1, q.2.1, q0.2.2.2.2.2.2.1.trans q.2.2⟩) wi hty hn hf (g := mkF m pc Ls (v :: .ref a :: st)) rfl rfl (X.hb hd)
  exact E_by stp (k T' ⟨q0, _, Y', Fr.snoc Y' N ha, Keep.old Od (Keep.of_wr W) (allS ha all0)⟩ W)
theorem E_initO (X : Wk l Z R bytes mL ret own nm p e s m args below meth c T cells slots) {a : Addr} {ix : Nat} (hd : decode bytes pc = .ok (.invokespecial ix, 3)) (w1 : (Jvm.Cond.methodLink own ix Lib.objectInit).before a0 Z = true) (w2 : (Jvm.Cond.instanceMethod Lib.objectInit).before a0 Z = true) (w3 : (Jvm.Cond.code Lib.objectInit ⟨#[0xb1]⟩ 1 none).before a0 Z = true) (hsz : Ls.size = mL) (hf : 1 ≤ R.frames) (hl : (st.map fun v => v.category).sum + 12 ≤ R.locals) {pc' : Nat} (hp : pc + 3 = pc')
    (k : ∀ (T' : State), Wk l Z R bytes mL ret own nm p e s m args below meth c T' cells slots → T'.heap = T.heap → Ends p e below s Z Q cC cS T' (mkF m pc' Ls st)) : Ends p e below s Z Q cC cS T (mkF m pc Ls (.ref a :: st)) := by
  subst hp; obtain ⟨q0, locs, Y, N, Od⟩ := id X
  obtain ⟨T', Y', e1, stp⟩ := initO Y X.hx X.hZ X.hown w1 w2 w3 rfl (g := mkF m pc Ls (.ref a :: st)) rfl (X.size hsz) rfl (X.hb hd) hf (W := (st.map fun v => v.category).sum) (by show 2 * 0 + _ ≤ _; omega) hl
  exact E_by stp (k T' ⟨q0, locs, Y', N, e1 ▸ Od⟩ e1)
theorem E_checkcast (X : Wk l Z R bytes mL ret own nm p e s m args below meth c T cells slots) {a : Addr} {K : String} {ix : Nat} (hd : decode bytes pc = .ok (.checkcast ix, 3)) (w : (Jvm.Cond.classLink own ix K).before a0 Z = true) (F : Ins Z T.heap a K true) {pc' : Nat} (hp : pc + 3 = pc')
    (k : ∀ (T' : State), Wk l Z R bytes mL ret own nm p e s m args below meth c T' cells slots → T'.heap = T.heap → Ends p e below s Z Q cC cS T' (mkF m pc' Ls (.ref a :: st))) : Ends p e below s Z Q cC cS T (mkF m pc Ls (.ref a :: st)) := by
  subst hp; obtain ⟨q0, locs, Y, N, Od⟩ := id X
  obtain ⟨T', Y', e1, stp⟩ := castY Y X.hx X.hZ X.hown w rfl F (g := mkF m pc Ls (.ref a :: st)) rfl rfl (X.hb hd)
  exact E_by stp (k T' ⟨q0, locs, Y', N, e1 ▸ Od⟩ e1)
theorem E_instY (X : Wk l Z R bytes mL ret own nm p e s m args below meth c T cells slots) {a : Addr} {K : String} {ix : Nat} (hd : decode bytes pc = .ok (.instanceof ix, 3)) (w : (Jvm.Cond.classLink own ix K).before a0 Z = true) (F : Ins Z T.heap a K true) {pc' : Nat} (hp : pc + 3 = pc')
    (k : ∀ (T' : State), Wk l Z R bytes mL ret own nm p e s m args below meth c T' cells slots → T'.heap = T.heap → Ends p e below s Z Q cC cS T' (mkF m pc' Ls (.int 1 :: st))) : Ends p e below s Z Q cC cS T (mkF m pc Ls (.ref a :: st)) := by
  subst hp; obtain ⟨q0, locs, Y, N, Od⟩ := id X
  obtain ⟨T', Y', e1, stp⟩ := instY Y X.hx X.hZ X.hown w rfl F (g := mkF m pc Ls (.ref a :: st)) rfl rfl (X.hb hd)
  exact E_by stp (k T' ⟨q0, locs, Y', N, e1 ▸ Od⟩ e1)
theorem E_staticB (X : Wk l Z R bytes mL ret own nm p e s m args below meth c T cells slots) {y : MethodName} {ix : Nat} {bytes' : ByteArray} {mL' : Nat} {ret' : Option FieldType} {Q' : Option Value → Heap → Prop} {argsL : List Value} {Q2 : Option Value → Heap → List Loc → Prop} {rC rS : Nat} (hd : decode bytes pc = .ok (.invokestatic ix, 3)) (w1 : (Jvm.Cond.methodLink own ix y).before a0 Z = true) (w2 : (Jvm.Cond.static y).before a0 Z = true) (w3 : (Jvm.Cond.initialized y.cls).before a0 Z = true) (w4 : (Jvm.Cond.code y bytes' mL' ret').before a0 Z = true) (hy : y.cls ≠ "java/lang/invoke/MethodHandle" ∧ y.cls ≠ "java/lang/invoke/VarHandle") {st0 : List Value} (hst : st0 = argsL.reverse ++ st) (hK : Back l R p e below s args y 3 ((st.map fun v => v.category).sum) (fun A aa => aa = argsL.toArray ∧ A.U.heap = T.heap ∧ A.cells + rC ≤ R.cells ∧ A.slots + rS ≤ R.slots) (fun A _ v B => ∃ L, Q2 v B.U.heap L ∧ B.locs = A.locs ++ L ∧ B.cells = A.cells + rC ∧ B.slots = A.slots + rS)) (hQ2 : ∀ v h L, Q2 v h L → Fr Z.heap.size L ∧ Ext Z.heap h ∧ Q' v h) (hlen : ∀ sig, parseMethodDescriptor y.desc = some sig → argsL.length = sig.parameters.length) (hsz : Ls.size = mL) (hcl : cells + rC ≤ R.cells) (hsl : slots + rS ≤ R.slots) {pc' : Nat} (hp : pc + 3 = pc')
    (k : ∀ (T' : State) (v : Option Value), Wk l Z R bytes mL ret own nm p e s m args below meth c T' (cells + rC) (slots + rS) → Q' v T'.heap → Ends p e below s Z Q cC cS T' (mkF m pc' Ls (v.toList ++ st))) : Ends p e below s Z Q cC cS T (mkF m pc Ls st0) := by
  subst hp hst; obtain ⟨q0, locs, Y, N, Od⟩ := id X
  obtain ⟨v, _, ⟨T', L1, k1, n1⟩, -, Y', ⟨Lc, hQ, l1, y1, z1⟩, stp⟩ := Jvm.LawKit.callS Y X.hx (y := y) X.hown (mvT X.hZ w1) (mvT X.hZ w2) (mvT X.hZ w3) (mvT X.hZ w4) hy hK (g := mkF m pc Ls (argsL.reverse ++ st)) rfl (X.size hsz) (argsL := argsL) (rest := st) hlen rfl (by show 2 * 0 + _ ≤ _; omega) (X.hb hd) (fun _ _ => ⟨rfl, rfl, hcl, hsl⟩)
  dsimp only [Pt.U, Pt.locs, Pt.cells, Pt.slots] at Y' l1 y1 z1 stp hQ
  subst l1 y1 z1
  obtain ⟨f1, f2, f3⟩ := hQ2 _ _ _ hQ
  exact E_by stp (k T' v ⟨q0, _, Y', Fr.app N f1, f2⟩ f3)
theorem E_static (X : Wk l Z R bytes mL ret own nm p e s m args below meth c T cells slots) {y : MethodName} {ix : Nat} {bytes' : ByteArray} {mL' : Nat} {ret' : Option FieldType} {Q' : Option Value → Heap → Prop} {argsL : List Value} {rm : Room} (hd : decode bytes pc = .ok (.invokestatic ix, 3)) (w1 : (Jvm.Cond.methodLink own ix y).before a0 Z = true) (w2 : (Jvm.Cond.static y).before a0 Z = true) (w3 : (Jvm.Cond.initialized y.cls).before a0 Z = true) (w4 : (Jvm.Cond.code y bytes' mL' ret').before a0 Z = true) (hy : y.cls ≠ "java/lang/invoke/MethodHandle" ∧ y.cls ≠ "java/lang/invoke/VarHandle")  {st0 : List Value} (hst : st0 = argsL.reverse ++ st) (hC : Ct l Z y bytes' mL' ret' rm argsL.toArray T.heap Q') (hlen : ∀ sig, parseMethodDescriptor y.desc = some sig → argsL.length = sig.parameters.length) (hsz : Ls.size = mL) (hcl : cells + rm.cells ≤ R.cells) (hsl : slots + rm.slots ≤ R.slots) (hfr : rm.frames + 1 ≤ R.frames) (hlo : (st.map fun v => v.category).sum + (mL' + 11) + rm.locals ≤ R.locals) {pc' : Nat} (hp : pc + 3 = pc')
    (k : ∀ (T' : State) (v : Option Value), Wk l Z R bytes mL ret own nm p e s m args below meth c T' (cells + rm.cells) (slots + rm.slots) → Q' v T'.heap → Ends p e below s Z Q cC cS T' (mkF m pc' Ls (v.toList ++ st))) : Ends p e below s Z Q cC cS T (mkF m pc Ls st0) :=
  E_staticB X hd w1 w2 w3 w4 hy hst (hC.back X.hZ w4 w3 hfr hlo) (fun _ _ _ q => q) hlen hsz hcl hsl hp k
theorem E_specialB (X : Wk l Z R bytes mL ret own nm p e s m args below meth c T cells slots) {y : MethodName} {ix : Nat} {bytes' : ByteArray} {mL' : Nat} {ret' : Option FieldType} {Q' : Option Value → Heap → Prop} {argsL : List Value} {Q2 : Option Value → Heap → List Loc → Prop} {rC rS : Nat} {a : Addr} (hd : decode bytes pc = .ok (.invokespecial ix, 3)) (hy1 : y.name = "<init>") (hret : ret' = none) (w1 : (Jvm.Cond.methodLink own ix y).before a0 Z = true) (w2 : (Jvm.Cond.instanceMethod y).before a0 Z = true) (w4 : (Jvm.Cond.code y bytes' mL' ret').before a0 Z = true) (hy : y.cls ≠ "java/lang/invoke/MethodHandle" ∧ y.cls ≠ "java/lang/invoke/VarHandle") {st0 : List Value} (hst : st0 = argsL.reverse ++ .ref a :: st) (hK : Back l R p e below s args y 3 ((st.map fun v => v.category).sum) (fun A aa => aa = (.ref a :: argsL).toArray ∧ A.U.heap = T.heap ∧ A.cells + rC ≤ R.cells ∧ A.slots + rS ≤ R.slots) (fun A _ v B => ∃ L, Q2 v B.U.heap L ∧ B.locs = A.locs ++ L ∧ B.cells = A.cells + rC ∧ B.slots = A.slots + rS)) (hQ2 : ∀ v h L, Q2 v h L → Fr Z.heap.size L ∧ Ext Z.heap h ∧ Q' v h) (hlen : ∀ sig, parseMethodDescriptor y.desc = some sig → argsL.length = sig.parameters.length) (hsz : Ls.size = mL) (hcl : cells + rC ≤ R.cells) (hsl : slots + rS ≤ R.slots) {pc' : Nat} (hp : pc + 3 = pc')
    (k : ∀ (T' : State) (v : Option Value), Wk l Z R bytes mL ret own nm p e s m args below meth c T' (cells + rC) (slots + rS) → Q' v T'.heap → Ends p e below s Z Q cC cS T' (mkF m pc' Ls (v.toList ++ st))) : Ends p e below s Z Q cC cS T (mkF m pc Ls st0) := by
  subst hp hst; obtain ⟨q0, locs, Y, N, Od⟩ := id X
  subst hret
  obtain ⟨v, _, ⟨T', L1, k1, n1⟩, -, Y', ⟨Lc, hQ, l1, y1, z1⟩, stp⟩ := Y.specialBack X.hx (y := y) hy1 X.hown (mvT X.hZ w1) (mvT X.hZ w2) (mvT X.hZ w4) hy hK (g := mkF m pc Ls (argsL.reverse ++ .ref a :: st)) rfl (X.size hsz) (Steps.refl _) (a := a) (argsL := argsL) (rest := st) hlen rfl (by show 2 * 0 + _ ≤ _; omega) (X.hb hd) (fun _ _ => ⟨rfl, rfl, hcl, hsl⟩)
  dsimp only [Pt.U, Pt.locs, Pt.cells, Pt.slots] at Y' l1 y1 z1 stp hQ
  subst l1 y1 z1
  obtain ⟨f1, f2, f3⟩ := hQ2 _ _ _ hQ
  exact E_tr stp (k T' v ⟨q0, _, Y', Fr.app N f1, f2⟩ f3)
theorem E_special (X : Wk l Z R bytes mL ret own nm p e s m args below meth c T cells slots) {y : MethodName} {ix : Nat} {bytes' : ByteArray} {mL' : Nat} {ret' : Option FieldType} {Q' : Option Value → Heap → Prop} {argsL : List Value} {rm : Room} {a : Addr} (hd : decode bytes pc = .ok (.invokespecial ix, 3)) (hy1 : y.name = "<init>") (hret : ret' = none) (w1 : (Jvm.Cond.methodLink own ix y).before a0 Z = true) (w2 : (Jvm.Cond.instanceMethod y).before a0 Z = true) (w4 : (Jvm.Cond.code y bytes' mL' ret').before a0 Z = true) (hy : y.cls ≠ "java/lang/invoke/MethodHandle" ∧ y.cls ≠ "java/lang/invoke/VarHandle") (w3 : (Jvm.Cond.initialized y.cls).before a0 Z = true) {st0 : List Value} (hst : st0 = argsL.reverse ++ .ref a :: st) (hC : Ct l Z y bytes' mL' ret' rm (.ref a :: argsL).toArray T.heap Q') (hlen : ∀ sig, parseMethodDescriptor y.desc = some sig → argsL.length = sig.parameters.length) (hsz : Ls.size = mL) (hcl : cells + rm.cells ≤ R.cells) (hsl : slots + rm.slots ≤ R.slots) (hfr : rm.frames + 1 ≤ R.frames) (hlo : (st.map fun v => v.category).sum + (mL' + 11) + rm.locals ≤ R.locals) {pc' : Nat} (hp : pc + 3 = pc')
    (k : ∀ (T' : State) (v : Option Value), Wk l Z R bytes mL ret own nm p e s m args below meth c T' (cells + rm.cells) (slots + rm.slots) → Q' v T'.heap → Ends p e below s Z Q cC cS T' (mkF m pc' Ls (v.toList ++ st))) : Ends p e below s Z Q cC cS T (mkF m pc Ls st0) :=
  E_specialB X hd hy1 hret w1 w2 w4 hy hst (hC.back X.hZ w4 w3 hfr hlo) (fun _ _ _ q => q) hlen hsz hcl hsl hp k
theorem E_virtualB (X : Wk l Z R bytes mL ret own nm p e s m args below meth c T cells slots) {y : MethodName} {ix : Nat} {Q' : Option Value → Heap → Prop} {argsL : List Value} {Q2 : Option Value → Heap → List Loc → Prop} {rC rS : Nat} {a : Addr} {z : MethodName} {D : String} (hd : decode bytes pc = .ok (.invokevirtual ix, 3)) (w1 : (Jvm.Cond.methodLink own ix y).before a0 Z = true) (w2 : (Jvm.Cond.declares y).before a0 Z = true) (w5 : (Jvm.Cond.selects D y z).before a0 Z = true) (w6 : (Jvm.Cond.instanceMethod z).before a0 Z = true) (hnf : NotFace s y) (hy : y.cls ≠ "java/lang/invoke/MethodHandle" ∧ y.cls ≠ "java/lang/invoke/VarHandle") (E : Exa Z T.heap a D) {st0 : List Value} (hst : st0 = argsL.reverse ++ .ref a :: st) (hK : Back l R p e below s args z 3 ((st.map fun v => v.category).sum) (fun A aa => aa = (.ref a :: argsL).toArray ∧ A.U.heap = T.heap ∧ A.cells + rC ≤ R.cells ∧ A.slots + rS ≤ R.slots) (fun A _ v B => ∃ L, Q2 v B.U.heap L ∧ B.locs = A.locs ++ L ∧ B.cells = A.cells + rC ∧ B.slots = A.slots + rS)) (hQ2 : ∀ v h L, Q2 v h L → Fr Z.heap.size L ∧ Ext Z.heap h ∧ Q' v h) (hlen : ∀ sig, parseMethodDescriptor y.desc = some sig → argsL.length = sig.parameters.length) (hsz : Ls.size = mL) (hcl : cells + rC ≤ R.cells) (hsl : slots + rS ≤ R.slots) {pc' : Nat} (hp : pc + 3 = pc')
    (k : ∀ (T' : State) (v : Option Value), Wk l Z R bytes mL ret own nm p e s m args below meth c T' (cells + rC) (slots + rS) → Q' v T'.heap → Ends p e below s Z Q cC cS T' (mkF m pc' Ls (v.toList ++ st))) : Ends p e below s Z Q cC cS T (mkF m pc Ls st0) := by
  subst hp hst; obtain ⟨q0, locs, Y, N, Od⟩ := id X
  obtain ⟨cq, kq, qa, qb, qc⟩ := isOf X.hZ rfl E
  obtain ⟨v, _, ⟨T', L1, k1, n1⟩, -, Y', ⟨Lc, hQ, l1, y1, z1⟩, stp⟩ := Y.virtualBack X.hx (y := y) (z := z) X.hown (mvT X.hZ w1) (mvT X.hZ w2) hnf (mvT X.hZ w5) (mvT X.hZ w6) hy hK qa qc (g := mkF m pc Ls (argsL.reverse ++ .ref a :: st)) rfl (X.size hsz) (Steps.refl _) (argsL := argsL) (rest := st) hlen rfl (by show 2 * 0 + _ ≤ _; omega) (X.hb hd) (fun _ _ => ⟨rfl, rfl, hcl, hsl⟩)
  dsimp only [Pt.U, Pt.locs, Pt.cells, Pt.slots] at Y' l1 y1 z1 stp hQ
  subst l1 y1 z1
  obtain ⟨f1, f2, f3⟩ := hQ2 _ _ _ hQ
  exact E_tr stp (k T' v ⟨q0, _, Y', Fr.app N f1, f2⟩ f3)
theorem E_virtual (X : Wk l Z R bytes mL ret own nm p e s m args below meth c T cells slots) {y : MethodName} {ix : Nat} {bytes' : ByteArray} {mL' : Nat} {ret' : Option FieldType} {Q' : Option Value → Heap → Prop} {argsL : List Value} {rm : Room} {a : Addr} {z : MethodName} {D : String} (hd : decode bytes pc = .ok (.invokevirtual ix, 3)) (w1 : (Jvm.Cond.methodLink own ix y).before a0 Z = true) (w2 : (Jvm.Cond.declares y).before a0 Z = true) (w5 : (Jvm.Cond.selects D y z).before a0 Z = true) (w6 : (Jvm.Cond.instanceMethod z).before a0 Z = true) (hnf : NotFace s y) (hy : y.cls ≠ "java/lang/invoke/MethodHandle" ∧ y.cls ≠ "java/lang/invoke/VarHandle") (E : Exa Z T.heap a D) (w3 : (Jvm.Cond.initialized z.cls).before a0 Z = true) (w4 : (Jvm.Cond.code z bytes' mL' ret').before a0 Z = true) {st0 : List Value} (hst : st0 = argsL.reverse ++ .ref a :: st) (hC : Ct l Z z bytes' mL' ret' rm (.ref a :: argsL).toArray T.heap Q') (hlen : ∀ sig, parseMethodDescriptor y.desc = some sig → argsL.length = sig.parameters.length) (hsz : Ls.size = mL) (hcl : cells + rm.cells ≤ R.cells) (hsl : slots + rm.slots ≤ R.slots) (hfr : rm.frames + 1 ≤ R.frames) (hlo : (st.map fun v => v.category).sum + (mL' + 11) + rm.locals ≤ R.locals) {pc' : Nat} (hp : pc + 3 = pc')
    (k : ∀ (T' : State) (v : Option Value), Wk l Z R bytes mL ret own nm p e s m args below meth c T' (cells + rm.cells) (slots + rm.slots) → Q' v T'.heap → Ends p e below s Z Q cC cS T' (mkF m pc' Ls (v.toList ++ st))) : Ends p e below s Z Q cC cS T (mkF m pc Ls st0) :=
  E_virtualB X hd w1 w2 w5 w6 hnf hy E hst (hC.back X.hZ w4 w3 hfr hlo) (fun _ _ _ q => q) hlen hsz hcl hsl hp k
theorem E_privateB (X : Wk l Z R bytes mL ret own nm p e s m args below meth c T cells slots) {y : MethodName} {ix : Nat} {bytes' : ByteArray} {mL' : Nat} {ret' : Option FieldType} {Q' : Option Value → Heap → Prop} {argsL : List Value} {Q2 : Option Value → Heap → List Loc → Prop} {rC rS : Nat} {a : Addr} {D : String} (hd : decode bytes pc = .ok (.invokevirtual ix, 3)) (w1 : (Jvm.Cond.methodLink own ix y).before a0 Z = true) (w6 : (Jvm.Cond.instanceMethod y).before a0 Z = true) (w5 : (Jvm.Cond.selects y.cls y y).before a0 Z = true) (wp : (Jvm.Cond.privateMethod y).before a0 Z = true) (w4 : (Jvm.Cond.code y bytes' mL' ret').before a0 Z = true) (hy : y.cls ≠ "java/lang/invoke/MethodHandle" ∧ y.cls ≠ "java/lang/invoke/VarHandle") (E : Exa Z T.heap a D) {st0 : List Value} (hst : st0 = argsL.reverse ++ .ref a :: st) (hK : Back l R p e below s args y 3 ((st.map fun v => v.category).sum) (fun A aa => aa = (.ref a :: argsL).toArray ∧ A.U.heap = T.heap ∧ A.cells + rC ≤ R.cells ∧ A.slots + rS ≤ R.slots) (fun A _ v B => ∃ L, Q2 v B.U.heap L ∧ B.locs = A.locs ++ L ∧ B.cells = A.cells + rC ∧ B.slots = A.slots + rS)) (hQ2 : ∀ v h L, Q2 v h L → Fr Z.heap.size L ∧ Ext Z.heap h ∧ Q' v h) (hlen : ∀ sig, parseMethodDescriptor y.desc = some sig → argsL.length = sig.parameters.length) (hsz : Ls.size = mL) (hcl : cells + rC ≤ R.cells) (hsl : slots + rS ≤ R.slots) {pc' : Nat} (hp : pc + 3 = pc')
    (k : ∀ (T' : State) (v : Option Value), Wk l Z R bytes mL ret own nm p e s m args below meth c T' (cells + rC) (slots + rS) → Q' v T'.heap → Ends p e below s Z Q cC cS T' (mkF m pc' Ls (v.toList ++ st))) : Ends p e below s Z Q cC cS T (mkF m pc Ls st0) := by
  subst hp hst; obtain ⟨q0, locs, Y, N, Od⟩ := id X
  obtain ⟨cell, kk, e1, -, -, e4, -⟩ := E
  obtain ⟨v, _, ⟨T', L1, k1, n1⟩, -, Y', ⟨Lc, hQ, l1, y1, z1⟩, stp⟩ := Y.privateBack X.hx (y := y) X.hown (mvT X.hZ w1) (mvT X.hZ w6) (mvT X.hZ w5) (Cond.privateMethod_at (mvP (args := args) X.hZ wp)) (mvT X.hZ w4) hy hK (g := mkF m pc Ls (argsL.reverse ++ .ref a :: st)) rfl (X.size hsz) (Steps.refl _) (a := a) e1 (fun q z => by rw [z] at e4; cases e4) (argsL := argsL) (rest := st) hlen rfl (by show 2 * 0 + _ ≤ _; omega) (X.hb hd) (fun _ _ => ⟨rfl, rfl, hcl, hsl⟩)
  dsimp only [Pt.U, Pt.locs, Pt.cells, Pt.slots] at Y' l1 y1 z1 stp hQ
  subst l1 y1 z1
  obtain ⟨f1, f2, f3⟩ := hQ2 _ _ _ hQ
  exact E_tr stp (k T' v ⟨q0, _, Y', Fr.app N f1, f2⟩ f3)
theorem E_private (X : Wk l Z R bytes mL ret own nm p e s m args below meth c T cells slots) {y : MethodName} {ix : Nat} {bytes' : ByteArray} {mL' : Nat} {ret' : Option FieldType} {Q' : Option Value → Heap → Prop} {argsL : List Value} {rm : Room} {a : Addr} {D : String} (hd : decode bytes pc = .ok (.invokevirtual ix, 3)) (w1 : (Jvm.Cond.methodLink own ix y).before a0 Z = true) (w6 : (Jvm.Cond.instanceMethod y).before a0 Z = true) (w5 : (Jvm.Cond.selects y.cls y y).before a0 Z = true) (wp : (Jvm.Cond.privateMethod y).before a0 Z = true) (w4 : (Jvm.Cond.code y bytes' mL' ret').before a0 Z = true) (hy : y.cls ≠ "java/lang/invoke/MethodHandle" ∧ y.cls ≠ "java/lang/invoke/VarHandle") (E : Exa Z T.heap a D) (w3 : (Jvm.Cond.initialized y.cls).before a0 Z = true) {st0 : List Value} (hst : st0 = argsL.reverse ++ .ref a :: st) (hC : Ct l Z y bytes' mL' ret' rm (.ref a :: argsL).toArray T.heap Q') (hlen : ∀ sig, parseMethodDescriptor y.desc = some sig → argsL.length = sig.parameters.length) (hsz : Ls.size = mL) (hcl : cells + rm.cells ≤ R.cells) (hsl : slots + rm.slots ≤ R.slots) (hfr : rm.frames + 1 ≤ R.frames) (hlo : (st.map fun v => v.category).sum + (mL' + 11) + rm.locals ≤ R.locals) {pc' : Nat} (hp : pc + 3 = pc')
    (k : ∀ (T' : State) (v : Option Value), Wk l Z R bytes mL ret own nm p e s m args below meth c T' (cells + rm.cells) (slots + rm.slots) → Q' v T'.heap → Ends p e below s Z Q cC cS T' (mkF m pc' Ls (v.toList ++ st))) : Ends p e below s Z Q cC cS T (mkF m pc Ls st0) :=
  E_privateB X hd w1 w6 w5 wp w4 hy E hst (hC.back X.hZ w4 w3 hfr hlo) (fun _ _ _ q => q) hlen hsz hcl hsl hp k
theorem E_interfaceB (X : Wk l Z R bytes mL ret own nm p e s m args below meth c T cells slots) {y : MethodName} {ix : Nat} {Q' : Option Value → Heap → Prop} {argsL : List Value} {Q2 : Option Value → Heap → List Loc → Prop} {rC rS : Nat} {a : Addr} {z : MethodName} {D : String} {ct : Nat} (hd : decode bytes pc = .ok (.invokeinterface ix ct, 5)) (w1 : (Jvm.Cond.methodLink own ix y).before a0 Z = true) (w2 : (Jvm.Cond.declares y).before a0 Z = true) (w5 : (Jvm.Cond.selects D y z).before a0 Z = true) (w6 : (Jvm.Cond.instanceMethod z).before a0 Z = true) (w7 : (Jvm.Cond.interfaceMethod y.cls y.cls y.name y.desc).before a0 Z = true) (hif : ((Jvm.Cond.interfaceMethod y.cls y.cls y.name y.desc).onTables && (Jvm.Cond.interfaceMethod y.cls y.cls y.name y.desc).keepsFace) = true) (w8 : (Jvm.Cond.publicMethod z).before a0 Z = true) (w9 : (Jvm.Cond.unhidden D y.name y.desc).before a0 Z = true) (wc : (Jvm.Cond.castable D y.cls).before a0 Z = true) (hy : y.cls ≠ "java/lang/invoke/MethodHandle" ∧ y.cls ≠ "java/lang/invoke/VarHandle") (E : Exa Z T.heap a D) {st0 : List Value} (hst : st0 = argsL.reverse ++ .ref a :: st) (hK : Back l R p e below s args z 5 ((st.map fun v => v.category).sum) (fun A aa => aa = (.ref a :: argsL).toArray ∧ A.U.heap = T.heap ∧ A.cells + rC ≤ R.cells ∧ A.slots + rS ≤ R.slots) (fun A _ v B => ∃ L, Q2 v B.U.heap L ∧ B.locs = A.locs ++ L ∧ B.cells = A.cells + rC ∧ B.slots = A.slots + rS)) (hQ2 : ∀ v h L, Q2 v h L → Fr Z.heap.size L ∧ Ext Z.heap h ∧ Q' v h) (hlen : ∀ sig, parseMethodDescriptor y.desc = some sig → argsL.length = sig.parameters.length) (hsz : Ls.size = mL) (hcl : cells + rC ≤ R.cells) (hsl : slots + rS ≤ R.slots) {pc' : Nat} (hp : pc + 5 = pc')
    (k : ∀ (T' : State) (v : Option Value), Wk l Z R bytes mL ret own nm p e s m args below meth c T' (cells + rC) (slots + rS) → Q' v T'.heap → Ends p e below s Z Q cC cS T' (mkF m pc' Ls (v.toList ++ st))) : Ends p e below s Z Q cC cS T (mkF m pc Ls st0) := by
  subst hp hst; obtain ⟨q0, locs, Y, N, Od⟩ := id X
  obtain ⟨cq, kq, qa, qb, qc⟩ := isOf X.hZ rfl E
  obtain ⟨v, _, ⟨T', L1, k1, n1⟩, -, Y', ⟨Lc, hQ, l1, y1, z1⟩, stp⟩ := Y.interfaceBack X.hx (xi := y) (y := z) X.hown (mvT X.hZ w1) (mvT X.hZ w2) (mvT X.hZ w7 hif) (mvT X.hZ w5) (mvT X.hZ w6) (mvT X.hZ w8) (mvT X.hZ w9) (mvT X.hZ wc) hy hK qa qb qc (g := mkF m pc Ls (argsL.reverse ++ .ref a :: st)) rfl (X.size hsz) (Steps.refl _) (argsL := argsL) (rest := st) hlen rfl (by show 2 * 0 + _ ≤ _; omega) (X.hb hd) (fun _ _ => ⟨rfl, rfl, hcl, hsl⟩)
  dsimp only [Pt.U, Pt.locs, Pt.cells, Pt.slots] at Y' l1 y1 z1 stp hQ
  subst l1 y1 z1
  obtain ⟨f1, f2, f3⟩ := hQ2 _ _ _ hQ
  exact E_tr stp (k T' v ⟨q0, _, Y', Fr.app N f1, f2⟩ f3)
theorem E_interface (X : Wk l Z R bytes mL ret own nm p e s m args below meth c T cells slots) {y : MethodName} {ix : Nat} {bytes' : ByteArray} {mL' : Nat} {ret' : Option FieldType} {Q' : Option Value → Heap → Prop} {argsL : List Value} {rm : Room} {a : Addr} {z : MethodName} {D : String} {ct : Nat} (hd : decode bytes pc = .ok (.invokeinterface ix ct, 5)) (w1 : (Jvm.Cond.methodLink own ix y).before a0 Z = true) (w2 : (Jvm.Cond.declares y).before a0 Z = true) (w5 : (Jvm.Cond.selects D y z).before a0 Z = true) (w6 : (Jvm.Cond.instanceMethod z).before a0 Z = true) (w7 : (Jvm.Cond.interfaceMethod y.cls y.cls y.name y.desc).before a0 Z = true) (hif : ((Jvm.Cond.interfaceMethod y.cls y.cls y.name y.desc).onTables && (Jvm.Cond.interfaceMethod y.cls y.cls y.name y.desc).keepsFace) = true) (w8 : (Jvm.Cond.publicMethod z).before a0 Z = true) (w9 : (Jvm.Cond.unhidden D y.name y.desc).before a0 Z = true) (wc : (Jvm.Cond.castable D y.cls).before a0 Z = true) (hy : y.cls ≠ "java/lang/invoke/MethodHandle" ∧ y.cls ≠ "java/lang/invoke/VarHandle") (E : Exa Z T.heap a D) (w3 : (Jvm.Cond.initialized z.cls).before a0 Z = true) (w4 : (Jvm.Cond.code z bytes' mL' ret').before a0 Z = true) {st0 : List Value} (hst : st0 = argsL.reverse ++ .ref a :: st) (hC : Ct l Z z bytes' mL' ret' rm (.ref a :: argsL).toArray T.heap Q') (hlen : ∀ sig, parseMethodDescriptor y.desc = some sig → argsL.length = sig.parameters.length) (hsz : Ls.size = mL) (hcl : cells + rm.cells ≤ R.cells) (hsl : slots + rm.slots ≤ R.slots) (hfr : rm.frames + 1 ≤ R.frames) (hlo : (st.map fun v => v.category).sum + (mL' + 11) + rm.locals ≤ R.locals) {pc' : Nat} (hp : pc + 5 = pc')
    (k : ∀ (T' : State) (v : Option Value), Wk l Z R bytes mL ret own nm p e s m args below meth c T' (cells + rm.cells) (slots + rm.slots) → Q' v T'.heap → Ends p e below s Z Q cC cS T' (mkF m pc' Ls (v.toList ++ st))) : Ends p e below s Z Q cC cS T (mkF m pc Ls st0) :=
  E_interfaceB X hd w1 w2 w5 w6 w7 hif w8 w9 wc hy E hst (hC.back X.hZ w4 w3 hfr hlo) (fun _ _ _ q => q) hlen hsz hcl hsl hp k
theorem Wk.out (X : Wk l Z R bytes mL ret own nm p e s m args below meth c T cells slots) {v : Option Value} (hv : ret = none → v = none) (hQ : Q v T.heap) (h1 : cells ≤ cC) (h2 : slots ≤ cS) (hs : ∀ fs, (∀ (f : JFrame) (acts : List Action), f.method = m → f.locked = none → f.entered = [] → (doReturn e (T.setTop f) acts v).1 = T.setFrames fs) → Steps p.tables e below (T.setTop g) (T.setFrames fs)) : Ends p e below s Z Q cC cS T g := by
  obtain ⟨q0, locs, Y, N, Od⟩ := id X
  obtain ⟨fs, hr, hrun, hended, hW, hsame⟩ := Y.leave (v := v) (fun h => hv (q0.2.2.2.1.symm.trans h)) q0.2.2.2.2.1
  exact ⟨_, _, hs fs hr, hrun, hended, _, _, rfl, ⟨N, Od, hQ⟩, ⟨_, rfl⟩, hW, hsame.mono h1 h2⟩
theorem E_return (X : Wk l Z R bytes mL ret own nm p e s m args below meth c T cells slots) (hd : decode bytes pc = .ok (.return_, 1)) (hret : ret = none) (h1 : cells ≤ cC) (h2 : slots ≤ cS) (hQ : Q none T.heap) : Ends p e below s Z Q cC cS T (mkF m pc Ls []) := by
  refine X.out (v := none) (fun _ => rfl) hQ h1 h2 fun fs hr => ?_
  obtain ⟨q0, locs, Y, N, Od⟩ := id X
  exact Y.returnOut X.hx (q0.2.2.2.1.trans hret) (X.hb hd) hr
theorem E_ireturnI (X : Wk l Z R bytes mL ret own nm p e s m args below meth c T cells slots) {z : Int32} (hd : decode bytes pc = .ok (.ireturn, 1)) (hret : ret = some .int) (h1 : cells ≤ cC) (h2 : slots ≤ cS) (hQ : Q (some (.int z)) T.heap) : Ends p e below s Z Q cC cS T (mkF m pc Ls (.int z :: st)) := by
  refine X.out (v := some (.int z)) (fun h => by rw [hret] at h; cases h) hQ h1 h2 fun fs hr => ?_
  obtain ⟨q0, locs, Y, N, Od⟩ := id X
  exact retOut Y X.hx (q0.2.2.2.1.trans hret) rfl (Or.inl ⟨rfl, Or.inl rfl, z, rfl⟩) (X.hb hd) hr
theorem E_ireturnN (X : Wk l Z R bytes mL ret own nm p e s m args below meth c T cells slots) {z : Int32} {t : FieldType} (hd : decode bytes pc = .ok (.ireturn, 1)) (hret : ret = some t) (ht : t = .boolean ∨ t = .byte ∨ t = .char ∨ t = .short) (h1 : cells ≤ cC) (h2 : slots ≤ cS) (hQ : Q (some (.int (nar t z))) T.heap) : Ends p e below s Z Q cC cS T (mkF m pc Ls (.int z :: st)) := by
  refine X.out (v := some (.int (nar t z))) (fun h => by rw [hret] at h; cases h) hQ h1 h2 fun fs hr => ?_
  obtain ⟨q0, locs, Y, N, Od⟩ := id X
  exact retN Y X.hx (q0.2.2.2.1.trans hret) ht (X.hb hd) hr
theorem E_areturn (X : Wk l Z R bytes mL ret own nm p e s m args below meth c T cells slots) {v : Value} {t : FieldType} (hd : decode bytes pc = .ok (.areturn, 1)) (hret : ret = some t) (ht : t.isReference = true) (hv : v.isRef = true) (hn : narrow t v = v) (h1 : cells ≤ cC) (h2 : slots ≤ cS) (hQ : Q (some v) T.heap) : Ends p e below s Z Q cC cS T (mkF m pc Ls (v :: st)) := by
  refine X.out (v := some v) (fun h => by rw [hret] at h; cases h) hQ h1 h2 fun fs hr => ?_
  obtain ⟨q0, locs, Y, N, Od⟩ := id X
  exact retOut Y X.hx (q0.2.2.2.1.trans hret) hn (Or.inr (Or.inr (Or.inr (Or.inr ⟨rfl, ht, hv⟩)))) (X.hb hd) hr
end Own
section OwnW
variable {p : Program} {l : Launch} {e : Env} {R : Room} {s : State} {m : MethodId} {args : Array Value} {below : List Frame} {meth : Method} {c : Code} {T T' : State} {cells slots : Nat} {Z : State} {bytes : ByteArray} {mL : Nat} {ret : Option FieldType} {own nm : String} {Q : Option Value → Heap → Prop} {cC cS : Nat} {pc : Nat} {Ls : Array Slot} {st : List Value} {a0 : Array Value} {g g' : JFrame} {vm : Vm}
abbrev EL : List (String × Nat) := consts_1
/-- the walk stands at T over the start with the tables vm; it may have loaded String constants -/
def Ww (l : Launch) (Z : State) (R : Room) (bytes : ByteArray) (mL : Nat) (ret : Option FieldType) (own nm : String) (p : Program) (e : Env) (s : State) (m : MethodId) (args : Array Value) (below : List Frame) (meth : Method) (c : Code) (vm : Vm) (T : State) (cells slots : Nat) : Prop :=
  (p.tables.exec = Jvm.exec ∧ c.code = bytes ∧ c.maxLocals = mL ∧ meth.sig.returnType = ret ∧ meth.locks = false ∧ vm.findClass own = some m.cls ∧ meth.name = nm ∧ Z.Warmed39 vm) ∧
  ((∃ k0, s.Since vm k0 ∧ k0 ≤ T.heap.size) ∧ (∃ a1, EW Z a1 EL) ∧ CHr Z EL s.vm s.heap vm T.heap) ∧
  ∃ locs, Stand p l e R (s.setVm vm) m args below meth c T locs cells slots ∧ Fr Z.heap.size locs ∧ Ext Z.heap T.heap
def EndW (p : Program) (e : Env) (below : List Frame) (s : State) (Z : State) (Q : Option Value → Heap → Prop) (cC cS : Nat) (T : State) (g : JFrame) : Prop :=
  ∃ t o, Steps p.tables e below (T.setTop g) t ∧ t.status = .running ∧ Ended t below o ∧ ∃ v L, o = .returned v ∧ (Fr Z.heap.size L ∧ Ext Z.heap t.heap ∧ Q v t.heap) ∧ CHr Z EL s.vm s.heap t.vm t.heap ∧ ReturnedEndW s o t L cC cS
def CtW (l : Launch) (Z : State) (y : MethodName) (bytes : ByteArray) (mL : Nat) (ret : Option FieldType) (rm : Room) (as' : Array Value) (h : Heap) (Q : Option Value → Heap → Prop) : Prop :=
  ∀ ws, MetFree l y (head1 (Jvm.Cond.code y bytes mL ret :: ws) rm) (fun a U => a = as' ∧ Z.Warmed39 U.vm ∧ U.heap = h ∧ CHv Z EL U.vm h) (fun _ _ _ _ _ => True) (fun _ U o U' => ∃ v L, o = .returned v ∧ (Fr Z.heap.size L ∧ Ext Z.heap U'.heap ∧ Q v U'.heap) ∧ CHr Z EL U.vm U.heap U'.vm U'.heap ∧ ReturnedEndW U o U' L rm.cells rm.slots)
theorem Ww.hx (X : Ww l Z R bytes mL ret own nm p e s m args below meth c vm T cells slots) : p.tables.exec = Jvm.exec := X.1.1
theorem Ww.hb (X : Ww l Z R bytes mL ret own nm p e s m args below meth c vm T cells slots) {pc : Nat} {r : Except DecodeError (Instr × Nat)} (h : decode bytes pc = r) : decode c.code pc = r := X.1.2.1 ▸ h
theorem Ww.hown (X : Ww l Z R bytes mL ret own nm p e s m args below meth c vm T cells slots) : vm.findClass own = some m.cls := X.1.2.2.2.2.2.1
theorem Ww.hZ (X : Ww l Z R bytes mL ret own nm p e s m args below meth c vm T cells slots) : Z.Warmed39 vm := X.1.2.2.2.2.2.2.2
theorem Ww.at (X : Ww l Z R bytes mL ret own nm p e s m args below meth c vm T cells slots) : At T m c below := by obtain ⟨-, -, _, X, -⟩ := X; exact X.here
theorem Ww.old (X : Ww l Z R bytes mL ret own nm p e s m args below meth c vm T cells slots) : Ext Z.heap T.heap := by obtain ⟨-, -, _, -, -, X⟩ := X; exact X
theorem Ww.le (X : Ww l Z R bytes mL ret own nm p e s m args below meth c vm T cells slots) : Z.heap.size ≤ T.heap.size := X.old.1
theorem Ww.size (X : Ww l Z R bytes mL ret own nm p e s m args below meth c vm T cells slots) (h : Ls.size = mL) {pc : Nat} {st : List Value} : (mkF m pc Ls st).locals.size = c.maxLocals := h.trans X.1.2.2.1.symm
theorem Ww.more (X : Ww l Z R bytes mL ret own nm p e s m args below meth c vm T cells slots) {cells' slots' : Nat} (h1 : cells ≤ cells') (h2 : slots ≤ slots') : Ww l Z R bytes mL ret own nm p e s m args below meth c vm T cells' slots' := by
  obtain ⟨q, q2, locs, Y, r⟩ := X; exact ⟨q, q2, locs, Y.more h1 h2, r⟩

theorem Ww.ch (X : Ww l Z R bytes mL ret own nm p e s m args below meth c vm T cells slots) : CHv Z EL vm T.heap := X.2.1.2.2.1
theorem Ww.al (X : Ww l Z R bytes mL ret own nm p e s m args below meth c vm T cells slots) : Z.vm.Alike vm := X.hZ.alike
theorem F_by (f : ∀ target, Steps p.tables e below (T'.setTop g') target → Steps p.tables e below (T.setTop g) target) (k : EndW p e below s Z Q cC cS T' g') : EndW p e below s Z Q cC cS T g := by
  obtain ⟨t, o, h1, r⟩ := k; exact ⟨t, o, f _ h1, r⟩
theorem F_tr (f : Steps p.tables e below (T.setTop g) (T'.setTop g')) (k : EndW p e below s Z Q cC cS T' g') : EndW p e below s Z Q cC cS T g := F_by (fun _ q => f.trans q) k
theorem own_ks {h h' : Heap} (q : h' = h) : Keep h h' [] := q ▸ Keep.refl _ _
/-- the walk goes on: same tables, heap kept but for safe places -/
theorem Ww.go {ws : List Addr} {T' : State} {cells' slots' : Nat} {locs' : List Loc} (X : Ww l Z R bytes mL ret own nm p e s m args below meth c vm T cells slots) (Y : Stand p l e R (s.setVm vm) m args below meth c T' locs' cells' slots') (N : Fr Z.heap.size locs') (K : Keep T.heap T'.heap ws) (hw : ∀ x ∈ ws, Z.heap.size ≤ x) (hs : ∀ x ∈ ws, Safe Z EL vm T.heap x) : Ww l Z R bytes mL ret own nm p e s m args below meth c vm T' cells' slots' := by
  obtain ⟨q0, ⟨⟨k0, hS, hk⟩, hE, hC⟩, locs, Y0, N0, O⟩ := X
  exact ⟨q0, ⟨⟨k0, hS, Nat.le_trans hk K.1⟩, hE, hC.trans (CHr.keep K hs hC.1)⟩, locs', Y, N, Keep.old O K hw⟩
theorem Ww.go2 {ws : List Addr} {T' : State} {cells' slots' : Nat} {locs' : List Loc} (X : Ww l Z R bytes mL ret own nm p e s m args below meth c vm T cells slots) (Y : Stand p l e R (s.setVm vm) m args below meth c T' locs' cells' slots') (N : Fr Z.heap.size locs') (O' : Ext Z.heap T'.heap) (K : Keep T.heap T'.heap ws) (hs : ∀ x ∈ ws, Safe Z EL vm T.heap x) : Ww l Z R bytes mL ret own nm p e s m args below meth c vm T' cells' slots' := by
  obtain ⟨q0, ⟨⟨k0, hS, hk⟩, hE, hC⟩, locs, Y0, N0, O⟩ := X
  exact ⟨q0, ⟨⟨k0, hS, Nat.le_trans hk K.1⟩, hE, hC.trans (CHr.keep K hs hC.1)⟩, locs', Y, N, O'⟩
/-- a String whose array isn't set is no booked one -/
theorem own_safe {h : Heap} {x : Addr} (hal : Z.vm.Alike vm) (E : Exa Z h x "java/lang/String") (F : Fld Z h x "java/lang/String" "value" "[B" .null) (wi : (Jvm.Cond.instantiable "java/lang/String" 4).before a0 Z = true) : Safe Z EL vm h x := fun B => by
  obtain ⟨cell, cf, k, i, f, h1, h2, h3, h4, h5, h6, h7⟩ := F
  obtain ⟨pr, -, u, a, -, q, -, G, rfl | rfl⟩ := B
  · have ha := G.ha
    obtain ⟨cS, ⟨⟨-, -, -, ⟨cv, kv, iv, s4, -⟩, -, -, -, s8, -⟩, -⟩, -⟩ := G
    cases (show h[q.sa]? = some q.sC from ha).symm.trans h1
    obtain ⟨kv', z4⟩ := ff_back (U := Wst Z vm h) hal s4
    have e4 := z4.symm.trans h2
    simp only [Option.some.injEq, Prod.mk.injEq] at e4
    rw [e4.2.2.2, h7] at s8
    cases s8
  · have hd := G.hd
    obtain ⟨cS, ⟨⟨-, -, -, -, -, -, -, -, -, -, ⟨-, kB, hkB, compB, hkindB⟩, -⟩, -, -⟩, -⟩ := G
    obtain ⟨cell2, k2, e1, e2, e3, -⟩ := E
    cases (show h[q.sd]? = some q.SA from hd).symm.trans e1
    obtain ⟨c4, k4, i1, i2, i3, -⟩ := Cond.instantiable_spec wi
    cases e2.symm.trans i1
    obtain ⟨k5, q1, q2⟩ := hal.2.2 _ _ i2
    cases (show vm.classes[q.SA.cls]? = some kB from hkB).symm.trans q1
    rw [q2] at hkindB
    have := i3.symm.trans hkindB
    cases this
theorem CtW.of_body {y1 y2 y3 : String} {rm : Room} {as' : Array Value} {h : Heap} (pn : plainFor ⟨y1, y2, y3⟩ = true) (O : Ext Z.heap h) (hE : EW Z a0 EL) (ef : ∀ m, entryFrame m as' mL = mkF m 0 Ls [])
    (k : ∀ {p : Program} {e : Env} {s : State} {m : MethodId} {below : List Frame} {meth : Method} {c : Code} {T : State}, Ww l Z rm bytes mL ret y1 y2 p e s m as' below meth c s.vm T 0 0 → T.heap = h → EndW p e below s Z Q rm.cells rm.slots T (mkF m 0 Ls [])) : CtW l Z ⟨y1, y2, y3⟩ bytes mL ret rm as' h Q := by
  intro ws
  refine MetFree.of_bodySF pn hisR ?_
  intro p e s m args below meth c s₁ Bd hml0 hP hK
  obtain ⟨rfl, hZ, hh, hC⟩ := hP
  have e0 : s₁.heap = h := by rw [← hh, Bd.state]; rfl
  have X : Ww l Z rm bytes mL ret y1 y2 p e s m args below meth c s.vm s₁ 0 0 := ⟨⟨Bd.exec, Bd.bytes, hml0, Bd.returns, Bd.notSynchronized, findClass_of_methodNamed Bd.named, (name_of_methodNamed Bd.named Bd.method).1, hZ⟩, ⟨⟨0, (State.WarmedH.refl s).since 0, Nat.zero_le _⟩, ⟨_, hE⟩, by rw [hh, e0]; exact CHr.refl hC⟩, [], by rw [State.setVm_self]; exact Stand.of_body Bd, Fr.nil _, e0 ▸ O⟩
  obtain ⟨t, o, h1, r⟩ := k X e0
  exact ⟨t, o, castTop (ef m) h1, r⟩
theorem CtW.back {y : MethodName} {rm : Room} {as' : Array Value} {h : Heap} {mL' : Nat} {bytes' : ByteArray} {ret' : Option FieldType} {Q' : Option Value → Heap → Prop} (hC : CtW l Z y bytes' mL' ret' rm as' h Q') {len W : Nat}
    (hZ : Z.Warmed39 vm) (wc : (Jvm.Cond.code y bytes' mL' ret').before a0 Z = true) (wz : (Jvm.Cond.initialized y.cls).before a0 Z = true) (hf : rm.frames + 1 ≤ R.frames) (hl : W + (mL' + 11) + rm.locals ≤ R.locals) {a1 : Array Value} (hE : EW Z a1 EL) (H : CHv Z EL vm h) :
    BackS l R p e below (s.setVm vm) args y len W (fun A aa => aa = as' ∧ A.U.heap = h ∧ A.cells + rm.cells ≤ R.cells ∧ A.slots + rm.slots ≤ R.slots)
      (fun A _ v B => ∃ L, (Fr Z.heap.size L ∧ Ext Z.heap B.U.heap ∧ Q' v B.U.heap) ∧ B.locs = A.locs ++ L ∧ B.cells = A.cells + rm.cells ∧ B.slots = A.slots + rm.slots ∧ CHr Z EL vm h B.U.vm B.U.heap) :=
  backOfSH (Q := fun v h L => Fr Z.heap.size L ∧ Ext Z.heap h ∧ Q' v h) (hC []) hZ wc wz hf hl hE H

theorem F_aloadN (X : Ww l Z R bytes mL ret own nm p e s m args below meth c vm T cells slots) {j : Fin 4} {v : Value} (hd : decode bytes pc = .ok (.aload_n j, 1)) (hl : Ls[j.val]? = some (.val v)) (hv : v.isRef = true) {pc' : Nat} (hp : pc + 1 = pc') (k : EndW p e below s Z Q cC cS T (mkF m pc' Ls (v :: st))) : EndW p e below s Z Q cC cS T (mkF m pc Ls (st)) := by
  subst hp; exact F_by (fun _ q => XS.aloadN X.at X.hx rfl (X.hb hd) hl hv q) k
theorem F_aload (X : Ww l Z R bytes mL ret own nm p e s m args below meth c vm T cells slots) {j : Nat} {v : Value} (hd : decode bytes pc = .ok (.aload j, 2)) (hl : Ls[j]? = some (.val v)) (hv : v.isRef = true) {pc' : Nat} (hp : pc + 2 = pc') (k : EndW p e below s Z Q cC cS T (mkF m pc' Ls (v :: st))) : EndW p e below s Z Q cC cS T (mkF m pc Ls (st)) := by
  subst hp; exact F_by (fun _ q => XS.aload X.at X.hx rfl (X.hb hd) hl hv q) k
theorem F_iloadN (X : Ww l Z R bytes mL ret own nm p e s m args below meth c vm T cells slots) {j : Fin 4} {v : Int32} (hd : decode bytes pc = .ok (.iload_n j, 1)) (hl : Ls[j.val]? = some (.val (.int v))) {pc' : Nat} (hp : pc + 1 = pc') (k : EndW p e below s Z Q cC cS T (mkF m pc' Ls (.int v :: st))) : EndW p e below s Z Q cC cS T (mkF m pc Ls (st)) := by
  subst hp; exact F_by (fun _ q => XS.iloadN X.at X.hx rfl (X.hb hd) hl q) k
theorem F_iload (X : Ww l Z R bytes mL ret own nm p e s m args below meth c vm T cells slots) {j : Nat} {v : Int32} (hd : decode bytes pc = .ok (.iload j, 2)) (hl : Ls[j]? = some (.val (.int v))) {pc' : Nat} (hp : pc + 2 = pc') (k : EndW p e below s Z Q cC cS T (mkF m pc' Ls (.int v :: st))) : EndW p e below s Z Q cC cS T (mkF m pc Ls (st)) := by
  subst hp; exact F_by (fun _ q => XS.iload X.at X.hx rfl (X.hb hd) hl q) k
theorem F_aconstNull (X : Ww l Z R bytes mL ret own nm p e s m args below meth c vm T cells slots) (hd : decode bytes pc = .ok (.aconst_null, 1)) {pc' : Nat} (hp : pc + 1 = pc') (k : EndW p e below s Z Q cC cS T (mkF m pc' Ls (.null :: st))) : EndW p e below s Z Q cC cS T (mkF m pc Ls (st)) := by
  subst hp; exact F_by (fun _ q => XS.aconstNull X.at X.hx rfl (X.hb hd) q) k
theorem F_iconst (X : Ww l Z R bytes mL ret own nm p e s m args below meth c vm T cells slots) {i : Int} {v : Int32} (hd : decode bytes pc = .ok (.iconst i, 1)) (hv : Int32.ofInt i = v) {pc' : Nat} (hp : pc + 1 = pc') (k : EndW p e below s Z Q cC cS T (mkF m pc' Ls (.int v :: st))) : EndW p e below s Z Q cC cS T (mkF m pc Ls st) := by
  subst hp hv; exact F_by (fun _ q => XS.iconst X.at X.hx rfl (X.hb hd) q) k
theorem F_bipush (X : Ww l Z R bytes mL ret own nm p e s m args below meth c vm T cells slots) {i : Int} {v : Int32} (hd : decode bytes pc = .ok (.bipush i, 2)) (hv : (Int8.ofInt i).toInt32 = v) {pc' : Nat} (hp : pc + 2 = pc') (k : EndW p e below s Z Q cC cS T (mkF m pc' Ls (.int v :: st))) : EndW p e below s Z Q cC cS T (mkF m pc Ls st) := by
  subst hp hv; exact F_by (fun _ q => XS.bipush X.at X.hx rfl (X.hb hd) q) k
theorem F_sipush (X : Ww l Z R bytes mL ret own nm p e s m args below meth c vm T cells slots) {i : Int} {v : Int32} (hd : decode bytes pc = .ok (.sipush i, 3)) (hv : (Int16.ofInt i).toInt32 = v) {pc' : Nat} (hp : pc + 3 = pc') (k : EndW p e below s Z Q cC cS T (mkF m pc' Ls (.int v :: st))) : EndW p e below s Z Q cC cS T (mkF m pc Ls st) := by
  subst hp hv; exact F_by (fun _ q => XS.sipush X.at X.hx rfl (X.hb hd) q) k
theorem F_iadd (X : Ww l Z R bytes mL ret own nm p e s m args below meth c vm T cells slots) {x y v : Int32} (hd : decode bytes pc = .ok (.iadd, 1)) (hv : x + y = v) {pc' : Nat} (hp : pc + 1 = pc') (k : EndW p e below s Z Q cC cS T (mkF m pc' Ls (.int v :: st))) : EndW p e below s Z Q cC cS T (mkF m pc Ls (.int y :: .int x :: st)) := by
  subst hp hv; exact F_by (fun _ q => XS.iadd X.at X.hx rfl (X.hb hd) rfl q) k
theorem F_isub (X : Ww l Z R bytes mL ret own nm p e s m args below meth c vm T cells slots) {x y v : Int32} (hd : decode bytes pc = .ok (.isub, 1)) (hv : x - y = v) {pc' : Nat} (hp : pc + 1 = pc') (k : EndW p e below s Z Q cC cS T (mkF m pc' Ls (.int v :: st))) : EndW p e below s Z Q cC cS T (mkF m pc Ls (.int y :: .int x :: st)) := by
  subst hp hv; exact F_by (fun _ q => XS.isub X.at X.hx rfl (X.hb hd) rfl q) k
theorem F_imul (X : Ww l Z R bytes mL ret own nm p e s m args below meth c vm T cells slots) {x y v : Int32} (hd : decode bytes pc = .ok (.imul, 1)) (hv : x * y = v) {pc' : Nat} (hp : pc + 1 = pc') (k : EndW p e below s Z Q cC cS T (mkF m pc' Ls (.int v :: st))) : EndW p e below s Z Q cC cS T (mkF m pc Ls (.int y :: .int x :: st)) := by
  subst hp hv; exact F_by (fun _ q => XS.imul X.at X.hx rfl (X.hb hd) rfl q) k
theorem F_iand (X : Ww l Z R bytes mL ret own nm p e s m args below meth c vm T cells slots) {x y v : Int32} (hd : decode bytes pc = .ok (.iand, 1)) (hv : x &&& y = v) {pc' : Nat} (hp : pc + 1 = pc') (k : EndW p e below s Z Q cC cS T (mkF m pc' Ls (.int v :: st))) : EndW p e below s Z Q cC cS T (mkF m pc Ls (.int y :: .int x :: st)) := by
  subst hp hv; exact F_by (fun _ q => XS.iand X.at X.hx rfl (X.hb hd) rfl q) k
theorem F_ior (X : Ww l Z R bytes mL ret own nm p e s m args below meth c vm T cells slots) {x y v : Int32} (hd : decode bytes pc = .ok (.ior, 1)) (hv : x ||| y = v) {pc' : Nat} (hp : pc + 1 = pc') (k : EndW p e below s Z Q cC cS T (mkF m pc' Ls (.int v :: st))) : EndW p e below s Z Q cC cS T (mkF m pc Ls (.int y :: .int x :: st)) := by
  subst hp hv; exact F_by (fun _ q => XS.ior X.at X.hx rfl (X.hb hd) rfl q) k
theorem F_ixor (X : Ww l Z R bytes mL ret own nm p e s m args below meth c vm T cells slots) {x y v : Int32} (hd : decode bytes pc = .ok (.ixor, 1)) (hv : x ^^^ y = v) {pc' : Nat} (hp : pc + 1 = pc') (k : EndW p e below s Z Q cC cS T (mkF m pc' Ls (.int v :: st))) : EndW p e below s Z Q cC cS T (mkF m pc Ls (.int y :: .int x :: st)) := by
  subst hp hv; exact F_by (fun _ q => XS.ixor X.at X.hx rfl (X.hb hd) rfl q) k
theorem F_ishl (X : Ww l Z R bytes mL ret own nm p e s m args below meth c vm T cells slots) {x y v : Int32} (hd : decode bytes pc = .ok (.ishl, 1)) (hv : x <<< (y &&& 31) = v) {pc' : Nat} (hp : pc + 1 = pc') (k : EndW p e below s Z Q cC cS T (mkF m pc' Ls (.int v :: st))) : EndW p e below s Z Q cC cS T (mkF m pc Ls (.int y :: .int x :: st)) := by
  subst hp hv; exact F_by (fun _ q => XS.ishl X.at X.hx rfl (X.hb hd) rfl q) k
theorem F_ishr (X : Ww l Z R bytes mL ret own nm p e s m args below meth c vm T cells slots) {x y v : Int32} (hd : decode bytes pc = .ok (.ishr, 1)) (hv : x >>> (y &&& 31) = v) {pc' : Nat} (hp : pc + 1 = pc') (k : EndW p e below s Z Q cC cS T (mkF m pc' Ls (.int v :: st))) : EndW p e below s Z Q cC cS T (mkF m pc Ls (.int y :: .int x :: st)) := by
  subst hp hv; exact F_by (fun _ q => XS.ishr X.at X.hx rfl (X.hb hd) rfl q) k
theorem F_iushr (X : Ww l Z R bytes mL ret own nm p e s m args below meth c vm T cells slots) {x y v : Int32} (hd : decode bytes pc = .ok (.iushr, 1)) (hv : (x.toUInt32 >>> (y &&& 31).toUInt32).toInt32 = v) {pc' : Nat} (hp : pc + 1 = pc') (k : EndW p e below s Z Q cC cS T (mkF m pc' Ls (.int v :: st))) : EndW p e below s Z Q cC cS T (mkF m pc Ls (.int y :: .int x :: st)) := by
  subst hp hv; exact F_by (fun _ q => XS.iushr X.at X.hx rfl (X.hb hd) rfl q) k
theorem F_ineg (X : Ww l Z R bytes mL ret own nm p e s m args below meth c vm T cells slots) {x v : Int32} (hd : decode bytes pc = .ok (.ineg, 1)) (hv : -x = v) {pc' : Nat} (hp : pc + 1 = pc') (k : EndW p e below s Z Q cC cS T (mkF m pc' Ls (.int v :: st))) : EndW p e below s Z Q cC cS T (mkF m pc Ls (.int x :: st)) := by
  subst hp hv; exact F_by (fun _ q => XS.ineg X.at X.hx rfl (X.hb hd) rfl q) k
theorem F_i2c (X : Ww l Z R bytes mL ret own nm p e s m args below meth c vm T cells slots) {x v : Int32} (hd : decode bytes pc = .ok (.i2c, 1)) (hv : x.toUInt32.toUInt16.toUInt32.toInt32 = v) {pc' : Nat} (hp : pc + 1 = pc') (k : EndW p e below s Z Q cC cS T (mkF m pc' Ls (.int v :: st))) : EndW p e below s Z Q cC cS T (mkF m pc Ls (.int x :: st)) := by
  subst hp hv; exact F_by (fun _ q => XS.i2c X.at X.hx rfl (X.hb hd) rfl q) k
theorem F_i2b (X : Ww l Z R bytes mL ret own nm p e s m args below meth c vm T cells slots) {x v : Int32} (hd : decode bytes pc = .ok (.i2b, 1)) (hv : x.toInt8.toInt32 = v) {pc' : Nat} (hp : pc + 1 = pc') (k : EndW p e below s Z Q cC cS T (mkF m pc' Ls (.int v :: st))) : EndW p e below s Z Q cC cS T (mkF m pc Ls (.int x :: st)) := by
  subst hp hv; exact F_by (fun _ q => XS.i2b X.at X.hx rfl (X.hb hd) rfl q) k
theorem F_i2s (X : Ww l Z R bytes mL ret own nm p e s m args below meth c vm T cells slots) {x v : Int32} (hd : decode bytes pc = .ok (.i2s, 1)) (hv : x.toInt16.toInt32 = v) {pc' : Nat} (hp : pc + 1 = pc') (k : EndW p e below s Z Q cC cS T (mkF m pc' Ls (.int v :: st))) : EndW p e below s Z Q cC cS T (mkF m pc Ls (.int x :: st)) := by
  subst hp hv; exact F_by (fun _ q => XS.i2s X.at X.hx rfl (X.hb hd) rfl q) k
theorem F_dup (X : Ww l Z R bytes mL ret own nm p e s m args below meth c vm T cells slots) {v : Value} (hd : decode bytes pc = .ok (.dup, 1)) (hc : v.category = 1) {pc' : Nat} (hp : pc + 1 = pc') (k : EndW p e below s Z Q cC cS T (mkF m pc' Ls (v :: v :: st))) : EndW p e below s Z Q cC cS T (mkF m pc Ls (v :: st)) := by
  subst hp; exact F_by (fun _ q => XS.dup X.at X.hx rfl (X.hb hd) rfl hc q) k
theorem F_dupx1 (X : Ww l Z R bytes mL ret own nm p e s m args below meth c vm T cells slots) {v u : Value} (hd : decode bytes pc = .ok (.dup_x1, 1)) (hc : v.category = 1) (hc2 : u.category = 1) {pc' : Nat} (hp : pc + 1 = pc') (k : EndW p e below s Z Q cC cS T (mkF m pc' Ls (v :: u :: v :: st))) : EndW p e below s Z Q cC cS T (mkF m pc Ls (v :: u :: st)) := by
  subst hp; exact F_by (fun _ q => XT.dupX1 X.at X.hx rfl (X.hb hd) rfl hc hc2 q) k
theorem F_pop (X : Ww l Z R bytes mL ret own nm p e s m args below meth c vm T cells slots) {v : Value} (hd : decode bytes pc = .ok (.pop, 1)) (hc : v.category = 1) {pc' : Nat} (hp : pc + 1 = pc') (k : EndW p e below s Z Q cC cS T (mkF m pc' Ls (st))) : EndW p e below s Z Q cC cS T (mkF m pc Ls (v :: st)) := by
  subst hp; exact F_by (fun _ q => XS.pop X.at X.hx rfl (X.hb hd) rfl hc q) k
theorem F_istoreN (X : Ww l Z R bytes mL ret own nm p e s m args below meth c vm T cells slots) {j : Fin 4} {x : Int32} (hd : decode bytes pc = .ok (.istore_n j, 1)) {l' : Array Slot} (hl : storeLocals Ls j.val (.int x) = some l') {pc' : Nat} (hp : pc + 1 = pc') (k : EndW p e below s Z Q cC cS T (mkF m pc' l' (st))) : EndW p e below s Z Q cC cS T (mkF m pc Ls (.int x :: st)) := by
  subst hp; exact F_by (fun _ q => XS.istoreN X.at X.hx rfl (X.hb hd) rfl hl q) k
theorem F_istore (X : Ww l Z R bytes mL ret own nm p e s m args below meth c vm T cells slots) {j : Nat} {x : Int32} (hd : decode bytes pc = .ok (.istore j, 2)) {l' : Array Slot} (hl : storeLocals Ls j (.int x) = some l') {pc' : Nat} (hp : pc + 2 = pc') (k : EndW p e below s Z Q cC cS T (mkF m pc' l' (st))) : EndW p e below s Z Q cC cS T (mkF m pc Ls (.int x :: st)) := by
  subst hp; exact F_by (fun _ q => XS.istore X.at X.hx rfl (X.hb hd) rfl hl q) k
theorem F_astoreN (X : Ww l Z R bytes mL ret own nm p e s m args below meth c vm T cells slots) {j : Fin 4} {x : Value} (hd : decode bytes pc = .ok (.astore_n j, 1)) (hv : x.isRef = true) {l' : Array Slot} (hl : storeLocals Ls j.val x = some l') {pc' : Nat} (hp : pc + 1 = pc') (k : EndW p e below s Z Q cC cS T (mkF m pc' l' (st))) : EndW p e below s Z Q cC cS T (mkF m pc Ls (x :: st)) := by
  subst hp; exact F_by (fun _ q => XS.astoreN X.at X.hx rfl (X.hb hd) rfl hv hl q) k
theorem F_astore (X : Ww l Z R bytes mL ret own nm p e s m args below meth c vm T cells slots) {j : Nat} {x : Value} (hd : decode bytes pc = .ok (.astore j, 2)) (hv : x.isRef = true) {l' : Array Slot} (hl : storeLocals Ls j x = some l') {pc' : Nat} (hp : pc + 2 = pc') (k : EndW p e below s Z Q cC cS T (mkF m pc' l' (st))) : EndW p e below s Z Q cC cS T (mkF m pc Ls (x :: st)) := by
  subst hp; exact F_by (fun _ q => XS.astore X.at X.hx rfl (X.hb hd) rfl hv hl q) k
theorem F_iinc (X : Ww l Z R bytes mL ret own nm p e s m args below meth c vm T cells slots) {j : Nat} {i : Int} {x y : Int32} (hd : decode bytes pc = .ok (.iinc j i, 3)) (hy : x + Int32.ofInt i = y) (hl : Ls[j]? = some (.val (.int x))) {l' : Array Slot} (hl' : storeLocals Ls j (.int y) = some l') {pc' : Nat} (hp : pc + 3 = pc') (k : EndW p e below s Z Q cC cS T (mkF m pc' l' st)) : EndW p e below s Z Q cC cS T (mkF m pc Ls st) := by
  subst hp hy; exact F_by (fun _ q => XS.iinc X.at X.hx rfl (X.hb hd) hl hl' q) k
theorem F_irem (X : Ww l Z R bytes mL ret own nm p e s m args below meth c vm T cells slots) {x y v : Int32} (hd : decode bytes pc = .ok (.irem, 1)) (hy : y ≠ 0) (hv : x % y = v) {pc' : Nat} (hp : pc + 1 = pc') (k : EndW p e below s Z Q cC cS T (mkF m pc' Ls (.int v :: st))) : EndW p e below s Z Q cC cS T (mkF m pc Ls (.int y :: .int x :: st)) := by
  subst hp hv; obtain ⟨q, q2, locs, Y, r⟩ := id X; exact F_by (fun _ k => iremM Y X.hx rfl (X.hb hd) rfl hy k) k
theorem F_idiv (X : Ww l Z R bytes mL ret own nm p e s m args below meth c vm T cells slots) {x y v : Int32} (hd : decode bytes pc = .ok (.idiv, 1)) (hy : y ≠ 0) (hv : x / y = v) {pc' : Nat} (hp : pc + 1 = pc') (k : EndW p e below s Z Q cC cS T (mkF m pc' Ls (.int v :: st))) : EndW p e below s Z Q cC cS T (mkF m pc Ls (.int y :: .int x :: st)) := by
  subst hp hv; exact F_by (fun _ k => XS.idiv X.at X.hx rfl (X.hb hd) rfl hy k) k
theorem F_goto (X : Ww l Z R bytes mL ret own nm p e s m args below meth c vm T cells slots) {o : Int} (hd : decode bytes pc = .ok (.goto o, 3)) {pc' : Nat} (ho : 0 ≤ (pc : Int) + o) (hp : ((pc : Int) + o).toNat = pc') (k : EndW p e below s Z Q cC cS T (mkF m pc' Ls st)) : EndW p e below s Z Q cC cS T (mkF m pc Ls st) :=
  F_by (fun _ q => XS.goto X.at X.hx rfl (pc0 := pc) rfl (X.hb hd) ho hp q) k
theorem F_ifT (X : Ww l Z R bytes mL ret own nm p e s m args below meth c vm T cells slots) {cd : ClassFile.Cond} {o : Int} {x : Int32} (hd : decode bytes pc = .ok (.ifCond cd o, 3)) (hc : ifCond.holds cd x = true) {pc' : Nat} (ho : 0 ≤ (pc : Int) + o) (hp : ((pc : Int) + o).toNat = pc') (k : EndW p e below s Z Q cC cS T (mkF m pc' Ls st)) : EndW p e below s Z Q cC cS T (mkF m pc Ls (.int x :: st)) :=
  F_by (fun _ q => XS.ifYes X.at X.hx rfl (pc0 := pc) rfl (X.hb hd) rfl hc ho hp q) k
theorem F_ifF (X : Ww l Z R bytes mL ret own nm p e s m args below meth c vm T cells slots) {cd : ClassFile.Cond} {o : Int} {x : Int32} (hd : decode bytes pc = .ok (.ifCond cd o, 3)) (hc : ifCond.holds cd x = false) {pc' : Nat} (hp : pc + 3 = pc') (k : EndW p e below s Z Q cC cS T (mkF m pc' Ls st)) : EndW p e below s Z Q cC cS T (mkF m pc Ls (.int x :: st)) := by
  subst hp; exact F_by (fun _ q => XS.ifNo X.at X.hx rfl (X.hb hd) rfl hc q) k
theorem F_icT (X : Ww l Z R bytes mL ret own nm p e s m args below meth c vm T cells slots) {cd : ClassFile.Cond} {o : Int} {x y : Int32} (hd : decode bytes pc = .ok (.if_icmp cd o, 3)) (hc : if_icmp.holds cd x y = true) {pc' : Nat} (ho : 0 ≤ (pc : Int) + o) (hp : ((pc : Int) + o).toNat = pc') (k : EndW p e below s Z Q cC cS T (mkF m pc' Ls st)) : EndW p e below s Z Q cC cS T (mkF m pc Ls (.int y :: .int x :: st)) :=
  F_by (fun _ q => XS.icmpYes X.at X.hx rfl (pc0 := pc) rfl (X.hb hd) rfl hc ho hp q) k
theorem F_icF (X : Ww l Z R bytes mL ret own nm p e s m args below meth c vm T cells slots) {cd : ClassFile.Cond} {o : Int} {x y : Int32} (hd : decode bytes pc = .ok (.if_icmp cd o, 3)) (hc : if_icmp.holds cd x y = false) {pc' : Nat} (hp : pc + 3 = pc') (k : EndW p e below s Z Q cC cS T (mkF m pc' Ls st)) : EndW p e below s Z Q cC cS T (mkF m pc Ls (.int y :: .int x :: st)) := by
  subst hp; exact F_by (fun _ q => XS.icmpNo X.at X.hx rfl (X.hb hd) rfl hc q) k
theorem F_nullT (X : Ww l Z R bytes mL ret own nm p e s m args below meth c vm T cells slots) {o : Int} (hd : decode bytes pc = .ok (.ifnull o, 3)) {pc' : Nat} (ho : 0 ≤ (pc : Int) + o) (hp : ((pc : Int) + o).toNat = pc') (k : EndW p e below s Z Q cC cS T (mkF m pc' Ls st)) : EndW p e below s Z Q cC cS T (mkF m pc Ls (.null :: st)) :=
  F_by (fun _ q => XS.ifnullYes X.at X.hx rfl (pc0 := pc) rfl (X.hb hd) rfl ho hp q) k
theorem F_nullF (X : Ww l Z R bytes mL ret own nm p e s m args below meth c vm T cells slots) {o : Int} {b : Addr} (hd : decode bytes pc = .ok (.ifnull o, 3)) {pc' : Nat} (hp : pc + 3 = pc') (k : EndW p e below s Z Q cC cS T (mkF m pc' Ls st)) : EndW p e below s Z Q cC cS T (mkF m pc Ls (.ref b :: st)) := by
  subst hp; exact F_by (fun _ q => XS.ifnullNo X.at X.hx rfl (X.hb hd) rfl q) k
theorem F_nonnullT (X : Ww l Z R bytes mL ret own nm p e s m args below meth c vm T cells slots) {o : Int} {b : Addr} (hd : decode bytes pc = .ok (.ifnonnull o, 3)) {pc' : Nat} (ho : 0 ≤ (pc : Int) + o) (hp : ((pc : Int) + o).toNat = pc') (k : EndW p e below s Z Q cC cS T (mkF m pc' Ls st)) : EndW p e below s Z Q cC cS T (mkF m pc Ls (.ref b :: st)) :=
  F_by (fun _ q => XT.nonnullYes X.at X.hx rfl (pc0 := pc) rfl (X.hb hd) rfl rfl (fun q => nomatch q) ho hp q) k
theorem F_nonnullF (X : Ww l Z R bytes mL ret own nm p e s m args below meth c vm T cells slots) {o : Int} (hd : decode bytes pc = .ok (.ifnonnull o, 3)) {pc' : Nat} (hp : pc + 3 = pc') (k : EndW p e below s Z Q cC cS T (mkF m pc' Ls st)) : EndW p e below s Z Q cC cS T (mkF m pc Ls (.null :: st)) := by
  subst hp; exact F_by (fun _ q => XT.nonnullNo X.at X.hx rfl (X.hb hd) rfl rfl q) k
theorem F_acmp (X : Ww l Z R bytes mL ret own nm p e s m args below meth c vm T cells slots) {cd : ACond} {o : Int} {x y : Value} (hd : decode bytes pc = .ok (.if_acmp cd o, 3)) (h1 : x.isRef = true) (h2 : y.isRef = true) (same : Bool) (hq : decide (x = y) = same) {pc' : Nat} (ho : 0 ≤ (pc : Int) + o) (hp : pc' = if acV cd same = true then ((pc : Int) + o).toNat else pc + 3) (k : EndW p e below s Z Q cC cS T (mkF m pc' Ls st)) : EndW p e below s Z Q cC cS T (mkF m pc Ls (y :: x :: st)) := by
  obtain ⟨_, _, locs, Y, r⟩ := id X; exact F_by (fun _ q => acmp Y X.hx rfl h1 h2 (pc0 := pc) rfl (X.hb hd) rfl hq ho hp q) k
theorem F_ldcI (X : Ww l Z R bytes mL ret own nm p e s m args below meth c vm T cells slots) {ix : Nat} {v : Int32} (hd : decode bytes pc = .ok (.ldc ix, 2)) (w : (Jvm.Cond.constant own ix v).before a0 Z = true) {pc' : Nat} (hp : pc + 2 = pc') (k : EndW p e below s Z Q cC cS T (mkF m pc' Ls (.int v :: st))) : EndW p e below s Z Q cC cS T (mkF m pc Ls st) := by
  subst hp; obtain ⟨_, _, locs, Y, r⟩ := id X; exact F_by (fun _ q => Y.ldcI X.hx X.hown (mvT X.hZ w) rfl (X.hb hd) q) k

theorem F_new (X : Ww l Z R bytes mL ret own nm p e s m args below meth c vm T cells slots) {C : String} {ix n : Nat} (hd : decode bytes pc = .ok (.new ix, 3)) (w1 : (Jvm.Cond.classLink own ix C).before a0 Z = true) (w2 : (Jvm.Cond.instantiable C n).before a0 Z = true) (w3 : (Jvm.Cond.initialized C).before a0 Z = true) (hc : cells + 1 ≤ R.cells) (hs : slots + n ≤ R.slots) {pc' : Nat} (hp : pc + 3 = pc')
    (k : ∀ (T' : State) (b : Addr), Ww l Z R bytes mL ret own nm p e s m args below meth c vm T' (cells + 1) (slots + n) → b = T.heap.size → Keep T.heap T'.heap [] → Exa Z T'.heap b C → (∀ {O nm d : String} {ty : FieldType}, Laid Z a0 C O nm d → parseFieldDescriptor d = some ty → Fld Z T'.heap b O nm d (defaultValue ty)) → EndW p e below s Z Q cC cS T' (mkF m pc' Ls (.ref b :: st))) : EndW p e below s Z Q cC cS T (mkF m pc Ls st) := by
  subst hp; obtain ⟨q0, qq, locs, Y, N, O⟩ := id X
  obtain ⟨T', h', Y', rfl, E, A, D, -, stp⟩ := newO Y X.hx X.hZ X.hown w1 w2 w3 rfl (g := mkF m pc Ls st) rfl (X.hb hd) hc hs
  exact F_by stp (k T' _ (X.go Y' N (Keep.of_ext E) all0 sf0) rfl (Keep.of_ext E) A D)
theorem F_newarray (X : Ww l Z R bytes mL ret own nm p e s m args below meth c vm T cells slots) {aty : ArrayType} {n : Int32} (cap : Nat) (hd : decode bytes pc = .ok (.newarray aty, 2)) (w : (Jvm.Cond.arrayClass (newarray.typeOf aty)).before a0 Z = true) (hn : ¬ n < 0) (hcap : n.toNatClampNeg ≤ cap) (hb : cap * 8 ≤ 536870912) (hc : cells + 1 ≤ R.cells) (hs : slots + cap ≤ R.slots) {pc' : Nat} (hp : pc + 2 = pc')
    (k : ∀ (T' : State) (b : Addr) (kA : ClassId), Ww l Z R bytes mL ret own nm p e s m args below meth c vm T' (cells + 1) (slots + cap) → b = T.heap.size → Keep T.heap T'.heap [] → Arv Z T'.heap b kA (newarray.typeOf aty) n [] (defaultValue (newarray.typeOf aty)) → EndW p e below s Z Q cC cS T' (mkF m pc' Ls (.ref b :: st))) : EndW p e below s Z Q cC cS T (mkF m pc Ls (.int n :: st)) := by
  subst hp; obtain ⟨q0, qq, locs, Y, N, O⟩ := id X
  obtain ⟨T', h', kA, Y', rfl, E, A, stp⟩ := newP Y X.hx X.hZ w rfl (g := mkF m pc Ls (.int n :: st)) rfl (X.hb hd) rfl hn hcap hb hc hs
  exact F_by stp (k T' _ kA (X.go Y' N (Keep.of_ext E) all0 sf0) rfl (Keep.of_ext E) (Arv.new A hn))
theorem F_anewarray (X : Ww l Z R bytes mL ret own nm p e s m args below meth c vm T cells slots) {C : String} {ix : Nat} {n : Int32} (cap : Nat) (hd : decode bytes pc = .ok (.anewarray ix, 3)) (w1 : (Jvm.Cond.classLink own ix C).before a0 Z = true) (w2 : (Jvm.Cond.arrayOver (.object C)).before a0 Z = true) (hn : ¬ n < 0) (hcap : n.toNatClampNeg ≤ cap) (hb : cap * 8 ≤ 536870912) (hc : cells + 1 ≤ R.cells) (hs : slots + cap ≤ R.slots) {pc' : Nat} (hp : pc + 3 = pc')
    (k : ∀ (T' : State) (b : Addr) (kA : ClassId), Ww l Z R bytes mL ret own nm p e s m args below meth c vm T' (cells + 1) (slots + cap) → b = T.heap.size → Keep T.heap T'.heap [] → Arv Z T'.heap b kA (.object C) n [] .null → Ovr Z kA C → EndW p e below s Z Q cC cS T' (mkF m pc' Ls (.ref b :: st))) : EndW p e below s Z Q cC cS T (mkF m pc Ls (.int n :: st)) := by
  subst hp; obtain ⟨q0, qq, locs, Y, N, O⟩ := id X
  obtain ⟨T', h', kA, Y', rfl, E, A, Ov, stp⟩ := newR Y X.hx X.hZ X.hown w1 w2 rfl (g := mkF m pc Ls (.int n :: st)) rfl (X.hb hd) rfl hn hcap hb hc hs
  exact F_by stp (k T' _ kA (X.go Y' N (Keep.of_ext E) all0 sf0) rfl (Keep.of_ext E) (Arv.new A hn) Ov)
theorem F_aastore (X : Ww l Z R bytes mL ret own nm p e s m args below meth c vm T cells slots) {a y : Addr} {kA : ClassId} {z j : Int32} {vs : List Value} {C : String} (i : Nat) (hd : decode bytes pc = .ok (.aastore, 1)) (V : Arv Z T.heap a kA (.object C) z vs .null) (Ov : Ovr Z kA C) (I : Ins Z T.heap y C true) (hj : ¬ j < 0 ∧ j < z) (hi : j.toNatClampNeg = i) (hl : i < vs.length) (ha : Z.heap.size ≤ a) {pc' : Nat} (hp : pc + 1 = pc')
    (k : ∀ (T' : State), Ww l Z R bytes mL ret own nm p e s m args below meth c vm T' cells slots → Keep T.heap T'.heap [a] → Arv Z T'.heap a kA (.object C) z (vs.set i (.ref y)) .null → EndW p e below s Z Q cC cS T' (mkF m pc' Ls st)) : EndW p e below s Z Q cC cS T (mkF m pc Ls (.ref y :: .int j :: .ref a :: st)) := by
  subst hp; obtain ⟨q0, qq, locs, Y, N, O⟩ := id X
  obtain ⟨cl, A, q1, S1, N1, H1, G1⟩ := V
  obtain ⟨T', h', Y', rfl, W, stp⟩ := stR Y X.hx X.hZ rfl A (j := j) (inb_of S1 hj) rfl (Sto.ofV A q1 Ov I) (g := mkF m pc Ls (.ref y :: .int j :: .ref a :: st)) rfl rfl (X.hb hd)
  exact F_by stp (k T' (X.go Y' (Fr.snoc Y' N ha) (Keep.of_wr W) (allS ha all0) (sfS (Safe.arr X.al A (by simp)) sf0)) (Keep.of_wr W) (Arv.set A q1 S1 N1 H1 G1 rfl W i hi hl))
theorem F_aastoreA (X : Ww l Z R bytes mL ret own nm p e s m args below meth c vm T cells slots) {a y : Addr} {kA : ClassId} {z j : Int32} {vs : List Value} {C : String} (hd : decode bytes pc = .ok (.aastore, 1)) (V : Arv Z T.heap a kA (.object C) z vs .null) (Ov : Ovr Z kA C) (I : Ins Z T.heap y C true) (hj : ¬ j < 0 ∧ j < z) (hi : j.toNatClampNeg = vs.length) (ha : Z.heap.size ≤ a) {pc' : Nat} (hp : pc + 1 = pc')
    (k : ∀ (T' : State), Ww l Z R bytes mL ret own nm p e s m args below meth c vm T' cells slots → Keep T.heap T'.heap [a] → Arv Z T'.heap a kA (.object C) z (vs ++ [.ref y]) .null → EndW p e below s Z Q cC cS T' (mkF m pc' Ls st)) : EndW p e below s Z Q cC cS T (mkF m pc Ls (.ref y :: .int j :: .ref a :: st)) := by
  refine F_aastore X vs.length hd (V.pad (pad_rep vs .null 1)) Ov I hj hi (by simp) ha hp fun T' X' K' V' => k T' X' K' ?_
  have q : (vs ++ List.replicate 1 Value.null).set vs.length (.ref y) = vs ++ [.ref y] := by simp
  rw [q] at V'; exact V'
theorem F_iastore (X : Ww l Z R bytes mL ret own nm p e s m args below meth c vm T cells slots) {a : Addr} {kA : ClassId} {z j x : Int32} {vs : List Value} {dv : Value} {y : Int32} (i : Nat) (hd : decode bytes pc = .ok (.iastore, 1)) (hy : x = y) (V : Arv Z T.heap a kA .int z vs dv) (hj : ¬ j < 0 ∧ j < z) (hi : j.toNatClampNeg = i) (hl : i < vs.length) (ha : Z.heap.size ≤ a) {pc' : Nat} (hp : pc + 1 = pc')
    (k : ∀ (T' : State), Ww l Z R bytes mL ret own nm p e s m args below meth c vm T' cells slots → Keep T.heap T'.heap [a] → Arv Z T'.heap a kA .int z (vs.set i (.int y)) dv → EndW p e below s Z Q cC cS T' (mkF m pc' Ls st)) : EndW p e below s Z Q cC cS T (mkF m pc Ls (.int x :: .int j :: .ref a :: st)) := by
  subst hp hy; obtain ⟨q0, qq, locs, Y, N, O⟩ := id X
  obtain ⟨cl, A, q1, S1, N1, H1, G1⟩ := V
  obtain ⟨T', h', Y', rfl, W, stp⟩ := stI Y X.hx X.hZ rfl A (j := j) (x := x) (inb_of S1 hj) (g := mkF m pc Ls (.int x :: .int j :: .ref a :: st)) rfl rfl (X.hb hd)
  exact F_by stp (k T' (X.go Y' (Fr.snoc Y' N ha) (Keep.of_wr W) (allS ha all0) (sfS (Safe.arr X.al A (by simp)) sf0)) (Keep.of_wr W) (Arv.set A q1 S1 N1 H1 G1 (rfl) W i hi hl))
theorem F_castore (X : Ww l Z R bytes mL ret own nm p e s m args below meth c vm T cells slots) {a : Addr} {kA : ClassId} {z j x : Int32} {vs : List Value} {dv : Value} {y : Int32} (i : Nat) (hd : decode bytes pc = .ok (.castore, 1)) (hy : nar .char x = y) (V : Arv Z T.heap a kA .char z vs dv) (hj : ¬ j < 0 ∧ j < z) (hi : j.toNatClampNeg = i) (hl : i < vs.length) (ha : Z.heap.size ≤ a) {pc' : Nat} (hp : pc + 1 = pc')
    (k : ∀ (T' : State), Ww l Z R bytes mL ret own nm p e s m args below meth c vm T' cells slots → Keep T.heap T'.heap [a] → Arv Z T'.heap a kA .char z (vs.set i (.int y)) dv → EndW p e below s Z Q cC cS T' (mkF m pc' Ls st)) : EndW p e below s Z Q cC cS T (mkF m pc Ls (.int x :: .int j :: .ref a :: st)) := by
  subst hp hy; obtain ⟨q0, qq, locs, Y, N, O⟩ := id X
  obtain ⟨cl, A, q1, S1, N1, H1, G1⟩ := V
  obtain ⟨T', h', Y', rfl, W, stp⟩ := stC Y X.hx X.hZ rfl A (j := j) (x := x) (inb_of S1 hj) (g := mkF m pc Ls (.int x :: .int j :: .ref a :: st)) rfl rfl (X.hb hd)
  exact F_by stp (k T' (X.go Y' (Fr.snoc Y' N ha) (Keep.of_wr W) (allS ha all0) (sfS (Safe.arr X.al A (by simp)) sf0)) (Keep.of_wr W) (Arv.set A q1 S1 N1 H1 G1 (fits_nar_char _) W i hi hl))
theorem F_iastoreA (X : Ww l Z R bytes mL ret own nm p e s m args below meth c vm T cells slots) {a : Addr} {kA : ClassId} {z j x : Int32} {vs : List Value} {dv : Value} {y : Int32} (hd : decode bytes pc = .ok (.iastore, 1)) (hy : x = y) (V : Arv Z T.heap a kA .int z vs dv) (hj : ¬ j < 0 ∧ j < z) (hi : j.toNatClampNeg = vs.length) (ha : Z.heap.size ≤ a) {pc' : Nat} (hp : pc + 1 = pc')
    (k : ∀ (T' : State), Ww l Z R bytes mL ret own nm p e s m args below meth c vm T' cells slots → Keep T.heap T'.heap [a] → Arv Z T'.heap a kA .int z (vs ++ [.int y]) dv → EndW p e below s Z Q cC cS T' (mkF m pc' Ls st)) : EndW p e below s Z Q cC cS T (mkF m pc Ls (.int x :: .int j :: .ref a :: st)) := by
  refine F_iastore X vs.length hd hy (V.pad (pad_rep vs dv 1)) hj hi (by simp) ha hp fun T' X' K' V' => k T' X' K' ?_
  have q : (vs ++ List.replicate 1 dv).set vs.length (.int y) = vs ++ [.int y] := by simp
  rw [q] at V'; exact V'
theorem F_castoreA (X : Ww l Z R bytes mL ret own nm p e s m args below meth c vm T cells slots) {a : Addr} {kA : ClassId} {z j x : Int32} {vs : List Value} {dv : Value} {y : Int32} (hd : decode bytes pc = .ok (.castore, 1)) (hy : nar .char x = y) (V : Arv Z T.heap a kA .char z vs dv) (hj : ¬ j < 0 ∧ j < z) (hi : j.toNatClampNeg = vs.length) (ha : Z.heap.size ≤ a) {pc' : Nat} (hp : pc + 1 = pc')
    (k : ∀ (T' : State), Ww l Z R bytes mL ret own nm p e s m args below meth c vm T' cells slots → Keep T.heap T'.heap [a] → Arv Z T'.heap a kA .char z (vs ++ [.int y]) dv → EndW p e below s Z Q cC cS T' (mkF m pc' Ls st)) : EndW p e below s Z Q cC cS T (mkF m pc Ls (.int x :: .int j :: .ref a :: st)) := by
  refine F_castore X vs.length hd hy (V.pad (pad_rep vs dv 1)) hj hi (by simp) ha hp fun T' X' K' V' => k T' X' K' ?_
  have q : (vs ++ List.replicate 1 dv).set vs.length (.int y) = vs ++ [.int y] := by simp
  rw [q] at V'; exact V'
theorem F_iaload (X : Ww l Z R bytes mL ret own nm p e s m args below meth c vm T cells slots) {a : Addr} {kA : ClassId} {z j : Int32} {vs : List Value} {dv v : Value} (hd : decode bytes pc = .ok (.iaload, 1)) (V : Arv Z T.heap a kA .int z vs dv) (hj : ¬ j < 0 ∧ j < z) (hv : vs.getD j.toNatClampNeg dv = v) {pc' : Nat} (hp : pc + 1 = pc')
    (k : EndW p e below s Z Q cC cS T (mkF m pc' Ls (v :: st))) : EndW p e below s Z Q cC cS T (mkF m pc Ls (.int j :: .ref a :: st)) := by
  subst hp; obtain ⟨q0, qq, locs, Y, N, O⟩ := id X
  obtain ⟨cl, A, q1, S1, N1, H1, G1⟩ := V
  exact F_by (Y.iaload X.hx A.1 (State.isArrayOf_alike X.hZ.alike A.2.1) A.2.2 (inb_of S1 hj) (Has.at H1 (inb_of S1 hj) hv) (g := mkF m pc Ls (.int j :: .ref a :: st)) rfl rfl (X.hb hd)) k
theorem F_caload (X : Ww l Z R bytes mL ret own nm p e s m args below meth c vm T cells slots) {a : Addr} {kA : ClassId} {z j : Int32} {vs : List Value} {dv v : Value} (hd : decode bytes pc = .ok (.caload, 1)) (V : Arv Z T.heap a kA .char z vs dv) (hj : ¬ j < 0 ∧ j < z) (hv : vs.getD j.toNatClampNeg dv = v) {pc' : Nat} (hp : pc + 1 = pc')
    (k : EndW p e below s Z Q cC cS T (mkF m pc' Ls (v :: st))) : EndW p e below s Z Q cC cS T (mkF m pc Ls (.int j :: .ref a :: st)) := by
  subst hp; obtain ⟨q0, qq, locs, Y, N, O⟩ := id X
  obtain ⟨cl, A, q1, S1, N1, H1, G1⟩ := V
  exact F_by (Y.caload X.hx A.1 (State.isArrayOf_alike X.hZ.alike A.2.1) A.2.2 (inb_of S1 hj) (Has.at H1 (inb_of S1 hj) hv) (g := mkF m pc Ls (.int j :: .ref a :: st)) rfl rfl (X.hb hd)) k
theorem F_baload (X : Ww l Z R bytes mL ret own nm p e s m args below meth c vm T cells slots) {a : Addr} {kA : ClassId} {z j : Int32} {vs : List Value} {dv v : Value} (hd : decode bytes pc = .ok (.baload, 1)) (V : Arv Z T.heap a kA .byte z vs dv) (hj : ¬ j < 0 ∧ j < z) (hv : vs.getD j.toNatClampNeg dv = v) {pc' : Nat} (hp : pc + 1 = pc')
    (k : EndW p e below s Z Q cC cS T (mkF m pc' Ls (v :: st))) : EndW p e below s Z Q cC cS T (mkF m pc Ls (.int j :: .ref a :: st)) := by
  subst hp; obtain ⟨q0, qq, locs, Y, N, O⟩ := id X
  obtain ⟨cl, A, q1, S1, N1, H1, G1⟩ := V
  exact F_by (Y.baloadBytes X.hx A.1 (State.isArrayOf_alike X.hZ.alike A.2.1) A.2.2 (inb_of S1 hj) (Has.at H1 (inb_of S1 hj) hv) (g := mkF m pc Ls (.int j :: .ref a :: st)) rfl rfl (X.hb hd)) k
theorem F_aaload (X : Ww l Z R bytes mL ret own nm p e s m args below meth c vm T cells slots) {a : Addr} {kA : ClassId} {z j : Int32} {vs : List Value} {dv v : Value} {ty : FieldType} (hd : decode bytes pc = .ok (.aaload, 1)) (V : Arv Z T.heap a kA ty z vs dv) (hty : ty.isReference = true) (hj : ¬ j < 0 ∧ j < z) (hv : vs.getD j.toNatClampNeg dv = v) {pc' : Nat} (hp : pc + 1 = pc')
    (k : EndW p e below s Z Q cC cS T (mkF m pc' Ls (v :: st))) : EndW p e below s Z Q cC cS T (mkF m pc Ls (.int j :: .ref a :: st)) := by
  subst hp; obtain ⟨q0, qq, locs, Y, N, O⟩ := id X
  obtain ⟨cl, A, q1, S1, N1, H1, G1⟩ := V
  exact F_by (Y.aaload X.hx A.1 (State.isArrayOf_alike X.hZ.alike A.2.1) hty A.2.2 (inb_of S1 hj) (Has.at H1 (inb_of S1 hj) hv) (g := mkF m pc Ls (.int j :: .ref a :: st)) rfl rfl (X.hb hd)) k
theorem F_clone (X : Ww l Z R bytes mL ret own nm p e s m args below meth c vm T cells slots) {a : Addr} {kA : ClassId} {z : Int32} {vs : List Value} {dv : Value} {ty : FieldType} {ix : Nat} {ad : String} (cap : Nat) (hd : decode bytes pc = .ok (.invokevirtual ix, 3)) (w1 : (Jvm.Cond.methodLink own ix ⟨ad, "clone", "()Ljava/lang/Object;"⟩).before a0 Z = true) (w2 : (Jvm.Cond.sameMethod ad "java/lang/Object" "clone" "()Ljava/lang/Object;").before a0 Z = true) (w3 : (Jvm.Cond.native ⟨"java/lang/Object", "clone", "()Ljava/lang/Object;"⟩).before a0 Z = true) (w4 : (Jvm.Cond.instanceMethod ⟨"java/lang/Object", "clone", "()Ljava/lang/Object;"⟩).before a0 Z = true) (w5 : (Jvm.Cond.selects ad ⟨ad, "clone", "()Ljava/lang/Object;"⟩ ⟨"java/lang/Object", "clone", "()Ljava/lang/Object;"⟩).before a0 Z = true) (w6 : (Jvm.Cond.castable ad "java/lang/Cloneable").before a0 Z = true) (V : Arv Z T.heap a kA ty z vs dv) (E : Exa Z T.heap a ad) (hsz : Ls.size = mL) (hf : 1 ≤ R.frames) (hl : (st.map fun v => v.category).sum + 14 ≤ R.locals) (hcap : z.toNatClampNeg ≤ cap) (hc : cells + 1 ≤ R.cells) (hs : slots + cap ≤ R.slots) {pc' : Nat} (hp : pc + 3 = pc')
    (k : ∀ (T' : State) (b : Addr), Ww l Z R bytes mL ret own nm p e s m args below meth c vm T' (cells + 1) (slots + cap) → b = T.heap.size → Keep T.heap T'.heap [] → Arv Z T'.heap b kA ty z vs dv → Exa Z T'.heap b ad → EndW p e below s Z Q cC cS T' (mkF m pc' Ls (.ref b :: st))) : EndW p e below s Z Q cC cS T (mkF m pc Ls (.ref a :: st)) := by
  subst hp; obtain ⟨q0, qq, locs, Y, N, O⟩ := id X
  obtain ⟨T', h', Y', rfl, E, V1, X1, stp⟩ := cloneH Y X.hx X.hZ X.hown w1 w2 w3 w4 w5 w6 rfl V.arh E (g := mkF m pc Ls (.ref a :: st)) rfl (X.size hsz) rfl (X.hb hd) hf (W := (st.map fun v => v.category).sum) (by show 2 * 0 + _ ≤ _; omega) hl hcap hc hs
  exact F_by stp (k T' _ (X.go Y' N (Keep.of_ext E) all0 sf0) rfl (Keep.of_ext E) V1 X1)
theorem F_instNull (X : Ww l Z R bytes mL ret own nm p e s m args below meth c vm T cells slots) {ix : Nat} (hd : decode bytes pc = .ok (.instanceof ix, 3)) {pc' : Nat} (hp : pc + 3 = pc') (k : EndW p e below s Z Q cC cS T (mkF m pc' Ls (.int 0 :: st))) : EndW p e below s Z Q cC cS T (mkF m pc Ls (.null :: st)) := by
  subst hp; obtain ⟨q0, qq, locs, Y, N, O⟩ := id X
  exact F_by (fun _ q => Y.instanceofNull X.hx (g := mkF m pc Ls (.null :: st)) rfl (rest := st) rfl (X.hb hd) _ q) k
theorem F_arraylength (X : Ww l Z R bytes mL ret own nm p e s m args below meth c vm T cells slots) {a : Addr} {kA : ClassId} {z : Int32} {vs : List Value} {dv : Value} {ty : FieldType} (hd : decode bytes pc = .ok (.arraylength, 1)) (V : Arv Z T.heap a kA ty z vs dv) {pc' : Nat} (hp : pc + 1 = pc')
    (k : EndW p e below s Z Q cC cS T (mkF m pc' Ls (.int z :: st))) : EndW p e below s Z Q cC cS T (mkF m pc Ls (.ref a :: st)) := by
  subst hp; obtain ⟨q0, qq, locs, Y, N, O⟩ := id X
  obtain ⟨cl, A, q1, S1, N1, H1, G1⟩ := V
  refine F_by (Y.arraylength X.hx A.1 (State.isArrayOf_alike X.hZ.alike A.2.1) (g := mkF m pc Ls (.ref a :: st)) rfl rfl (X.hb hd)) ?_
  rw [len_of S1 N1]; exact k
theorem F_getfield (X : Ww l Z R bytes mL ret own nm p e s m args below meth c vm T cells slots) {a : Addr} {O n d R0 : String} {ix : Nat} {v : Value} (hd : decode bytes pc = .ok (.getfield ix, 3)) (w : (Jvm.Cond.fieldLink own ix R0 n d).before a0 Z = true) (via : Via Z R0 O n d) (F : Fld Z T.heap a O n d v) {pc' : Nat} (hp : pc + 3 = pc')
    (k : ∀ (T' : State), Ww l Z R bytes mL ret own nm p e s m args below meth c vm T' cells slots → T'.heap = T.heap → EndW p e below s Z Q cC cS T' (mkF m pc' Ls (v :: st))) : EndW p e below s Z Q cC cS T (mkF m pc Ls (.ref a :: st)) := by
  subst hp; obtain ⟨q0, qq, locs, Y, N, Od⟩ := id X
  obtain ⟨T', Y', e1, stp⟩ := getF Y X.hx X.hZ X.hown (host := "") (Or.inl w) via rfl F (g := mkF m pc Ls (.ref a :: st)) rfl rfl (X.hb hd)
  exact F_by stp (k T' (X.go Y' N (own_ks e1) all0 sf0) e1)
theorem F_getstatic (X : Ww l Z R bytes mL ret own nm p e s m args below meth c vm T cells slots) {O n d R0 : String} {ix : Nat} {v : Value} (hd : decode bytes pc = .ok (.getstatic ix, 3)) (w : (Jvm.Cond.fieldLink own ix R0 n d).before a0 Z = true) (via : Via Z R0 O n d) (F : Sta Z Z.heap O n d v) {pc' : Nat} (hp : pc + 3 = pc')
    (k : ∀ (T' : State), Ww l Z R bytes mL ret own nm p e s m args below meth c vm T' cells slots → T'.heap = T.heap → EndW p e below s Z Q cC cS T' (mkF m pc' Ls (v :: st))) : EndW p e below s Z Q cC cS T (mkF m pc Ls st) := by
  subst hp; obtain ⟨q0, qq, locs, Y, N, Od⟩ := id X
  obtain ⟨T', Y', e1, stp⟩ := getS Y X.hx X.hZ (host := "") X.hown w via rfl (F.ext Od) (g := mkF m pc Ls st) rfl (X.hb hd)
  exact F_by stp (k T' (X.go Y' N (own_ks e1) all0 sf0) e1)
theorem F_putfield (X : Ww l Z R bytes mL ret own nm p e s m args below meth c vm T cells slots) {a : Addr} {O n d R0 C : String} {ix kk : Nat} {v old : Value} {ty : FieldType} (hd : decode bytes pc = .ok (.putfield ix, 3)) (w : (Jvm.Cond.fieldLink own ix R0 n d).before a0 Z = true) (via : Via Z R0 O n d) (F : Fld Z T.heap a O n d old) (E : Exa Z T.heap a C) (L : (Jvm.Cond.lays C O n d).before a0 Z = true ∨ ((Jvm.Cond.laysFinal C O n d).before a0 Z = true ∧ own = O ∧ nm = "<init>")) (wi : (Jvm.Cond.instantiable C kk).before a0 Z = true) (hty : parseFieldDescriptor d = some ty) (hn : narrow ty v = v) (hf : fits ty v = true) (ha : Z.heap.size ≤ a) (hsf : Safe Z EL vm T.heap a) {pc' : Nat} (hp : pc + 3 = pc')
    (k : ∀ (T' : State), Ww l Z R bytes mL ret own nm p e s m args below meth c vm T' cells slots → Wr T.heap T'.heap a (Jvm.RoadKit.slotOf Z O n d) v → EndW p e below s Z Q cC cS T' (mkF m pc' Ls st)) : EndW p e below s Z Q cC cS T (mkF m pc Ls (v :: .ref a :: st)) := by
  subst hp; obtain ⟨q0, qq, locs, Y, N, Od⟩ := id X
  obtain ⟨T', h', Y', rfl, W, stp⟩ := putF Y X.hx X.hZ X.hown (host := "") (Or.inl w) via rfl F E (L.imp id fun q => ⟨q.1, q.2.1, q0.2.2.2.2.2.2.1.trans q.2.2⟩) wi hty hn hf (g := mkF m pc Ls (v :: .ref a :: st)) rfl rfl (X.hb hd)
  exact F_by stp (k T' (X.go Y' (Fr.snoc Y' N ha) (Keep.of_wr W) (allS ha all0) (sfS hsf sf0)) W)
theorem F_initO (X : Ww l Z R bytes mL ret own nm p e s m args below meth c vm T cells slots) {a : Addr} {ix : Nat} (hd : decode bytes pc = .ok (.invokespecial ix, 3)) (w1 : (Jvm.Cond.methodLink own ix Lib.objectInit).before a0 Z = true) (w2 : (Jvm.Cond.instanceMethod Lib.objectInit).before a0 Z = true) (w3 : (Jvm.Cond.code Lib.objectInit ⟨#[0xb1]⟩ 1 none).before a0 Z = true) (hsz : Ls.size = mL) (hf : 1 ≤ R.frames) (hl : (st.map fun v => v.category).sum + 12 ≤ R.locals) {pc' : Nat} (hp : pc + 3 = pc')
    (k : ∀ (T' : State), Ww l Z R bytes mL ret own nm p e s m args below meth c vm T' cells slots → T'.heap = T.heap → EndW p e below s Z Q cC cS T' (mkF m pc' Ls st)) : EndW p e below s Z Q cC cS T (mkF m pc Ls (.ref a :: st)) := by
  subst hp; obtain ⟨q0, qq, locs, Y, N, Od⟩ := id X
  obtain ⟨T', Y', e1, stp⟩ := initO Y X.hx X.hZ X.hown w1 w2 w3 rfl (g := mkF m pc Ls (.ref a :: st)) rfl (X.size hsz) rfl (X.hb hd) hf (W := (st.map fun v => v.category).sum) (by show 2 * 0 + _ ≤ _; omega) hl
  exact F_by stp (k T' (X.go Y' N (own_ks e1) all0 sf0) e1)
theorem F_checkcast (X : Ww l Z R bytes mL ret own nm p e s m args below meth c vm T cells slots) {a : Addr} {K : String} {ix : Nat} (hd : decode bytes pc = .ok (.checkcast ix, 3)) (w : (Jvm.Cond.classLink own ix K).before a0 Z = true) (F : Ins Z T.heap a K true) {pc' : Nat} (hp : pc + 3 = pc')
    (k : ∀ (T' : State), Ww l Z R bytes mL ret own nm p e s m args below meth c vm T' cells slots → T'.heap = T.heap → EndW p e below s Z Q cC cS T' (mkF m pc' Ls (.ref a :: st))) : EndW p e below s Z Q cC cS T (mkF m pc Ls (.ref a :: st)) := by
  subst hp; obtain ⟨q0, qq, locs, Y, N, Od⟩ := id X
  obtain ⟨T', Y', e1, stp⟩ := castY Y X.hx X.hZ X.hown w rfl F (g := mkF m pc Ls (.ref a :: st)) rfl rfl (X.hb hd)
  exact F_by stp (k T' (X.go Y' N (own_ks e1) all0 sf0) e1)
theorem F_instY (X : Ww l Z R bytes mL ret own nm p e s m args below meth c vm T cells slots) {a : Addr} {K : String} {ix : Nat} (hd : decode bytes pc = .ok (.instanceof ix, 3)) (w : (Jvm.Cond.classLink own ix K).before a0 Z = true) (F : Ins Z T.heap a K true) {pc' : Nat} (hp : pc + 3 = pc')
    (k : ∀ (T' : State), Ww l Z R bytes mL ret own nm p e s m args below meth c vm T' cells slots → T'.heap = T.heap → EndW p e below s Z Q cC cS T' (mkF m pc' Ls (.int 1 :: st))) : EndW p e below s Z Q cC cS T (mkF m pc Ls (.ref a :: st)) := by
  subst hp; obtain ⟨q0, qq, locs, Y, N, Od⟩ := id X
  obtain ⟨T', Y', e1, stp⟩ := instY Y X.hx X.hZ X.hown w rfl F (g := mkF m pc Ls (.ref a :: st)) rfl rfl (X.hb hd)
  exact F_by stp (k T' (X.go Y' N (own_ks e1) all0 sf0) e1)

theorem F_ldcS (X : Ww l Z R bytes mL ret own nm p e s m args below meth c vm T cells slots) {ix n : Nat} {text : String} {vs : List Value} {z : Int32} (hd : decode bytes pc = .ok (.ldc ix, 2)) (w : (Jvm.Cond.stringLink own ix text).before a0 Z = true) (wS : ∀ a ∈ Bundle.stringAtoms, a.before a0 Z = true) (hE : EW Z a0 EL) (hmem : (own, ix) ∈ EL) (ht : (∀ c ∈ text.toList, c.toNat < 256) ∧ text.toList.map (fun c => Value.int (Jvm.Lit.byteI c.toNat.toUInt16)) = vs) (hz : ¬ z < 0) (hl : z.toNatClampNeg = vs.length) (hn : 4 * text.toList.length ≤ n) (hbig : n ≤ 536870912) (hc : cells + 2 ≤ R.cells) (hs : slots + (n + 4) ≤ R.slots) {pc' : Nat} (hp : pc + 2 = pc')
    (k : ∀ (T' : State) (a b : Addr) (kb : ClassId), Ww l Z R bytes mL ret own nm p e s m args below meth c T'.vm T' (cells + 2) (slots + (n + 4)) → Keep T.heap T'.heap [] → Exa Z T'.heap a "java/lang/String" → Fld Z T'.heap a "java/lang/String" "coder" "B" (.int 0) → Fld Z T'.heap a "java/lang/String" "value" "[B" (.ref b) → Arv Z T'.heap b kb .byte z vs (.int 0) → (∀ x, x < T.heap.size → Safe Z EL vm T.heap x → Safe Z EL T'.vm T'.heap x ∧ x ≠ a ∧ x ≠ b) → EndW p e below s Z Q cC cS T' (mkF m pc' Ls (.ref a :: st))) : EndW p e below s Z Q cC cS T (mkF m pc Ls st) := by
  subst hp; obtain ⟨q0, ⟨⟨k0, hS, hk⟩, hE1, hC⟩, locs, Y, N, O⟩ := id X
  obtain ⟨a, T', h', k1, b, kb, Y', rfl, E, hS', hk', hW', hf', x1, x2, x3, x4, l1, l2, hC', hL, hsf, stp⟩ := ldcCH Y X.hx X.hZ X.hown w wS rfl hS hk hE hmem X.ch ht hz hl (g := mkF m pc Ls st) rfl (X.hb hd) hn hbig hc hs
  refine F_by stp (k T' a b kb ⟨⟨q0.1, q0.2.1, q0.2.2.1, q0.2.2.2.1, q0.2.2.2.2.1, hf', q0.2.2.2.2.2.2.1, hW'⟩, ⟨⟨k1, hS', hk'⟩, hE1, hC.trans hC'⟩, locs, Y', N, Keep.old O (Keep.of_ext E) all0⟩ (Keep.of_ext E) x1 x2 x3 x4 fun x hx hs => ?_)
  have q := hC'.safe hx hs
  exact ⟨q, hsf x q⟩
theorem F_staticB (X : Ww l Z R bytes mL ret own nm p e s m args below meth c vm T cells slots) {y : MethodName} {ix : Nat} {bytes' : ByteArray} {mL' : Nat} {ret' : Option FieldType} {Q' : Option Value → Heap → Prop} {argsL : List Value} {Q2 : Option Value → Heap → List Loc → Prop} {rC rS : Nat} (hd : decode bytes pc = .ok (.invokestatic ix, 3)) (w1 : (Jvm.Cond.methodLink own ix y).before a0 Z = true) (w2 : (Jvm.Cond.static y).before a0 Z = true) (w3 : (Jvm.Cond.initialized y.cls).before a0 Z = true) (w4 : (Jvm.Cond.code y bytes' mL' ret').before a0 Z = true) (hy : y.cls ≠ "java/lang/invoke/MethodHandle" ∧ y.cls ≠ "java/lang/invoke/VarHandle") {st0 : List Value} (hst : st0 = argsL.reverse ++ st) (hK : Back l R p e below (s.setVm vm) args y 3 ((st.map fun v => v.category).sum) (fun A aa => aa = argsL.toArray ∧ A.U.heap = T.heap ∧ A.cells + rC ≤ R.cells ∧ A.slots + rS ≤ R.slots) (fun A _ v B => ∃ L, Q2 v B.U.heap L ∧ B.locs = A.locs ++ L ∧ B.cells = A.cells + rC ∧ B.slots = A.slots + rS)) (hQ2 : ∀ v h L, Q2 v h L → Fr Z.heap.size L ∧ Ext Z.heap h ∧ Q' v h) (hlen : ∀ sig, parseMethodDescriptor y.desc = some sig → argsL.length = sig.parameters.length) (hsz : Ls.size = mL) (hcl : cells + rC ≤ R.cells) (hsl : slots + rS ≤ R.slots) (ws : List Addr) (hkp : ∀ v h, Q' v h → Keep T.heap h ws) (hsf : ∀ x ∈ ws, Safe Z EL vm T.heap x) {pc' : Nat} (hp : pc + 3 = pc')
    (k : ∀ (T' : State) (v : Option Value), Ww l Z R bytes mL ret own nm p e s m args below meth c vm T' (cells + rC) (slots + rS) → Q' v T'.heap → EndW p e below s Z Q cC cS T' (mkF m pc' Ls (v.toList ++ st))) : EndW p e below s Z Q cC cS T (mkF m pc Ls st0) := by
  subst hp hst; obtain ⟨q0, qq, locs, Y, N, Od⟩ := id X
  obtain ⟨v, _, ⟨T', L1, k1, n1⟩, -, Y', ⟨Lc, hQ, l1, y1, z1⟩, stp⟩ := Jvm.LawKit.callS Y X.hx (y := y) X.hown (mvT X.hZ w1) (mvT X.hZ w2) (mvT X.hZ w3) (mvT X.hZ w4) hy hK (g := mkF m pc Ls (argsL.reverse ++ st)) rfl (X.size hsz) (argsL := argsL) (rest := st) hlen rfl (by show 2 * 0 + _ ≤ _; omega) (X.hb hd) (fun _ _ => ⟨rfl, rfl, hcl, hsl⟩)
  dsimp only [Pt.U, Pt.locs, Pt.cells, Pt.slots] at Y' l1 y1 z1 stp hQ
  subst l1 y1 z1
  obtain ⟨f1, f2, f3⟩ := hQ2 _ _ _ hQ
  exact F_by stp (k T' v (X.go2 Y' (Fr.app N f1) f2 (hkp _ _ f3) hsf) f3)

theorem F_static (X : Ww l Z R bytes mL ret own nm p e s m args below meth c vm T cells slots) {y : MethodName} {ix : Nat} {bytes' : ByteArray} {mL' : Nat} {ret' : Option FieldType} {Q' : Option Value → Heap → Prop} {argsL : List Value} {rm : Room} (hd : decode bytes pc = .ok (.invokestatic ix, 3)) (w1 : (Jvm.Cond.methodLink own ix y).before a0 Z = true) (w2 : (Jvm.Cond.static y).before a0 Z = true) (w3 : (Jvm.Cond.initialized y.cls).before a0 Z = true) (w4 : (Jvm.Cond.code y bytes' mL' ret').before a0 Z = true) (hy : y.cls ≠ "java/lang/invoke/MethodHandle" ∧ y.cls ≠ "java/lang/invoke/VarHandle")  {st0 : List Value} (hst : st0 = argsL.reverse ++ st) (hC : Ct l Z y bytes' mL' ret' rm argsL.toArray T.heap Q') (hlen : ∀ sig, parseMethodDescriptor y.desc = some sig → argsL.length = sig.parameters.length) (hsz : Ls.size = mL) (hcl : cells + rm.cells ≤ R.cells) (hsl : slots + rm.slots ≤ R.slots) (hfr : rm.frames + 1 ≤ R.frames) (hlo : (st.map fun v => v.category).sum + (mL' + 11) + rm.locals ≤ R.locals) (ws : List Addr) (hkp : ∀ v h, Q' v h → Keep T.heap h ws) (hsf : ∀ x ∈ ws, Safe Z EL vm T.heap x) {pc' : Nat} (hp : pc + 3 = pc')
    (k : ∀ (T' : State) (v : Option Value), Ww l Z R bytes mL ret own nm p e s m args below meth c vm T' (cells + rm.cells) (slots + rm.slots) → Q' v T'.heap → EndW p e below s Z Q cC cS T' (mkF m pc' Ls (v.toList ++ st))) : EndW p e below s Z Q cC cS T (mkF m pc Ls st0) :=
  F_staticB X hd w1 w2 w3 w4 hy hst (hC.back X.hZ w4 w3 hfr hlo) (fun _ _ _ q => q) hlen hsz hcl hsl ws hkp hsf hp k

theorem G_static (X : Ww l Z R bytes mL ret own nm p e s m args below meth c vm T cells slots) {y : MethodName} {ix : Nat} {bytes' : ByteArray} {mL' : Nat} {ret' : Option FieldType} {Q' : Option Value → Heap → Prop} {argsL : List Value} {rm : Room} (hd : decode bytes pc = .ok (.invokestatic ix, 3)) (w1 : (Jvm.Cond.methodLink own ix y).before a0 Z = true) (w2 : (Jvm.Cond.static y).before a0 Z = true) (w3 : (Jvm.Cond.initialized y.cls).before a0 Z = true) (w4 : (Jvm.Cond.code y bytes' mL' ret').before a0 Z = true) (hy : y.cls ≠ "java/lang/invoke/MethodHandle" ∧ y.cls ≠ "java/lang/invoke/VarHandle")  {st0 : List Value} (hst : st0 = argsL.reverse ++ st) (hC : CtW l Z y bytes' mL' ret' rm argsL.toArray T.heap Q') (hlen : ∀ sig, parseMethodDescriptor y.desc = some sig → argsL.length = sig.parameters.length) (hsz : Ls.size = mL) (hcl : cells + rm.cells ≤ R.cells) (hsl : slots + rm.slots ≤ R.slots) (hfr : rm.frames + 1 ≤ R.frames) (hlo : (st.map fun v => v.category).sum + (mL' + 11) + rm.locals ≤ R.locals) {pc' : Nat} (hp : pc + 3 = pc')
    (k : ∀ (T' : State) (v : Option Value), Ww l Z R bytes mL ret own nm p e s m args below meth c T'.vm T' (cells + rm.cells) (slots + rm.slots) → Q' v T'.heap → (∀ x, x < T.heap.size → Safe Z EL vm T.heap x → Safe Z EL T'.vm T'.heap x) → EndW p e below s Z Q cC cS T' (mkF m pc' Ls (v.toList ++ st))) : EndW p e below s Z Q cC cS T (mkF m pc Ls st0) := by
  subst hp hst; obtain ⟨q0, ⟨⟨k0, hS, hk⟩, ⟨a1, hE1⟩, hC0⟩, locs, Y, N, Od⟩ := id X
  obtain ⟨v, _, ⟨T', L1, k1, n1⟩, -, Y', hS2, hgr, ⟨Lc, hQ, l1, y1, z1, hC1⟩, stp⟩ := callSS Y X.hx (y := y) X.hown (mvT (s := s.setVm vm) X.hZ w1) (mvT (s := s.setVm vm) X.hZ w2) (mvT (s := s.setVm vm) X.hZ w3) (mvT (s := s.setVm vm) X.hZ w4) hy (hC.back X.hZ w4 w3 hfr hlo hE1 X.ch) (g := mkF m pc Ls (argsL.reverse ++ st)) rfl (X.size hsz) (argsL := argsL) (rest := st) hlen rfl (by show 2 * 0 + _ ≤ _; omega) (X.hb hd) (fun _ _ => ⟨rfl, rfl, hcl, hsl⟩)
  dsimp only [Pt.U, Pt.locs, Pt.cells, Pt.slots] at Y' l1 y1 z1 stp hQ hS2 hgr hC1
  subst l1 y1 z1
  have hW2 : Z.Warmed39 T'.vm := State.Warmed39.trans (t := s.setVm vm) X.hZ hS2.1
  have hf2 : T'.vm.findClass own = some m.cls := by rw [hS2.1.alike.findClass]; exact X.hown
  exact F_tr stp (k T' v ⟨⟨q0.1, q0.2.1, q0.2.2.1, q0.2.2.2.1, q0.2.2.2.2.1, hf2, q0.2.2.2.2.2.2.1, hW2⟩, ⟨⟨_, foldS hS hk hS2 hgr, Nat.le_refl _⟩, ⟨a1, hE1⟩, hC0.trans hC1⟩, _, Y', Fr.app N hQ.1, hQ.2.1⟩ hQ.2.2 (fun x hx hs => hC1.safe hx hs))

theorem F_specialB (X : Ww l Z R bytes mL ret own nm p e s m args below meth c vm T cells slots) {y : MethodName} {ix : Nat} {bytes' : ByteArray} {mL' : Nat} {ret' : Option FieldType} {Q' : Option Value → Heap → Prop} {argsL : List Value} {Q2 : Option Value → Heap → List Loc → Prop} {rC rS : Nat} {a : Addr} (hd : decode bytes pc = .ok (.invokespecial ix, 3)) (hy1 : y.name = "<init>") (hret : ret' = none) (w1 : (Jvm.Cond.methodLink own ix y).before a0 Z = true) (w2 : (Jvm.Cond.instanceMethod y).before a0 Z = true) (w4 : (Jvm.Cond.code y bytes' mL' ret').before a0 Z = true) (hy : y.cls ≠ "java/lang/invoke/MethodHandle" ∧ y.cls ≠ "java/lang/invoke/VarHandle") {st0 : List Value} (hst : st0 = argsL.reverse ++ .ref a :: st) (hK : Back l R p e below (s.setVm vm) args y 3 ((st.map fun v => v.category).sum) (fun A aa => aa = (.ref a :: argsL).toArray ∧ A.U.heap = T.heap ∧ A.cells + rC ≤ R.cells ∧ A.slots + rS ≤ R.slots) (fun A _ v B => ∃ L, Q2 v B.U.heap L ∧ B.locs = A.locs ++ L ∧ B.cells = A.cells + rC ∧ B.slots = A.slots + rS)) (hQ2 : ∀ v h L, Q2 v h L → Fr Z.heap.size L ∧ Ext Z.heap h ∧ Q' v h) (hlen : ∀ sig, parseMethodDescriptor y.desc = some sig → argsL.length = sig.parameters.length) (hsz : Ls.size = mL) (hcl : cells + rC ≤ R.cells) (hsl : slots + rS ≤ R.slots) (ws : List Addr) (hkp : ∀ v h, Q' v h → Keep T.heap h ws) (hsf : ∀ x ∈ ws, Safe Z EL vm T.heap x) {pc' : Nat} (hp : pc + 3 = pc')
    (k : ∀ (T' : State) (v : Option Value), Ww l Z R bytes mL ret own nm p e s m args below meth c vm T' (cells + rC) (slots + rS) → Q' v T'.heap → EndW p e below s Z Q cC cS T' (mkF m pc' Ls (v.toList ++ st))) : EndW p e below s Z Q cC cS T (mkF m pc Ls st0) := by
  subst hp hst; obtain ⟨q0, qq, locs, Y, N, Od⟩ := id X
  subst hret
  obtain ⟨v, _, ⟨T', L1, k1, n1⟩, -, Y', ⟨Lc, hQ, l1, y1, z1⟩, stp⟩ := Y.specialBack X.hx (y := y) hy1 X.hown (mvT X.hZ w1) (mvT X.hZ w2) (mvT X.hZ w4) hy hK (g := mkF m pc Ls (argsL.reverse ++ .ref a :: st)) rfl (X.size hsz) (Steps.refl _) (a := a) (argsL := argsL) (rest := st) hlen rfl (by show 2 * 0 + _ ≤ _; omega) (X.hb hd) (fun _ _ => ⟨rfl, rfl, hcl, hsl⟩)
  dsimp only [Pt.U, Pt.locs, Pt.cells, Pt.slots] at Y' l1 y1 z1 stp hQ
  subst l1 y1 z1
  obtain ⟨f1, f2, f3⟩ := hQ2 _ _ _ hQ
  exact F_tr stp (k T' v (X.go2 Y' (Fr.app N f1) f2 (hkp _ _ f3) hsf) f3)

theorem F_special (X : Ww l Z R bytes mL ret own nm p e s m args below meth c vm T cells slots) {y : MethodName} {ix : Nat} {bytes' : ByteArray} {mL' : Nat} {ret' : Option FieldType} {Q' : Option Value → Heap → Prop} {argsL : List Value} {rm : Room} {a : Addr} (hd : decode bytes pc = .ok (.invokespecial ix, 3)) (hy1 : y.name = "<init>") (hret : ret' = none) (w1 : (Jvm.Cond.methodLink own ix y).before a0 Z = true) (w2 : (Jvm.Cond.instanceMethod y).before a0 Z = true) (w4 : (Jvm.Cond.code y bytes' mL' ret').before a0 Z = true) (hy : y.cls ≠ "java/lang/invoke/MethodHandle" ∧ y.cls ≠ "java/lang/invoke/VarHandle") (w3 : (Jvm.Cond.initialized y.cls).before a0 Z = true) {st0 : List Value} (hst : st0 = argsL.reverse ++ .ref a :: st) (hC : Ct l Z y bytes' mL' ret' rm (.ref a :: argsL).toArray T.heap Q') (hlen : ∀ sig, parseMethodDescriptor y.desc = some sig → argsL.length = sig.parameters.length) (hsz : Ls.size = mL) (hcl : cells + rm.cells ≤ R.cells) (hsl : slots + rm.slots ≤ R.slots) (hfr : rm.frames + 1 ≤ R.frames) (hlo : (st.map fun v => v.category).sum + (mL' + 11) + rm.locals ≤ R.locals) (ws : List Addr) (hkp : ∀ v h, Q' v h → Keep T.heap h ws) (hsf : ∀ x ∈ ws, Safe Z EL vm T.heap x) {pc' : Nat} (hp : pc + 3 = pc')
    (k : ∀ (T' : State) (v : Option Value), Ww l Z R bytes mL ret own nm p e s m args below meth c vm T' (cells + rm.cells) (slots + rm.slots) → Q' v T'.heap → EndW p e below s Z Q cC cS T' (mkF m pc' Ls (v.toList ++ st))) : EndW p e below s Z Q cC cS T (mkF m pc Ls st0) :=
  F_specialB X hd hy1 hret w1 w2 w4 hy hst (hC.back X.hZ w4 w3 hfr hlo) (fun _ _ _ q => q) hlen hsz hcl hsl ws hkp hsf hp k

theorem G_special (X : Ww l Z R bytes mL ret own nm p e s m args below meth c vm T cells slots) {y : MethodName} {ix : Nat} {bytes' : ByteArray} {mL' : Nat} {ret' : Option FieldType} {Q' : Option Value → Heap → Prop} {argsL : List Value} {rm : Room} {a : Addr} (hd : decode bytes pc = .ok (.invokespecial ix, 3)) (hy1 : y.name = "<init>") (hret : ret' = none) (w1 : (Jvm.Cond.methodLink own ix y).before a0 Z = true) (w2 : (Jvm.Cond.instanceMethod y).before a0 Z = true) (w4 : (Jvm.Cond.code y bytes' mL' ret').before a0 Z = true) (hy : y.cls ≠ "java/lang/invoke/MethodHandle" ∧ y.cls ≠ "java/lang/invoke/VarHandle") (w3 : (Jvm.Cond.initialized y.cls).before a0 Z = true) {st0 : List Value} (hst : st0 = argsL.reverse ++ .ref a :: st) (hC : CtW l Z y bytes' mL' ret' rm (.ref a :: argsL).toArray T.heap Q') (hlen : ∀ sig, parseMethodDescriptor y.desc = some sig → argsL.length = sig.parameters.length) (hsz : Ls.size = mL) (hcl : cells + rm.cells ≤ R.cells) (hsl : slots + rm.slots ≤ R.slots) (hfr : rm.frames + 1 ≤ R.frames) (hlo : (st.map fun v => v.category).sum + (mL' + 11) + rm.locals ≤ R.locals) {pc' : Nat} (hp : pc + 3 = pc')
    (k : ∀ (T' : State) (v : Option Value), Ww l Z R bytes mL ret own nm p e s m args below meth c T'.vm T' (cells + rm.cells) (slots + rm.slots) → Q' v T'.heap → (∀ x, x < T.heap.size → Safe Z EL vm T.heap x → Safe Z EL T'.vm T'.heap x) → EndW p e below s Z Q cC cS T' (mkF m pc' Ls (v.toList ++ st))) : EndW p e below s Z Q cC cS T (mkF m pc Ls st0) := by
  subst hp hst; obtain ⟨q0, ⟨⟨k0, hS, hk⟩, ⟨a1, hE1⟩, hC0⟩, locs, Y, N, Od⟩ := id X
  subst hret
  obtain ⟨v, _, ⟨T', L1, k1, n1⟩, -, Y', hS2, hgr, ⟨Lc, hQ, l1, y1, z1, hC1⟩, stp⟩ := Y.specialBackS X.hx (y := y) hy1 X.hown (mvT (s := s.setVm vm) X.hZ w1) (mvT (s := s.setVm vm) X.hZ w2) (mvT (s := s.setVm vm) X.hZ w4) hy (hC.back X.hZ w4 w3 hfr hlo hE1 X.ch) (g := mkF m pc Ls (argsL.reverse ++ .ref a :: st)) rfl (X.size hsz) (Steps.refl _) (a := a) (argsL := argsL) (rest := st) hlen rfl (by show 2 * 0 + _ ≤ _; omega) (X.hb hd) (fun _ _ => ⟨rfl, rfl, hcl, hsl⟩)
  dsimp only [Pt.U, Pt.locs, Pt.cells, Pt.slots] at Y' l1 y1 z1 stp hQ hS2 hgr hC1
  subst l1 y1 z1
  have hW2 : Z.Warmed39 T'.vm := State.Warmed39.trans (t := s.setVm vm) X.hZ hS2.1
  have hf2 : T'.vm.findClass own = some m.cls := by rw [hS2.1.alike.findClass]; exact X.hown
  exact F_tr stp (k T' v ⟨⟨q0.1, q0.2.1, q0.2.2.1, q0.2.2.2.1, q0.2.2.2.2.1, hf2, q0.2.2.2.2.2.2.1, hW2⟩, ⟨⟨_, foldS hS hk hS2 hgr, Nat.le_refl _⟩, ⟨a1, hE1⟩, hC0.trans hC1⟩, _, Y', Fr.app N hQ.1, hQ.2.1⟩ hQ.2.2 (fun x hx hs => hC1.safe hx hs))

theorem F_virtualB (X : Ww l Z R bytes mL ret own nm p e s m args below meth c vm T cells slots) {y : MethodName} {ix : Nat} {Q' : Option Value → Heap → Prop} {argsL : List Value} {Q2 : Option Value → Heap → List Loc → Prop} {rC rS : Nat} {a : Addr} {z : MethodName} {D : String} (hd : decode bytes pc = .ok (.invokevirtual ix, 3)) (w1 : (Jvm.Cond.methodLink own ix y).before a0 Z = true) (w2 : (Jvm.Cond.declares y).before a0 Z = true) (w5 : (Jvm.Cond.selects D y z).before a0 Z = true) (w6 : (Jvm.Cond.instanceMethod z).before a0 Z = true) (hnf : NotFace (s.setVm vm) y) (hy : y.cls ≠ "java/lang/invoke/MethodHandle" ∧ y.cls ≠ "java/lang/invoke/VarHandle") (E : Exa Z T.heap a D) {st0 : List Value} (hst : st0 = argsL.reverse ++ .ref a :: st) (hK : Back l R p e below (s.setVm vm) args z 3 ((st.map fun v => v.category).sum) (fun A aa => aa = (.ref a :: argsL).toArray ∧ A.U.heap = T.heap ∧ A.cells + rC ≤ R.cells ∧ A.slots + rS ≤ R.slots) (fun A _ v B => ∃ L, Q2 v B.U.heap L ∧ B.locs = A.locs ++ L ∧ B.cells = A.cells + rC ∧ B.slots = A.slots + rS)) (hQ2 : ∀ v h L, Q2 v h L → Fr Z.heap.size L ∧ Ext Z.heap h ∧ Q' v h) (hlen : ∀ sig, parseMethodDescriptor y.desc = some sig → argsL.length = sig.parameters.length) (hsz : Ls.size = mL) (hcl : cells + rC ≤ R.cells) (hsl : slots + rS ≤ R.slots) (ws : List Addr) (hkp : ∀ v h, Q' v h → Keep T.heap h ws) (hsf : ∀ x ∈ ws, Safe Z EL vm T.heap x) {pc' : Nat} (hp : pc + 3 = pc')
    (k : ∀ (T' : State) (v : Option Value), Ww l Z R bytes mL ret own nm p e s m args below meth c vm T' (cells + rC) (slots + rS) → Q' v T'.heap → EndW p e below s Z Q cC cS T' (mkF m pc' Ls (v.toList ++ st))) : EndW p e below s Z Q cC cS T (mkF m pc Ls st0) := by
  subst hp hst; obtain ⟨q0, qq, locs, Y, N, Od⟩ := id X
  obtain ⟨cq, kq, qa, qb, qc⟩ := isOf (s := s.setVm vm) X.hZ rfl E
  obtain ⟨v, _, ⟨T', L1, k1, n1⟩, -, Y', ⟨Lc, hQ, l1, y1, z1⟩, stp⟩ := Y.virtualBack X.hx (y := y) (z := z) X.hown (mvT X.hZ w1) (mvT X.hZ w2) hnf (mvT X.hZ w5) (mvT X.hZ w6) hy hK qa qc (g := mkF m pc Ls (argsL.reverse ++ .ref a :: st)) rfl (X.size hsz) (Steps.refl _) (argsL := argsL) (rest := st) hlen rfl (by show 2 * 0 + _ ≤ _; omega) (X.hb hd) (fun _ _ => ⟨rfl, rfl, hcl, hsl⟩)
  dsimp only [Pt.U, Pt.locs, Pt.cells, Pt.slots] at Y' l1 y1 z1 stp hQ
  subst l1 y1 z1
  obtain ⟨f1, f2, f3⟩ := hQ2 _ _ _ hQ
  exact F_tr stp (k T' v (X.go2 Y' (Fr.app N f1) f2 (hkp _ _ f3) hsf) f3)

theorem F_virtual (X : Ww l Z R bytes mL ret own nm p e s m args below meth c vm T cells slots) {y : MethodName} {ix : Nat} {bytes' : ByteArray} {mL' : Nat} {ret' : Option FieldType} {Q' : Option Value → Heap → Prop} {argsL : List Value} {rm : Room} {a : Addr} {z : MethodName} {D : String} (hd : decode bytes pc = .ok (.invokevirtual ix, 3)) (w1 : (Jvm.Cond.methodLink own ix y).before a0 Z = true) (w2 : (Jvm.Cond.declares y).before a0 Z = true) (w5 : (Jvm.Cond.selects D y z).before a0 Z = true) (w6 : (Jvm.Cond.instanceMethod z).before a0 Z = true) (hnf : NotFace (s.setVm vm) y) (hy : y.cls ≠ "java/lang/invoke/MethodHandle" ∧ y.cls ≠ "java/lang/invoke/VarHandle") (E : Exa Z T.heap a D) (w3 : (Jvm.Cond.initialized z.cls).before a0 Z = true) (w4 : (Jvm.Cond.code z bytes' mL' ret').before a0 Z = true) {st0 : List Value} (hst : st0 = argsL.reverse ++ .ref a :: st) (hC : Ct l Z z bytes' mL' ret' rm (.ref a :: argsL).toArray T.heap Q') (hlen : ∀ sig, parseMethodDescriptor y.desc = some sig → argsL.length = sig.parameters.length) (hsz : Ls.size = mL) (hcl : cells + rm.cells ≤ R.cells) (hsl : slots + rm.slots ≤ R.slots) (hfr : rm.frames + 1 ≤ R.frames) (hlo : (st.map fun v => v.category).sum + (mL' + 11) + rm.locals ≤ R.locals) (ws : List Addr) (hkp : ∀ v h, Q' v h → Keep T.heap h ws) (hsf : ∀ x ∈ ws, Safe Z EL vm T.heap x) {pc' : Nat} (hp : pc + 3 = pc')
    (k : ∀ (T' : State) (v : Option Value), Ww l Z R bytes mL ret own nm p e s m args below meth c vm T' (cells + rm.cells) (slots + rm.slots) → Q' v T'.heap → EndW p e below s Z Q cC cS T' (mkF m pc' Ls (v.toList ++ st))) : EndW p e below s Z Q cC cS T (mkF m pc Ls st0) :=
  F_virtualB X hd w1 w2 w5 w6 hnf hy E hst (hC.back X.hZ w4 w3 hfr hlo) (fun _ _ _ q => q) hlen hsz hcl hsl ws hkp hsf hp k

theorem G_virtual (X : Ww l Z R bytes mL ret own nm p e s m args below meth c vm T cells slots) {y : MethodName} {ix : Nat} {bytes' : ByteArray} {mL' : Nat} {ret' : Option FieldType} {Q' : Option Value → Heap → Prop} {argsL : List Value} {rm : Room} {a : Addr} {z : MethodName} {D : String} (hd : decode bytes pc = .ok (.invokevirtual ix, 3)) (w1 : (Jvm.Cond.methodLink own ix y).before a0 Z = true) (w2 : (Jvm.Cond.declares y).before a0 Z = true) (w5 : (Jvm.Cond.selects D y z).before a0 Z = true) (w6 : (Jvm.Cond.instanceMethod z).before a0 Z = true) (hnf : NotFace (s.setVm vm) y) (hy : y.cls ≠ "java/lang/invoke/MethodHandle" ∧ y.cls ≠ "java/lang/invoke/VarHandle") (E : Exa Z T.heap a D) (w3 : (Jvm.Cond.initialized z.cls).before a0 Z = true) (w4 : (Jvm.Cond.code z bytes' mL' ret').before a0 Z = true) {st0 : List Value} (hst : st0 = argsL.reverse ++ .ref a :: st) (hC : CtW l Z z bytes' mL' ret' rm (.ref a :: argsL).toArray T.heap Q') (hlen : ∀ sig, parseMethodDescriptor y.desc = some sig → argsL.length = sig.parameters.length) (hsz : Ls.size = mL) (hcl : cells + rm.cells ≤ R.cells) (hsl : slots + rm.slots ≤ R.slots) (hfr : rm.frames + 1 ≤ R.frames) (hlo : (st.map fun v => v.category).sum + (mL' + 11) + rm.locals ≤ R.locals) {pc' : Nat} (hp : pc + 3 = pc')
    (k : ∀ (T' : State) (v : Option Value), Ww l Z R bytes mL ret own nm p e s m args below meth c T'.vm T' (cells + rm.cells) (slots + rm.slots) → Q' v T'.heap → (∀ x, x < T.heap.size → Safe Z EL vm T.heap x → Safe Z EL T'.vm T'.heap x) → EndW p e below s Z Q cC cS T' (mkF m pc' Ls (v.toList ++ st))) : EndW p e below s Z Q cC cS T (mkF m pc Ls st0) := by
  subst hp hst; obtain ⟨q0, ⟨⟨k0, hS, hk⟩, ⟨a1, hE1⟩, hC0⟩, locs, Y, N, Od⟩ := id X
  obtain ⟨cq, kq, qa, qb, qc⟩ := isOf (s := s.setVm vm) X.hZ rfl E
  obtain ⟨v, _, ⟨T', L1, k1, n1⟩, -, Y', hS2, hgr, ⟨Lc, hQ, l1, y1, z1, hC1⟩, stp⟩ := Y.virtualBackS X.hx (y := y) (z := z) X.hown (mvT (s := s.setVm vm) X.hZ w1) (mvT (s := s.setVm vm) X.hZ w2) hnf (mvT (s := s.setVm vm) X.hZ w5) (mvT (s := s.setVm vm) X.hZ w6) hy (hC.back X.hZ w4 w3 hfr hlo hE1 X.ch) qa qc (g := mkF m pc Ls (argsL.reverse ++ .ref a :: st)) rfl (X.size hsz) (Steps.refl _) (argsL := argsL) (rest := st) hlen rfl (by show 2 * 0 + _ ≤ _; omega) (X.hb hd) (fun _ _ => ⟨rfl, rfl, hcl, hsl⟩)
  dsimp only [Pt.U, Pt.locs, Pt.cells, Pt.slots] at Y' l1 y1 z1 stp hQ hS2 hgr hC1
  subst l1 y1 z1
  have hW2 : Z.Warmed39 T'.vm := State.Warmed39.trans (t := s.setVm vm) X.hZ hS2.1
  have hf2 : T'.vm.findClass own = some m.cls := by rw [hS2.1.alike.findClass]; exact X.hown
  exact F_tr stp (k T' v ⟨⟨q0.1, q0.2.1, q0.2.2.1, q0.2.2.2.1, q0.2.2.2.2.1, hf2, q0.2.2.2.2.2.2.1, hW2⟩, ⟨⟨_, foldS hS hk hS2 hgr, Nat.le_refl _⟩, ⟨a1, hE1⟩, hC0.trans hC1⟩, _, Y', Fr.app N hQ.1, hQ.2.1⟩ hQ.2.2 (fun x hx hs => hC1.safe hx hs))

theorem F_privateB (X : Ww l Z R bytes mL ret own nm p e s m args below meth c vm T cells slots) {y : MethodName} {ix : Nat} {bytes' : ByteArray} {mL' : Nat} {ret' : Option FieldType} {Q' : Option Value → Heap → Prop} {argsL : List Value} {Q2 : Option Value → Heap → List Loc → Prop} {rC rS : Nat} {a : Addr} {D : String} (hd : decode bytes pc = .ok (.invokevirtual ix, 3)) (w1 : (Jvm.Cond.methodLink own ix y).before a0 Z = true) (w6 : (Jvm.Cond.instanceMethod y).before a0 Z = true) (w5 : (Jvm.Cond.selects y.cls y y).before a0 Z = true) (wp : (Jvm.Cond.privateMethod y).before a0 Z = true) (w4 : (Jvm.Cond.code y bytes' mL' ret').before a0 Z = true) (hy : y.cls ≠ "java/lang/invoke/MethodHandle" ∧ y.cls ≠ "java/lang/invoke/VarHandle") (E : Exa Z T.heap a D) {st0 : List Value} (hst : st0 = argsL.reverse ++ .ref a :: st) (hK : Back l R p e below (s.setVm vm) args y 3 ((st.map fun v => v.category).sum) (fun A aa => aa = (.ref a :: argsL).toArray ∧ A.U.heap = T.heap ∧ A.cells + rC ≤ R.cells ∧ A.slots + rS ≤ R.slots) (fun A _ v B => ∃ L, Q2 v B.U.heap L ∧ B.locs = A.locs ++ L ∧ B.cells = A.cells + rC ∧ B.slots = A.slots + rS)) (hQ2 : ∀ v h L, Q2 v h L → Fr Z.heap.size L ∧ Ext Z.heap h ∧ Q' v h) (hlen : ∀ sig, parseMethodDescriptor y.desc = some sig → argsL.length = sig.parameters.length) (hsz : Ls.size = mL) (hcl : cells + rC ≤ R.cells) (hsl : slots + rS ≤ R.slots) (ws : List Addr) (hkp : ∀ v h, Q' v h → Keep T.heap h ws) (hsf : ∀ x ∈ ws, Safe Z EL vm T.heap x) {pc' : Nat} (hp : pc + 3 = pc')
    (k : ∀ (T' : State) (v : Option Value), Ww l Z R bytes mL ret own nm p e s m args below meth c vm T' (cells + rC) (slots + rS) → Q' v T'.heap → EndW p e below s Z Q cC cS T' (mkF m pc' Ls (v.toList ++ st))) : EndW p e below s Z Q cC cS T (mkF m pc Ls st0) := by
  subst hp hst; obtain ⟨q0, qq, locs, Y, N, Od⟩ := id X
  obtain ⟨cell, kk, e1, -, -, e4, -⟩ := E
  obtain ⟨v, _, ⟨T', L1, k1, n1⟩, -, Y', ⟨Lc, hQ, l1, y1, z1⟩, stp⟩ := Y.privateBack X.hx (y := y) X.hown (mvT X.hZ w1) (mvT X.hZ w6) (mvT X.hZ w5) (Cond.privateMethod_at (mvP (args := args) X.hZ wp)) (mvT X.hZ w4) hy hK (g := mkF m pc Ls (argsL.reverse ++ .ref a :: st)) rfl (X.size hsz) (Steps.refl _) (a := a) e1 (fun q z => by rw [z] at e4; cases e4) (argsL := argsL) (rest := st) hlen rfl (by show 2 * 0 + _ ≤ _; omega) (X.hb hd) (fun _ _ => ⟨rfl, rfl, hcl, hsl⟩)
  dsimp only [Pt.U, Pt.locs, Pt.cells, Pt.slots] at Y' l1 y1 z1 stp hQ
  subst l1 y1 z1
  obtain ⟨f1, f2, f3⟩ := hQ2 _ _ _ hQ
  exact F_tr stp (k T' v (X.go2 Y' (Fr.app N f1) f2 (hkp _ _ f3) hsf) f3)

theorem F_private (X : Ww l Z R bytes mL ret own nm p e s m args below meth c vm T cells slots) {y : MethodName} {ix : Nat} {bytes' : ByteArray} {mL' : Nat} {ret' : Option FieldType} {Q' : Option Value → Heap → Prop} {argsL : List Value} {rm : Room} {a : Addr} {D : String} (hd : decode bytes pc = .ok (.invokevirtual ix, 3)) (w1 : (Jvm.Cond.methodLink own ix y).before a0 Z = true) (w6 : (Jvm.Cond.instanceMethod y).before a0 Z = true) (w5 : (Jvm.Cond.selects y.cls y y).before a0 Z = true) (wp : (Jvm.Cond.privateMethod y).before a0 Z = true) (w4 : (Jvm.Cond.code y bytes' mL' ret').before a0 Z = true) (hy : y.cls ≠ "java/lang/invoke/MethodHandle" ∧ y.cls ≠ "java/lang/invoke/VarHandle") (E : Exa Z T.heap a D) (w3 : (Jvm.Cond.initialized y.cls).before a0 Z = true) {st0 : List Value} (hst : st0 = argsL.reverse ++ .ref a :: st) (hC : Ct l Z y bytes' mL' ret' rm (.ref a :: argsL).toArray T.heap Q') (hlen : ∀ sig, parseMethodDescriptor y.desc = some sig → argsL.length = sig.parameters.length) (hsz : Ls.size = mL) (hcl : cells + rm.cells ≤ R.cells) (hsl : slots + rm.slots ≤ R.slots) (hfr : rm.frames + 1 ≤ R.frames) (hlo : (st.map fun v => v.category).sum + (mL' + 11) + rm.locals ≤ R.locals) (ws : List Addr) (hkp : ∀ v h, Q' v h → Keep T.heap h ws) (hsf : ∀ x ∈ ws, Safe Z EL vm T.heap x) {pc' : Nat} (hp : pc + 3 = pc')
    (k : ∀ (T' : State) (v : Option Value), Ww l Z R bytes mL ret own nm p e s m args below meth c vm T' (cells + rm.cells) (slots + rm.slots) → Q' v T'.heap → EndW p e below s Z Q cC cS T' (mkF m pc' Ls (v.toList ++ st))) : EndW p e below s Z Q cC cS T (mkF m pc Ls st0) :=
  F_privateB X hd w1 w6 w5 wp w4 hy E hst (hC.back X.hZ w4 w3 hfr hlo) (fun _ _ _ q => q) hlen hsz hcl hsl ws hkp hsf hp k

theorem G_private (X : Ww l Z R bytes mL ret own nm p e s m args below meth c vm T cells slots) {y : MethodName} {ix : Nat} {bytes' : ByteArray} {mL' : Nat} {ret' : Option FieldType} {Q' : Option Value → Heap → Prop} {argsL : List Value} {rm : Room} {a : Addr} {D : String} (hd : decode bytes pc = .ok (.invokevirtual ix, 3)) (w1 : (Jvm.Cond.methodLink own ix y).before a0 Z = true) (w6 : (Jvm.Cond.instanceMethod y).before a0 Z = true) (w5 : (Jvm.Cond.selects y.cls y y).before a0 Z = true) (wp : (Jvm.Cond.privateMethod y).before a0 Z = true) (w4 : (Jvm.Cond.code y bytes' mL' ret').before a0 Z = true) (hy : y.cls ≠ "java/lang/invoke/MethodHandle" ∧ y.cls ≠ "java/lang/invoke/VarHandle") (E : Exa Z T.heap a D) (w3 : (Jvm.Cond.initialized y.cls).before a0 Z = true) {st0 : List Value} (hst : st0 = argsL.reverse ++ .ref a :: st) (hC : CtW l Z y bytes' mL' ret' rm (.ref a :: argsL).toArray T.heap Q') (hlen : ∀ sig, parseMethodDescriptor y.desc = some sig → argsL.length = sig.parameters.length) (hsz : Ls.size = mL) (hcl : cells + rm.cells ≤ R.cells) (hsl : slots + rm.slots ≤ R.slots) (hfr : rm.frames + 1 ≤ R.frames) (hlo : (st.map fun v => v.category).sum + (mL' + 11) + rm.locals ≤ R.locals) {pc' : Nat} (hp : pc + 3 = pc')
    (k : ∀ (T' : State) (v : Option Value), Ww l Z R bytes mL ret own nm p e s m args below meth c T'.vm T' (cells + rm.cells) (slots + rm.slots) → Q' v T'.heap → (∀ x, x < T.heap.size → Safe Z EL vm T.heap x → Safe Z EL T'.vm T'.heap x) → EndW p e below s Z Q cC cS T' (mkF m pc' Ls (v.toList ++ st))) : EndW p e below s Z Q cC cS T (mkF m pc Ls st0) := by
  subst hp hst; obtain ⟨q0, ⟨⟨k0, hS, hk⟩, ⟨a1, hE1⟩, hC0⟩, locs, Y, N, Od⟩ := id X
  obtain ⟨cell, kk, e1, -, -, e4, -⟩ := E
  obtain ⟨v, _, ⟨T', L1, k1, n1⟩, -, Y', hS2, hgr, ⟨Lc, hQ, l1, y1, z1, hC1⟩, stp⟩ := Y.privateBackS X.hx (y := y) X.hown (mvT (s := s.setVm vm) X.hZ w1) (mvT (s := s.setVm vm) X.hZ w6) (mvT (s := s.setVm vm) X.hZ w5) (Cond.privateMethod_at (mvP (s := s.setVm vm) (args := args) X.hZ wp)) (mvT (s := s.setVm vm) X.hZ w4) hy (hC.back X.hZ w4 w3 hfr hlo hE1 X.ch) (g := mkF m pc Ls (argsL.reverse ++ .ref a :: st)) rfl (X.size hsz) (Steps.refl _) (a := a) e1 (fun q z => by rw [z] at e4; cases e4) (argsL := argsL) (rest := st) hlen rfl (by show 2 * 0 + _ ≤ _; omega) (X.hb hd) (fun _ _ => ⟨rfl, rfl, hcl, hsl⟩)
  dsimp only [Pt.U, Pt.locs, Pt.cells, Pt.slots] at Y' l1 y1 z1 stp hQ hS2 hgr hC1
  subst l1 y1 z1
  have hW2 : Z.Warmed39 T'.vm := State.Warmed39.trans (t := s.setVm vm) X.hZ hS2.1
  have hf2 : T'.vm.findClass own = some m.cls := by rw [hS2.1.alike.findClass]; exact X.hown
  exact F_tr stp (k T' v ⟨⟨q0.1, q0.2.1, q0.2.2.1, q0.2.2.2.1, q0.2.2.2.2.1, hf2, q0.2.2.2.2.2.2.1, hW2⟩, ⟨⟨_, foldS hS hk hS2 hgr, Nat.le_refl _⟩, ⟨a1, hE1⟩, hC0.trans hC1⟩, _, Y', Fr.app N hQ.1, hQ.2.1⟩ hQ.2.2 (fun x hx hs => hC1.safe hx hs))

theorem F_interfaceB (X : Ww l Z R bytes mL ret own nm p e s m args below meth c vm T cells slots) {y : MethodName} {ix : Nat} {Q' : Option Value → Heap → Prop} {argsL : List Value} {Q2 : Option Value → Heap → List Loc → Prop} {rC rS : Nat} {a : Addr} {z : MethodName} {D : String} {ct : Nat} (hd : decode bytes pc = .ok (.invokeinterface ix ct, 5)) (w1 : (Jvm.Cond.methodLink own ix y).before a0 Z = true) (w2 : (Jvm.Cond.declares y).before a0 Z = true) (w5 : (Jvm.Cond.selects D y z).before a0 Z = true) (w6 : (Jvm.Cond.instanceMethod z).before a0 Z = true) (w7 : (Jvm.Cond.interfaceMethod y.cls y.cls y.name y.desc).before a0 Z = true) (hif : ((Jvm.Cond.interfaceMethod y.cls y.cls y.name y.desc).onTables && (Jvm.Cond.interfaceMethod y.cls y.cls y.name y.desc).keepsFace) = true) (w8 : (Jvm.Cond.publicMethod z).before a0 Z = true) (w9 : (Jvm.Cond.unhidden D y.name y.desc).before a0 Z = true) (wc : (Jvm.Cond.castable D y.cls).before a0 Z = true) (hy : y.cls ≠ "java/lang/invoke/MethodHandle" ∧ y.cls ≠ "java/lang/invoke/VarHandle") (E : Exa Z T.heap a D) {st0 : List Value} (hst : st0 = argsL.reverse ++ .ref a :: st) (hK : Back l R p e below (s.setVm vm) args z 5 ((st.map fun v => v.category).sum) (fun A aa => aa = (.ref a :: argsL).toArray ∧ A.U.heap = T.heap ∧ A.cells + rC ≤ R.cells ∧ A.slots + rS ≤ R.slots) (fun A _ v B => ∃ L, Q2 v B.U.heap L ∧ B.locs = A.locs ++ L ∧ B.cells = A.cells + rC ∧ B.slots = A.slots + rS)) (hQ2 : ∀ v h L, Q2 v h L → Fr Z.heap.size L ∧ Ext Z.heap h ∧ Q' v h) (hlen : ∀ sig, parseMethodDescriptor y.desc = some sig → argsL.length = sig.parameters.length) (hsz : Ls.size = mL) (hcl : cells + rC ≤ R.cells) (hsl : slots + rS ≤ R.slots) (ws : List Addr) (hkp : ∀ v h, Q' v h → Keep T.heap h ws) (hsf : ∀ x ∈ ws, Safe Z EL vm T.heap x) {pc' : Nat} (hp : pc + 5 = pc')
    (k : ∀ (T' : State) (v : Option Value), Ww l Z R bytes mL ret own nm p e s m args below meth c vm T' (cells + rC) (slots + rS) → Q' v T'.heap → EndW p e below s Z Q cC cS T' (mkF m pc' Ls (v.toList ++ st))) : EndW p e below s Z Q cC cS T (mkF m pc Ls st0) := by
  subst hp hst; obtain ⟨q0, qq, locs, Y, N, Od⟩ := id X
  obtain ⟨cq, kq, qa, qb, qc⟩ := isOf (s := s.setVm vm) X.hZ rfl E
  obtain ⟨v, _, ⟨T', L1, k1, n1⟩, -, Y', ⟨Lc, hQ, l1, y1, z1⟩, stp⟩ := Y.interfaceBack X.hx (xi := y) (y := z) X.hown (mvT X.hZ w1) (mvT X.hZ w2) (mvT X.hZ w7 hif) (mvT X.hZ w5) (mvT X.hZ w6) (mvT X.hZ w8) (mvT X.hZ w9) (mvT X.hZ wc) hy hK qa qb qc (g := mkF m pc Ls (argsL.reverse ++ .ref a :: st)) rfl (X.size hsz) (Steps.refl _) (argsL := argsL) (rest := st) hlen rfl (by show 2 * 0 + _ ≤ _; omega) (X.hb hd) (fun _ _ => ⟨rfl, rfl, hcl, hsl⟩)
  dsimp only [Pt.U, Pt.locs, Pt.cells, Pt.slots] at Y' l1 y1 z1 stp hQ
  subst l1 y1 z1
  obtain ⟨f1, f2, f3⟩ := hQ2 _ _ _ hQ
  exact F_tr stp (k T' v (X.go2 Y' (Fr.app N f1) f2 (hkp _ _ f3) hsf) f3)

theorem F_interface (X : Ww l Z R bytes mL ret own nm p e s m args below meth c vm T cells slots) {y : MethodName} {ix : Nat} {bytes' : ByteArray} {mL' : Nat} {ret' : Option FieldType} {Q' : Option Value → Heap → Prop} {argsL : List Value} {rm : Room} {a : Addr} {z : MethodName} {D : String} {ct : Nat} (hd : decode bytes pc = .ok (.invokeinterface ix ct, 5)) (w1 : (Jvm.Cond.methodLink own ix y).before a0 Z = true) (w2 : (Jvm.Cond.declares y).before a0 Z = true) (w5 : (Jvm.Cond.selects D y z).before a0 Z = true) (w6 : (Jvm.Cond.instanceMethod z).before a0 Z = true) (w7 : (Jvm.Cond.interfaceMethod y.cls y.cls y.name y.desc).before a0 Z = true) (hif : ((Jvm.Cond.interfaceMethod y.cls y.cls y.name y.desc).onTables && (Jvm.Cond.interfaceMethod y.cls y.cls y.name y.desc).keepsFace) = true) (w8 : (Jvm.Cond.publicMethod z).before a0 Z = true) (w9 : (Jvm.Cond.unhidden D y.name y.desc).before a0 Z = true) (wc : (Jvm.Cond.castable D y.cls).before a0 Z = true) (hy : y.cls ≠ "java/lang/invoke/MethodHandle" ∧ y.cls ≠ "java/lang/invoke/VarHandle") (E : Exa Z T.heap a D) (w3 : (Jvm.Cond.initialized z.cls).before a0 Z = true) (w4 : (Jvm.Cond.code z bytes' mL' ret').before a0 Z = true) {st0 : List Value} (hst : st0 = argsL.reverse ++ .ref a :: st) (hC : Ct l Z z bytes' mL' ret' rm (.ref a :: argsL).toArray T.heap Q') (hlen : ∀ sig, parseMethodDescriptor y.desc = some sig → argsL.length = sig.parameters.length) (hsz : Ls.size = mL) (hcl : cells + rm.cells ≤ R.cells) (hsl : slots + rm.slots ≤ R.slots) (hfr : rm.frames + 1 ≤ R.frames) (hlo : (st.map fun v => v.category).sum + (mL' + 11) + rm.locals ≤ R.locals) (ws : List Addr) (hkp : ∀ v h, Q' v h → Keep T.heap h ws) (hsf : ∀ x ∈ ws, Safe Z EL vm T.heap x) {pc' : Nat} (hp : pc + 5 = pc')
    (k : ∀ (T' : State) (v : Option Value), Ww l Z R bytes mL ret own nm p e s m args below meth c vm T' (cells + rm.cells) (slots + rm.slots) → Q' v T'.heap → EndW p e below s Z Q cC cS T' (mkF m pc' Ls (v.toList ++ st))) : EndW p e below s Z Q cC cS T (mkF m pc Ls st0) :=
  F_interfaceB X hd w1 w2 w5 w6 w7 hif w8 w9 wc hy E hst (hC.back X.hZ w4 w3 hfr hlo) (fun _ _ _ q => q) hlen hsz hcl hsl ws hkp hsf hp k

theorem G_interface (X : Ww l Z R bytes mL ret own nm p e s m args below meth c vm T cells slots) {y : MethodName} {ix : Nat} {bytes' : ByteArray} {mL' : Nat} {ret' : Option FieldType} {Q' : Option Value → Heap → Prop} {argsL : List Value} {rm : Room} {a : Addr} {z : MethodName} {D : String} {ct : Nat} (hd : decode bytes pc = .ok (.invokeinterface ix ct, 5)) (w1 : (Jvm.Cond.methodLink own ix y).before a0 Z = true) (w2 : (Jvm.Cond.declares y).before a0 Z = true) (w5 : (Jvm.Cond.selects D y z).before a0 Z = true) (w6 : (Jvm.Cond.instanceMethod z).before a0 Z = true) (w7 : (Jvm.Cond.interfaceMethod y.cls y.cls y.name y.desc).before a0 Z = true) (hif : ((Jvm.Cond.interfaceMethod y.cls y.cls y.name y.desc).onTables && (Jvm.Cond.interfaceMethod y.cls y.cls y.name y.desc).keepsFace) = true) (w8 : (Jvm.Cond.publicMethod z).before a0 Z = true) (w9 : (Jvm.Cond.unhidden D y.name y.desc).before a0 Z = true) (wc : (Jvm.Cond.castable D y.cls).before a0 Z = true) (hy : y.cls ≠ "java/lang/invoke/MethodHandle" ∧ y.cls ≠ "java/lang/invoke/VarHandle") (E : Exa Z T.heap a D) (w3 : (Jvm.Cond.initialized z.cls).before a0 Z = true) (w4 : (Jvm.Cond.code z bytes' mL' ret').before a0 Z = true) {st0 : List Value} (hst : st0 = argsL.reverse ++ .ref a :: st) (hC : CtW l Z z bytes' mL' ret' rm (.ref a :: argsL).toArray T.heap Q') (hlen : ∀ sig, parseMethodDescriptor y.desc = some sig → argsL.length = sig.parameters.length) (hsz : Ls.size = mL) (hcl : cells + rm.cells ≤ R.cells) (hsl : slots + rm.slots ≤ R.slots) (hfr : rm.frames + 1 ≤ R.frames) (hlo : (st.map fun v => v.category).sum + (mL' + 11) + rm.locals ≤ R.locals) {pc' : Nat} (hp : pc + 5 = pc')
    (k : ∀ (T' : State) (v : Option Value), Ww l Z R bytes mL ret own nm p e s m args below meth c T'.vm T' (cells + rm.cells) (slots + rm.slots) → Q' v T'.heap → (∀ x, x < T.heap.size → Safe Z EL vm T.heap x → Safe Z EL T'.vm T'.heap x) → EndW p e below s Z Q cC cS T' (mkF m pc' Ls (v.toList ++ st))) : EndW p e below s Z Q cC cS T (mkF m pc Ls st0) := by
  subst hp hst; obtain ⟨q0, ⟨⟨k0, hS, hk⟩, ⟨a1, hE1⟩, hC0⟩, locs, Y, N, Od⟩ := id X
  obtain ⟨cq, kq, qa, qb, qc⟩ := isOf (s := s.setVm vm) X.hZ rfl E
  obtain ⟨v, _, ⟨T', L1, k1, n1⟩, -, Y', hS2, hgr, ⟨Lc, hQ, l1, y1, z1, hC1⟩, stp⟩ := Y.interfaceBackS X.hx (xi := y) (y := z) X.hown (mvT (s := s.setVm vm) X.hZ w1) (mvT (s := s.setVm vm) X.hZ w2) (mvT (s := s.setVm vm) X.hZ w7 hif) (mvT (s := s.setVm vm) X.hZ w5) (mvT (s := s.setVm vm) X.hZ w6) (mvT (s := s.setVm vm) X.hZ w8) (mvT (s := s.setVm vm) X.hZ w9) (mvT (s := s.setVm vm) X.hZ wc) hy (hC.back X.hZ w4 w3 hfr hlo hE1 X.ch) qa qb qc (g := mkF m pc Ls (argsL.reverse ++ .ref a :: st)) rfl (X.size hsz) (Steps.refl _) (argsL := argsL) (rest := st) hlen rfl (by show 2 * 0 + _ ≤ _; omega) (X.hb hd) (fun _ _ => ⟨rfl, rfl, hcl, hsl⟩)
  dsimp only [Pt.U, Pt.locs, Pt.cells, Pt.slots] at Y' l1 y1 z1 stp hQ hS2 hgr hC1
  subst l1 y1 z1
  have hW2 : Z.Warmed39 T'.vm := State.Warmed39.trans (t := s.setVm vm) X.hZ hS2.1
  have hf2 : T'.vm.findClass own = some m.cls := by rw [hS2.1.alike.findClass]; exact X.hown
  exact F_tr stp (k T' v ⟨⟨q0.1, q0.2.1, q0.2.2.1, q0.2.2.2.1, q0.2.2.2.2.1, hf2, q0.2.2.2.2.2.2.1, hW2⟩, ⟨⟨_, foldS hS hk hS2 hgr, Nat.le_refl _⟩, ⟨a1, hE1⟩, hC0.trans hC1⟩, _, Y', Fr.app N hQ.1, hQ.2.1⟩ hQ.2.2 (fun x hx hs => hC1.safe hx hs))

theorem Ww.out (X : Ww l Z R bytes mL ret own nm p e s m args below meth c vm T cells slots) {v : Option Value} (hv : ret = none → v = none) (hQ : Q v T.heap) (h1 : cells ≤ cC) (h2 : slots ≤ cS) (hs : ∀ fs, (∀ (f : JFrame) (acts : List Action), f.method = m → f.locked = none → f.entered = [] → (doReturn e (T.setTop f) acts v).1 = T.setFrames fs) → Steps p.tables e below (T.setTop g) (T.setFrames fs)) : EndW p e below s Z Q cC cS T g := by
  obtain ⟨q0, ⟨⟨k0, hS, hk⟩, ⟨a1, hE1⟩, hC0⟩, locs, Y, N, Od⟩ := id X
  obtain ⟨fs, hr, hrun, hended, hW⟩ := Y.leaveW hS hk (v := v) (fun h => hv (q0.2.2.2.1.symm.trans h)) q0.2.2.2.2.1
  exact ⟨_, _, hs fs hr, hrun, hended, _, _, rfl, ⟨N, Od, hQ⟩, (hC0.trans (CHv.at (T := T) Y X.hZ hE1 X.ch) : CHr Z EL s.vm s.heap T.vm T.heap), hW.1, hW.2.1, hW.2.2.1, hW.2.2.2.mono h1 h2⟩
theorem F_return (X : Ww l Z R bytes mL ret own nm p e s m args below meth c vm T cells slots) (hd : decode bytes pc = .ok (.return_, 1)) (hret : ret = none) (h1 : cells ≤ cC) (h2 : slots ≤ cS) (hQ : Q none T.heap) : EndW p e below s Z Q cC cS T (mkF m pc Ls []) := by
  refine X.out (v := none) (fun _ => rfl) hQ h1 h2 fun fs hr => ?_
  obtain ⟨q0, qq, locs, Y, N, Od⟩ := id X
  exact Y.returnOut X.hx (q0.2.2.2.1.trans hret) (X.hb hd) hr
theorem F_ireturnI (X : Ww l Z R bytes mL ret own nm p e s m args below meth c vm T cells slots) {z : Int32} (hd : decode bytes pc = .ok (.ireturn, 1)) (hret : ret = some .int) (h1 : cells ≤ cC) (h2 : slots ≤ cS) (hQ : Q (some (.int z)) T.heap) : EndW p e below s Z Q cC cS T (mkF m pc Ls (.int z :: st)) := by
  refine X.out (v := some (.int z)) (fun h => by rw [hret] at h; cases h) hQ h1 h2 fun fs hr => ?_
  obtain ⟨q0, qq, locs, Y, N, Od⟩ := id X
  exact retOut Y X.hx (q0.2.2.2.1.trans hret) rfl (Or.inl ⟨rfl, Or.inl rfl, z, rfl⟩) (X.hb hd) hr
theorem F_ireturnN (X : Ww l Z R bytes mL ret own nm p e s m args below meth c vm T cells slots) {z : Int32} {t : FieldType} (hd : decode bytes pc = .ok (.ireturn, 1)) (hret : ret = some t) (ht : t = .boolean ∨ t = .byte ∨ t = .char ∨ t = .short) (h1 : cells ≤ cC) (h2 : slots ≤ cS) (hQ : Q (some (.int (nar t z))) T.heap) : EndW p e below s Z Q cC cS T (mkF m pc Ls (.int z :: st)) := by
  refine X.out (v := some (.int (nar t z))) (fun h => by rw [hret] at h; cases h) hQ h1 h2 fun fs hr => ?_
  obtain ⟨q0, qq, locs, Y, N, Od⟩ := id X
  exact retN Y X.hx (q0.2.2.2.1.trans hret) ht (X.hb hd) hr
theorem F_areturn (X : Ww l Z R bytes mL ret own nm p e s m args below meth c vm T cells slots) {v : Value} {t : FieldType} (hd : decode bytes pc = .ok (.areturn, 1)) (hret : ret = some t) (ht : t.isReference = true) (hv : v.isRef = true) (hn : narrow t v = v) (h1 : cells ≤ cC) (h2 : slots ≤ cS) (hQ : Q (some v) T.heap) : EndW p e below s Z Q cC cS T (mkF m pc Ls (v :: st)) := by
  refine X.out (v := some v) (fun h => by rw [hret] at h; cases h) hQ h1 h2 fun fs hr => ?_
  obtain ⟨q0, qq, locs, Y, N, Od⟩ := id X
  exact retOut Y X.hx (q0.2.2.2.1.trans hret) hn (Or.inr (Or.inr (Or.inr (Or.inr ⟨rfl, ht, hv⟩)))) (X.hb hd) hr
end OwnW
theorem pd_0 : parseMethodDescriptor "([CI[BII)I" = some ⟨[(.array .char), .int, (.array .byte), .int, .int], some .int⟩ := by decide +kernel
theorem pd_1 : parseMethodDescriptor "([CII)[B" = some ⟨[(.array .char), .int, .int], some (.array .byte)⟩ := by decide +kernel
theorem pd_2 : parseMethodDescriptor "([BI)B" = some ⟨[(.array .byte), .int], some .byte⟩ := by decide +kernel
theorem pd_3 : parseMethodDescriptor "([CIILjava/lang/Void;)V" = some ⟨[(.array .char), .int, .int, (.object "java/lang/Void")], none⟩ := by decide +kernel
theorem pd_4 : parseMethodDescriptor "([B[B)Z" = some ⟨[(.array .byte), (.array .byte)], some .boolean⟩ := by decide +kernel
theorem pd_5 : parseMethodDescriptor "([C)V" = some ⟨[(.array .char)], none⟩ := by decide +kernel
theorem pd_6 : parseMethodDescriptor "(Ljava/lang/Object;)Ljava/lang/Object;" = some ⟨[(.object "java/lang/Object")], some (.object "java/lang/Object")⟩ := by decide +kernel
theorem pd_7 : parseMethodDescriptor "(Ljava/lang/Object;)V" = some ⟨[(.object "java/lang/Object")], none⟩ := by decide +kernel
theorem pd_8 : parseMethodDescriptor "()[Lcom/example/panoptes/panoptes/Caller$Role;" = some ⟨[], some (.array (.object "com/example/panoptes/panoptes/Caller$Role"))⟩ := by decide +kernel
theorem pd_9 : parseMethodDescriptor "(Ljava/lang/Object;)Z" = some ⟨[(.object "java/lang/Object")], some .boolean⟩ := by decide +kernel
theorem pd_10 : parseMethodDescriptor "()Ljava/util/Optional;" = some ⟨[], some (.object "java/util/Optional")⟩ := by decide +kernel
theorem pd_11 : parseMethodDescriptor "(Ljava/lang/Object;)Ljava/util/Optional;" = some ⟨[(.object "java/lang/Object")], some (.object "java/util/Optional")⟩ := by decide +kernel
theorem pd_12 : parseMethodDescriptor "(Ljava/lang/String;)Ljava/util/Optional;" = some ⟨[(.object "java/lang/String")], some (.object "java/util/Optional")⟩ := by decide +kernel
theorem pd_13 : parseMethodDescriptor "([CI)Ljava/lang/String;" = some ⟨[(.array .char), .int], some (.object "java/lang/String")⟩ := by decide +kernel
theorem o_int {n : Nat} (h : n < 2147483648) : (Int32.ofNat n).toInt = n := by
  have := Int32.toInt_ofNat_of_lt (n := n) (by omega); simpa using this
theorem o_cl {n : Nat} (h : n < 2147483648) : (Int32.ofNat n).toNatClampNeg = n := by
  simp [Int32.toNatClampNeg, o_int h]
theorem o_nn {n : Nat} (h : n < 2147483648) : ¬ Int32.ofNat n < 0 := by
  rw [Int32.lt_iff_toInt_lt, o_int h]; show ¬ (n : Int) < 0; omega
theorem o_lt {i n : Nat} (hi : i < n) (h : n < 2147483648) : Int32.ofNat i < Int32.ofNat n := by
  rw [Int32.lt_iff_toInt_lt, o_int h, o_int (by omega)]; omega
theorem o_nlt {i n : Nat} (hi : n ≤ i) (h : i < 2147483648) : ¬ Int32.ofNat i < Int32.ofNat n := by
  rw [Int32.lt_iff_toInt_lt, o_int h, o_int (by omega)]; omega
theorem o_add {i : Nat} : Int32.ofNat i + (1 : Int32) = Int32.ofNat (i + 1) := by
  rw [Int32.ofNat_add]; rfl
theorem o_two {i : Nat} (h : 2 * i < 2147483648) : Int32.ofNat i <<< ((1 : Int32) &&& 31) = Int32.ofNat (2 * i) := by
  apply Int32.toInt_inj.mp
  have e := c_ishl (Int32.ofNat i) 1 1 (by decide)
  have r := rng32 (Int32.ofNat i <<< ((1 : Int32) &&& 31))
  rw [o_int (by omega)] at e
  rw [o_int h]
  omega
theorem o_half {i : Nat} (h : 2 * i < 2147483648) : Int32.ofNat (2 * i) >>> ((1 : Int32) &&& 31) = Int32.ofNat i := by
  apply Int32.toInt_inj.mp
  have e := c_ishr (Int32.ofNat (2 * i)) 1 1 (by decide)
  rw [o_int h] at e
  rw [o_int (by omega), e]
  omega
theorem o_zero (N : Int32) : N >>> ((0 : Int32) &&& 31) = N := by
  apply Int32.toInt_inj.mp
  have e := c_ishr N 0 0 (by decide)
  rw [e]; simp
theorem o_i2c {c : Int32} (h1 : ¬ c < 0) (h2 : ¬ 65535 < c) : c.toUInt32.toUInt16.toUInt32.toInt32 = c := by
  apply Int32.toInt_inj.mp
  have e := c_i2c c
  rw [Int32.lt_iff_toInt_lt] at h1 h2
  have o1 : (0 : Int32).toInt = 0 := rfl
  have o2 : (65535 : Int32).toInt = 65535 := rfl
  omega
theorem o_nar {c : Int32} (h1 : ¬ c < 0) (h2 : ¬ 65535 < c) : nar .char c = c := o_i2c h1 h2
theorem o_lat {c : Int32} (h1 : ¬ c < 0) (h2 : ¬ 255 < c) : nar .char ((c.toInt8.toInt32 &&& (255 : Int32)).toUInt32.toUInt16.toUInt32.toInt32) = c := by
  have o1 : (0 : Int32).toInt = 0 := rfl
  have o2 : (255 : Int32).toInt = 255 := rfl
  have o3 : (65535 : Int32).toInt = 65535 := rfl
  rw [Int32.lt_iff_toInt_lt] at h1 h2
  have e : c.toInt8.toInt32 &&& (255 : Int32) = c := by
    apply Int32.toInt_inj.mp
    have e1 := c_mask c.toInt8.toInt32 255 8 (by decide) (by decide)
    have e2 := c_i2b c
    rw [e1]; omega
  rw [e, o_i2c, o_nar] <;> (rw [Int32.lt_iff_toInt_lt]; omega)
theorem o_u16 {c : Int32} (h1 : ¬ c < 0) (h2 : ¬ 65535 < c) : nar .char ((((c >>> ((0 : Int32) &&& 31)).toInt8.toInt32 &&& (255 : Int32)) <<< ((0 : Int32) &&& 31) ||| ((c >>> ((8 : Int32) &&& 31)).toInt8.toInt32 &&& (255 : Int32)) <<< ((8 : Int32) &&& 31)).toUInt32.toUInt16.toUInt32.toInt32) = c := by
  have o1 : (0 : Int32).toInt = 0 := rfl
  have o2 : (255 : Int32).toInt = 255 := rfl
  have o3 : (65535 : Int32).toInt = 65535 := rfl
  rw [Int32.lt_iff_toInt_lt] at h1 h2
  have a0 : c >>> ((0 : Int32) &&& 31) = c := o_zero c
  have a1 := c_ishr c 8 8 (by decide)
  rw [a0]
  generalize c >>> ((8 : Int32) &&& 31) = d at *
  have b1 := c_mask c.toInt8.toInt32 255 8 (by decide) (by decide)
  have b2 := c_i2b c
  have b3 := c_mask d.toInt8.toInt32 255 8 (by decide) (by decide)
  have b4 := c_i2b d
  generalize c.toInt8.toInt32 &&& (255 : Int32) = x at *
  generalize d.toInt8.toInt32 &&& (255 : Int32) = y at *
  have d1 := c_ishl x 0 0 (by decide)
  have d2 := c_ishl y 8 8 (by decide)
  have r1 := rng32 (x <<< ((0 : Int32) &&& 31))
  have r2 := rng32 (y <<< ((8 : Int32) &&& 31))
  generalize x <<< ((0 : Int32) &&& 31) = u at *
  generalize y <<< ((8 : Int32) &&& 31) = w at *
  have f := c_or' u w 8 (by decide) 256 rfl (by omega) (by omega) (by omega)
  have r3 := rng32 (u ||| w)
  have e : u ||| w = c := by
    apply Int32.toInt_inj.mp
    omega
  rw [e, o_i2c, o_nar] <;> (rw [Int32.lt_iff_toInt_lt]; omega)
theorem o_b8 (c : Int32) : c.toInt8.toInt32.toInt8.toInt32 = c.toInt8.toInt32 := by simp
theorem o_ltc {n : Nat} (h : n ≤ 4000) : Int32.ofNat n < (1073741823 : Int32) := by
  rw [Int32.lt_iff_toInt_lt, o_int (by omega)]; show (n : Int) < 1073741823; omega
theorem o_cfl {n : Nat} (h : 0 < n) (h2 : n ≤ 4000) : nar .byte ((((Int32.ofNat n - Int32.ofNat (2 * n)).toUInt32 >>> ((31 : Int32) &&& 31).toUInt32).toInt32).toInt8.toInt32) = 1 := by
  have e := c_isub (Int32.ofNat n) (Int32.ofNat (2 * n))
  rw [o_int (by omega), o_int (by omega)] at e
  have r := rng32 (Int32.ofNat n - Int32.ofNat (2 * n))
  have f := c_iushr (Int32.ofNat n - Int32.ofNat (2 * n)) 31 31 (by decide) (by decide)
  have g : ((Int32.ofNat n - Int32.ofNat (2 * n)).toUInt32 >>> ((31 : Int32) &&& 31).toUInt32).toInt32 = 1 := by
    apply Int32.toInt_inj.mp
    rw [f]; show _ = (1 : Int); omega
  rw [g]; rfl

def Sts (Z : State) (G1 : Int32) (G3 : Value) : Prop := Sta Z Z.heap "java/lang/String" "COMPACT_STRINGS" "Z" (.int G1) ∧ ¬ G1 = 0 ∧ Sta Z Z.heap "jdk/internal/util/Preconditions" "SIOOBE_FORMATTER" "Ljava/util/function/BiFunction;" G3 ∧ G3.isRef = true
theorem Sts.ref {Z : State} {G1 : Int32} {G3 : Value} (h : Sts Z G1 G3) : G3.isRef = true := h.2.2.2
def lo8 (c : Int32) : Value := .int c.toInt8.toInt32
def u16 (cs : List Int32) : List Value := cs.flatMap fun c => [.int (c >>> ((0 : Int32) &&& 31)).toInt8.toInt32, .int (c >>> ((8 : Int32) &&& 31)).toInt8.toInt32]
def Cod (cs : List Int32) (cd N : Int32) (vs : List Value) : Prop := (cd = 0 ∧ N = Int32.ofNat cs.length ∧ vs = cs.map lo8 ∧ ∀ c ∈ cs, ¬ (255 : Int32) < c)
/-- the String x holds the chars cs; its array is t -/
def OStr (Z : State) (h : Heap) (x t : Addr) (cs : List Int32) : Prop := ∃ (kb : ClassId) (cd N : Int32) (vs : List Value), Exa Z h x "java/lang/String" ∧ Fld Z h x "java/lang/String" "value" "[B" (.ref t) ∧ Fld Z h x "java/lang/String" "coder" "B" (.int cd) ∧ Arv Z h t kb .byte N vs (.int (0 : Int32)) ∧ Cod cs cd N vs ∧ (∀ c ∈ cs, ¬ c < 0 ∧ ¬ (65535 : Int32) < c) ∧ cs.length ≤ 4000
theorem OStr.exa {Z : State} {h : Heap} {x t : Addr} {cs : List Int32} (S : OStr Z h x t cs) : Exa Z h x "java/lang/String" := by obtain ⟨_, _, _, _, E, -⟩ := S; exact E
theorem OStr.fval {Z : State} {h : Heap} {x t : Addr} {cs : List Int32} (S : OStr Z h x t cs) : Fld Z h x "java/lang/String" "value" "[B" (.ref t) := by obtain ⟨_, _, _, _, _, F, -⟩ := S; exact F
theorem OStr.fcod {Z : State} {h : Heap} {x t : Addr} {cs : List Int32} (S : OStr Z h x t cs) : Fld Z h x "java/lang/String" "coder" "B" (.int 0) := by obtain ⟨_, _, _, _, _, _, C, _, ⟨rfl, -⟩, -⟩ := S; exact C
theorem OStr.lt {Z : State} {h : Heap} {x t : Addr} {cs : List Int32} (S : OStr Z h x t cs) : x < h.size := S.exa.lt
theorem OStr.ltv {Z : State} {h : Heap} {x t : Addr} {cs : List Int32} (S : OStr Z h x t cs) : t < h.size := by obtain ⟨_, _, _, _, _, _, _, V, -⟩ := S; exact V.lt
theorem OStr.keep {Z : State} {h h' : Heap} {ws : List Addr} {x t : Addr} {cs : List Int32} (S : OStr Z h x t cs) (K : Keep h h' ws) (h1 : x ∉ ws) (h2 : t ∉ ws) : OStr Z h' x t cs := by
  obtain ⟨kb, cd, N, vs, E, F, G, V, r⟩ := S; exact ⟨kb, cd, N, vs, E.keep K, F.keep K h1, G.keep K h1, V.keep K h2, r⟩
theorem own_lit {Z : State} {h : Heap} {a b : Addr} {kb : ClassId} {cs : List Int32} (E : Exa Z h a "java/lang/String") (F : Fld Z h a "java/lang/String" "value" "[B" (.ref b)) (C : Fld Z h a "java/lang/String" "coder" "B" (.int 0)) (V : Arv Z h b kb .byte (Int32.ofNat cs.length) (cs.map lo8) (.int 0)) (hb : ∀ c ∈ cs, ¬ c < 0 ∧ ¬ (255 : Int32) < c) (hl : cs.length ≤ 4000) : OStr Z h a b cs :=
  ⟨kb, 0, _, _, E, F, C, V, ⟨rfl, rfl, rfl, fun c hc => (hb c hc).2⟩, fun c hc => ⟨(hb c hc).1, fun q => (hb c hc).2 (Int32.lt_trans (by decide) q)⟩, hl⟩
theorem Fld.inj {Z : State} {h : Heap} {a : Addr} {C n d : String} {v w : Value} (F : Fld Z h a C n d v) (G : Fld Z h a C n d w) : v = w := by
  by_cases q : v = w
  · exact q
  · exact absurd rfl (F.ne G q)
theorem lo8_inj {c d : Int32} (h1 : ¬ c < 0) (h2 : ¬ (255 : Int32) < c) (h3 : ¬ d < 0) (h4 : ¬ (255 : Int32) < d) (e : c.toInt8.toInt32 = d.toInt8.toInt32) : c = d := by
  have a := c_i2b c; have b := c_i2b d
  rw [e] at a
  simp only [Int32.lt_iff_toInt_lt, Int32.reduceToInt] at h1 h2 h3 h4
  apply Int32.toInt_inj.mp; omega
theorem own_ext {cs ds : List Int32} (hl : cs.length = ds.length) (h : ∀ i, i < cs.length → cs.getD i 0 = ds.getD i 0) : cs = ds := by
  apply List.ext_getElem hl
  intro i h1 h2
  have q := h i h1
  simpa [List.getD_eq_getElem?_getD, h1, h2] using q
theorem own_getD {cs : List Int32} {i : Nat} (f : Int32 → Value) {d : Value} (h : i < cs.length) (hn : cs.length ≤ 4000) : (cs.map f).getD (Int32.ofNat i).toNatClampNeg d = f (cs.getD i 0) := by
  rw [o_cl (by omega)]; simp [List.getD_eq_getElem?_getD, h]
theorem own_mem {cs : List Int32} {i : Nat} (h : i < cs.length) : cs.getD i 0 ∈ cs := by simp [List.getD_eq_getElem?_getD, h]
theorem own_take {cs : List Int32} {i : Nat} (f : Int32 → Value) (h : i < cs.length) : (cs.take (i + 1)).map f = (cs.take i).map f ++ [f (cs.getD i 0)] := by
  rw [List.take_add_one, List.map_append]; congr 1; simp [List.getD_eq_getElem?_getD, h]
theorem own_all {P : Int32 → Prop} {cs : List Int32} {i : Nat} {ch : Int32} (h : i < cs.length) (hch : ch = cs.getD i 0) (hall : ∀ c ∈ cs.take i, P c) (hc : P ch) : ∀ c ∈ cs.take (i + 1), P c := by
  intro c hc2
  rw [List.take_add_one] at hc2
  rcases List.mem_append.mp hc2 with hc2 | hc2
  · exact hall c hc2
  · have : c = ch := by rw [hch]; simp [List.getD_eq_getElem?_getD, h] at hc2 ⊢; exact hc2
    rw [this]; exact hc
theorem own_tl {cs : List Int32} {i : Nat} (f : Int32 → Value) (h : i ≤ cs.length) : ((cs.take i).map f).length = i := by simp; omega
theorem Cod.cd8 {cs : List Int32} {cd N : Int32} {vs : List Value} (h : Cod cs cd N vs) : nar .byte cd = cd := by obtain ⟨rfl, -⟩ := h; rfl
theorem Cod.len {cs : List Int32} {cd N : Int32} {vs : List Value} (h : Cod cs cd N vs) (hl : cs.length ≤ 4000) : N >>> (cd &&& 31) = Int32.ofNat cs.length := by obtain ⟨rfl, rfl, -⟩ := h; exact o_zero _
theorem Cod.n0 {cs : List Int32} {cd N : Int32} {vs : List Value} (h : Cod cs cd N vs) (hl : cs.length ≤ 4000) : N = 0 ↔ cs.length = 0 := by
  have e : ∀ n : Nat, n < 2147483648 → (Int32.ofNat n = 0 ↔ n = 0) := fun n hn => by
    rw [← Int32.toInt_inj, o_int hn]; show ((n : Int) = 0) ↔ _; omega
  obtain ⟨-, rfl, -⟩ := h; exact e _ (by omega)

theorem lit_0 : (∀ c ∈ "".toList, c.toNat < 256) ∧ "".toList.map (fun c => Value.int (Jvm.Lit.byteI c.toNat.toUInt16)) = ([] : List Int32).map lo8 := ⟨by decide +kernel, by rfl⟩
theorem lit_1 : (∀ c ∈ "producer".toList, c.toNat < 256) ∧ "producer".toList.map (fun c => Value.int (Jvm.Lit.byteI c.toNat.toUInt16)) = ([(112 : Int32), (114 : Int32), (111 : Int32), (100 : Int32), (117 : Int32), (99 : Int32), (101 : Int32), (114 : Int32)] : List Int32).map lo8 := ⟨by decide +kernel, by rfl⟩
theorem lit_2 : (∀ c ∈ "worker".toList, c.toNat < 256) ∧ "worker".toList.map (fun c => Value.int (Jvm.Lit.byteI c.toNat.toUInt16)) = ([(119 : Int32), (111 : Int32), (114 : Int32), (107 : Int32), (101 : Int32), (114 : Int32)] : List Int32).map lo8 := ⟨by decide +kernel, by rfl⟩
theorem d_compress5_0 : decode jdk_52_method_21_code 0 = .ok (.iconst 0, 1) := by decide +kernel
theorem d_compress5_1 : decode jdk_52_method_21_code 1 = .ok (.istore 5, 2) := by decide +kernel
theorem d_compress5_3 : decode jdk_52_method_21_code 3 = .ok (.iload 5, 2) := by decide +kernel
theorem d_compress5_5 : decode jdk_52_method_21_code 5 = .ok (.iload 4, 2) := by decide +kernel
theorem d_compress5_7 : decode jdk_52_method_21_code 7 = .ok (.if_icmp .ge 37, 3) := by decide +kernel
theorem d_compress5_10 : decode jdk_52_method_21_code 10 = .ok (.aload_n 0, 1) := by decide +kernel
theorem d_compress5_11 : decode jdk_52_method_21_code 11 = .ok (.iload_n 1, 1) := by decide +kernel
theorem d_compress5_12 : decode jdk_52_method_21_code 12 = .ok (.caload, 1) := by decide +kernel
theorem d_compress5_13 : decode jdk_52_method_21_code 13 = .ok (.istore 6, 2) := by decide +kernel
theorem d_compress5_15 : decode jdk_52_method_21_code 15 = .ok (.iload 6, 2) := by decide +kernel
theorem d_compress5_17 : decode jdk_52_method_21_code 17 = .ok (.sipush 255, 3) := by decide +kernel
theorem d_compress5_20 : decode jdk_52_method_21_code 20 = .ok (.if_icmp .le 6, 3) := by decide +kernel
theorem d_compress5_23 : decode jdk_52_method_21_code 23 = .ok (.iload 5, 2) := by decide +kernel
theorem d_compress5_25 : decode jdk_52_method_21_code 25 = .ok (.ireturn, 1) := by decide +kernel
theorem d_compress5_26 : decode jdk_52_method_21_code 26 = .ok (.aload_n 2, 1) := by decide +kernel
theorem d_compress5_27 : decode jdk_52_method_21_code 27 = .ok (.iload_n 3, 1) := by decide +kernel
theorem d_compress5_28 : decode jdk_52_method_21_code 28 = .ok (.iload 6, 2) := by decide +kernel
theorem d_compress5_30 : decode jdk_52_method_21_code 30 = .ok (.i2b, 1) := by decide +kernel
theorem d_compress5_31 : decode jdk_52_method_21_code 31 = .ok (.bastore, 1) := by decide +kernel
theorem d_compress5_32 : decode jdk_52_method_21_code 32 = .ok (.iinc 1 1, 3) := by decide +kernel
theorem d_compress5_35 : decode jdk_52_method_21_code 35 = .ok (.iinc 3 1, 3) := by decide +kernel
theorem d_compress5_38 : decode jdk_52_method_21_code 38 = .ok (.iinc 5 1, 3) := by decide +kernel
theorem d_compress5_41 : decode jdk_52_method_21_code 41 = .ok (.goto (-38), 3) := by decide +kernel
theorem d_compress5_44 : decode jdk_52_method_21_code 44 = .ok (.iload 4, 2) := by decide +kernel
theorem d_compress5_46 : decode jdk_52_method_21_code 46 = .ok (.ireturn, 1) := by decide +kernel
abbrev rm_compress5 : Room := ({ frames := 0, cells := 0, slots := 0, locals := 0 } : Room)
def Q_compress5 (Z : State) (b t : Addr) (kC kb : ClassId) (cs : List Int32) (dv : Value) (h0 : Heap) (v : Option Value) (h : Heap) : Prop := Keep h0 h [t] ∧ ((v = some (.int (Int32.ofNat cs.length)) ∧ (∀ c ∈ cs, ¬ (255 : Int32) < c) ∧ Arv Z h t kb .byte (Int32.ofNat cs.length) (cs.map lo8) (.int (0 : Int32))) ∨ (∃ j, j < cs.length ∧ v = some (.int (Int32.ofNat j)) ∧ (255 : Int32) < cs.getD j 0))
set_option maxRecDepth 65536 in
set_option maxHeartbeats 40000000 in
theorem lp_compress5 (l : Launch) (Z : State) (a0 : Array Value) (hw : ∀ d ∈ tables_1, d.before a0 Z = true) (G1 : Int32) (G3 : Value) (OS : Sts Z G1 G3) (hEL : EW Z a0 EL) (hSA : ∀ a ∈ Bundle.stringAtoms, a.before a0 Z = true) (b t : Addr) (kC kb : ClassId) (cs : List Int32) (dv : Value) {h0 : Heap} {p : Program} {e : Env} {s : State} {m : MethodId} {below : List Frame} {meth : Method} {c : Code} (k : Nat) : ∀ {T0 : State} (i : Nat) (o : Slot), Wk l Z rm_compress5 jdk_52_method_21_code 7 (some .int) "java/lang/StringUTF16" "compress" p e s m #[(.ref b), (.int (0 : Int32)), (.ref t), (.int (0 : Int32)), (.int (Int32.ofNat cs.length))] below meth c T0 0 0 → (i + k = cs.length) → (o = .unset ∨ ∃ w, o = .val w ∧ w.category = 1) → (cs.length ≤ 4000) → (Arv Z T0.heap b kC .char (Int32.ofNat cs.length) (cs.map Value.int) dv) → (Arv Z T0.heap t kb .byte (Int32.ofNat cs.length) ((cs.take i).map lo8) (.int (0 : Int32))) → (b ≠ t) → (Z.heap.size ≤ t) → (Keep h0 T0.heap [t]) → (∀ c ∈ cs.take i, ¬ (255 : Int32) < c) → Ends p e below s Z (Q_compress5 Z b t kC kb cs dv h0) rm_compress5.cells rm_compress5.slots T0 (mkF m 3 #[.val (.ref b), .val (.int (Int32.ofNat i)), .val (.ref t), .val (.int (Int32.ofNat i)), .val (.int (Int32.ofNat cs.length)), .val (.int (Int32.ofNat i)), o] []) := by
  induction k with
  | zero =>
    intro T0 i o X0 hi hone hlen V0 D0 hbt gt K00 hall
    have hik : i = cs.length := by omega
    subst hik
    rw [List.take_length] at hall
    rw [List.take_length] at D0
    refine E_iload X0 d_compress5_3 rfl (pc' := 5) rfl ?_
    refine E_iload X0 d_compress5_5 rfl (pc' := 7) rfl ?_
    refine E_icT X0 d_compress5_7 (XT.ii_ge_t (o_nlt (Nat.le_refl _) (by omega))) (pc' := 44) (by decide) rfl ?_
    refine E_iload X0 d_compress5_44 rfl (pc' := 46) rfl ?_
    exact E_ireturnI X0 d_compress5_46 rfl (by decide) (by decide) (⟨K00, Or.inl ⟨rfl, hall, D0⟩⟩)
  | succ k ih =>
    intro T0 i o X0 hi hone hlen V0 D0 hbt gt K00 hall
    have hlt : i < cs.length := by omega
    obtain ⟨ch, hch⟩ : ∃ c, c = cs.getD i 0 := ⟨_, rfl⟩
    refine E_iload X0 d_compress5_3 rfl (pc' := 5) rfl ?_
    refine E_iload X0 d_compress5_5 rfl (pc' := 7) rfl ?_
    refine E_icF X0 d_compress5_7 (XT.ii_ge_f (o_lt hlt (by omega))) (pc' := 10) rfl ?_
    refine E_aloadN X0 d_compress5_10 rfl rfl (pc' := 11) rfl ?_
    refine E_iloadN X0 d_compress5_11 rfl (pc' := 12) rfl ?_
    refine E_caload X0 (v := (.int ch)) d_compress5_12 V0 ⟨o_nn (by omega), o_lt hlt (by omega)⟩ (by rw [own_getD Value.int hlt hlen, hch]) (pc' := 13) rfl ?_
    refine E_istore X0 d_compress5_13 (l' := #[.val (.ref b), .val (.int (Int32.ofNat i)), .val (.ref t), .val (.int (Int32.ofNat i)), .val (.int (Int32.ofNat cs.length)), .val (.int (Int32.ofNat i)), .val (.int ch)]) (XS.store1 rfl hone rfl) (pc' := 15) rfl ?_
    refine E_iload X0 d_compress5_15 rfl (pc' := 17) rfl ?_
    refine E_sipush X0 (v := (255 : Int32)) d_compress5_17 rfl (pc' := 20) rfl ?_
    by_cases hc : (255 : Int32) < ch
    · skip
      refine E_icF X0 d_compress5_20 (XT.ii_le_f hc) (pc' := 23) rfl ?_
      refine E_iload X0 d_compress5_23 rfl (pc' := 25) rfl ?_
      exact E_ireturnI X0 d_compress5_25 rfl (by decide) (by decide) (⟨K00, Or.inr ⟨i, hlt, rfl, hch ▸ hc⟩⟩)
    · skip
      refine E_icT X0 d_compress5_20 (XT.ii_le_t hc) (pc' := 26) (by decide) rfl ?_
      refine E_aloadN X0 d_compress5_26 rfl rfl (pc' := 27) rfl ?_
      refine E_iloadN X0 d_compress5_27 rfl (pc' := 28) rfl ?_
      refine E_iload X0 d_compress5_28 rfl (pc' := 30) rfl ?_
      refine E_i2b X0 d_compress5_30 rfl (pc' := 31) rfl ?_
      refine E_bastoreA X0 (y := (ch).toInt8.toInt32) d_compress5_31 (o_b8 _) D0 ⟨o_nn (by omega), o_lt hlt (by omega)⟩ (by rw [o_cl (by omega), own_tl lo8 (by omega)]) gt (pc' := 32) rfl ?_
      intro T1 X2 K3 V4
      have KK5 := K00.trans K3 (allS (Or.inl (by simp)) (fun x q => nomatch q))
      have Arv_6 := V0.keep K3 (ninS hbt nin0)
      have V7 : Arv Z T1.heap t kb .byte (Int32.ofNat cs.length) ((cs.take i).map lo8 ++ [lo8 ch]) (.int (0 : Int32)) := V4
      refine E_iinc X2 (y := (Int32.ofNat (i + 1))) d_compress5_32 o_add rfl (l' := #[.val (.ref b), .val (.int (Int32.ofNat (i + 1))), .val (.ref t), .val (.int (Int32.ofNat i)), .val (.int (Int32.ofNat cs.length)), .val (.int (Int32.ofNat i)), .val (.int ch)]) rfl (pc' := 35) rfl ?_
      refine E_iinc X2 (y := (Int32.ofNat (i + 1))) d_compress5_35 o_add rfl (l' := #[.val (.ref b), .val (.int (Int32.ofNat (i + 1))), .val (.ref t), .val (.int (Int32.ofNat (i + 1))), .val (.int (Int32.ofNat cs.length)), .val (.int (Int32.ofNat i)), .val (.int ch)]) rfl (pc' := 38) rfl ?_
      refine E_iinc X2 (y := (Int32.ofNat (i + 1))) d_compress5_38 o_add rfl (l' := #[.val (.ref b), .val (.int (Int32.ofNat (i + 1))), .val (.ref t), .val (.int (Int32.ofNat (i + 1))), .val (.int (Int32.ofNat cs.length)), .val (.int (Int32.ofNat (i + 1))), .val (.int ch)]) rfl (pc' := 41) rfl ?_
      refine E_goto X2 d_compress5_41 (pc' := 3) (by decide) rfl ?_
      have hV2 : Arv Z T1.heap t kb .byte (Int32.ofNat cs.length) ((cs.take (i + 1)).map lo8) (.int (0 : Int32)) := by rw [own_take lo8 hlt, ← hch]; exact V7
      have hall2 := own_all hlt hch hall hc
      exact ih (i + 1) (.val (.int ch)) X2 (by omega) (Or.inr ⟨_, rfl, rfl⟩) hlen Arv_6 hV2 hbt gt KK5 hall2
set_option maxRecDepth 65536 in
set_option maxHeartbeats 40000000 in
theorem ct_compress5 (l : Launch) (Z : State) (a0 : Array Value) (hw : ∀ d ∈ tables_1, d.before a0 Z = true) (G1 : Int32) (G3 : Value) (OS : Sts Z G1 G3) (hEL : EW Z a0 EL) (hSA : ∀ a ∈ Bundle.stringAtoms, a.before a0 Z = true) (b t : Addr) (kC kb : ClassId) (cs : List Int32) (dv : Value) {h0 : Heap} (O : Ext Z.heap h0) (hlen : cs.length ≤ 4000) (V0 : Arv Z h0 b kC .char (Int32.ofNat cs.length) (cs.map Value.int) dv) (D0 : Arv Z h0 t kb .byte (Int32.ofNat cs.length) ([]) (.int (0 : Int32))) (hbt : b ≠ t) (gt : Z.heap.size ≤ t) : Ct l Z (⟨"java/lang/StringUTF16", "compress", "([CI[BII)I"⟩ : MethodName) jdk_52_method_21_code 7 (some .int) rm_compress5 #[(.ref b), (.int (0 : Int32)), (.ref t), (.int (0 : Int32)), (.int (Int32.ofNat cs.length))] h0 (Q_compress5 Z b t kC kb cs dv h0) := by
  refine Ct.of_body (Ls := #[.val (.ref b), .val (.int (0 : Int32)), .val (.ref t), .val (.int (0 : Int32)), .val (.int (Int32.ofNat cs.length)), .unset, .unset]) (by decide +kernel) O (fun m => by first | rfl | (simp [entryFrame, mkF, argsToLocals, Value.category]; done) | (rcases ref_cases (Sts.ref OS) with rfl | ⟨r, rfl⟩ <;> rfl)) ?_
  intro p e s m below meth c T0 X0 e0
  subst e0
  refine E_iconst X0 (v := (0 : Int32)) d_compress5_0 rfl (pc' := 1) rfl ?_
  refine E_istore X0 d_compress5_1 (l' := #[.val (.ref b), .val (.int (0 : Int32)), .val (.ref t), .val (.int (0 : Int32)), .val (.int (Int32.ofNat cs.length)), .val (.int (0 : Int32)), .unset]) rfl (pc' := 3) rfl ?_
  exact lp_compress5 l Z a0 hw G1 G3 OS hEL hSA b t kC kb cs dv cs.length 0 .unset X0 (by omega) (Or.inl rfl) hlen V0 D0 hbt gt (Keep.refl _ _) (fun c hc => by simp at hc)
theorem d_cfl_0 : decode jdk_52_method_15_code 0 = .ok (.iload_n 1, 1) := by decide +kernel
theorem d_cfl_1 : decode jdk_52_method_15_code 1 = .ok (.aload_n 0, 1) := by decide +kernel
theorem d_cfl_2 : decode jdk_52_method_15_code 2 = .ok (.arraylength, 1) := by decide +kernel
theorem d_cfl_3 : decode jdk_52_method_15_code 3 = .ok (.isub, 1) := by decide +kernel
theorem d_cfl_4 : decode jdk_52_method_15_code 4 = .ok (.bipush 31, 2) := by decide +kernel
theorem d_cfl_6 : decode jdk_52_method_15_code 6 = .ok (.iushr, 1) := by decide +kernel
theorem d_cfl_7 : decode jdk_52_method_15_code 7 = .ok (.i2b, 1) := by decide +kernel
theorem d_cfl_8 : decode jdk_52_method_15_code 8 = .ok (.ireturn, 1) := by decide +kernel
abbrev rm_cfl : Room := ({ frames := 0, cells := 0, slots := 0, locals := 0 } : Room)
def Q_cfl (Z : State) (t : Addr) (kb : ClassId) (N n z : Int32) (vs : List Value) (h0 : Heap) (v : Option Value) (h : Heap) : Prop := v = some (.int z) ∧ h = h0
set_option maxRecDepth 65536 in
set_option maxHeartbeats 40000000 in
theorem ct_cfl (l : Launch) (Z : State) (a0 : Array Value) (hw : ∀ d ∈ tables_1, d.before a0 Z = true) (G1 : Int32) (G3 : Value) (OS : Sts Z G1 G3) (hEL : EW Z a0 EL) (hSA : ∀ a ∈ Bundle.stringAtoms, a.before a0 Z = true) (t : Addr) (kb : ClassId) (N n z : Int32) (vs : List Value) {h0 : Heap} (O : Ext Z.heap h0) (V0 : Arv Z h0 t kb .byte N vs (.int (0 : Int32))) (hz : nar .byte ((((n - N).toUInt32 >>> ((31 : Int32) &&& 31).toUInt32).toInt32).toInt8.toInt32) = z) : Ct l Z (⟨"java/lang/StringUTF16", "coderFromArrayLen", "([BI)B"⟩ : MethodName) jdk_52_method_15_code 2 (some .byte) rm_cfl #[(.ref t), (.int n)] h0 (Q_cfl Z t kb N n z vs h0) := by
  refine Ct.of_body (Ls := #[.val (.ref t), .val (.int n)]) (by decide +kernel) O (fun m => by first | rfl | (simp [entryFrame, mkF, argsToLocals, Value.category]; done) | (rcases ref_cases (Sts.ref OS) with rfl | ⟨r, rfl⟩ <;> rfl)) ?_
  intro p e s m below meth c T0 X0 e0
  subst e0
  refine E_iloadN X0 d_cfl_0 rfl (pc' := 1) rfl ?_
  refine E_aloadN X0 d_cfl_1 rfl rfl (pc' := 2) rfl ?_
  refine E_arraylength X0 d_cfl_2 V0 (pc' := 3) rfl ?_
  refine E_isub X0 d_cfl_3 rfl (pc' := 4) rfl ?_
  refine E_bipush X0 (v := (31 : Int32)) d_cfl_4 rfl (pc' := 6) rfl ?_
  refine E_iushr X0 d_cfl_6 rfl (pc' := 7) rfl ?_
  refine E_i2b X0 d_cfl_7 rfl (pc' := 8) rfl ?_
  exact E_ireturnN X0 (t := .byte) d_cfl_8 rfl (by simp) (by decide) (by decide) (⟨by rw [hz], rfl⟩)
theorem d_compress3_0 : decode jdk_52_method_16_code 0 = .ok (.iload_n 2, 1) := by decide +kernel
theorem d_compress3_1 : decode jdk_52_method_16_code 1 = .ok (.newarray .byte, 2) := by decide +kernel
theorem d_compress3_3 : decode jdk_52_method_16_code 3 = .ok (.astore_n 3, 1) := by decide +kernel
theorem d_compress3_4 : decode jdk_52_method_16_code 4 = .ok (.aload_n 0, 1) := by decide +kernel
theorem d_compress3_5 : decode jdk_52_method_16_code 5 = .ok (.iload_n 1, 1) := by decide +kernel
theorem d_compress3_6 : decode jdk_52_method_16_code 6 = .ok (.aload_n 3, 1) := by decide +kernel
theorem d_compress3_7 : decode jdk_52_method_16_code 7 = .ok (.iconst 0, 1) := by decide +kernel
theorem d_compress3_8 : decode jdk_52_method_16_code 8 = .ok (.iload_n 2, 1) := by decide +kernel
theorem d_compress3_9 : decode jdk_52_method_16_code 9 = .ok (.invokestatic 115, 3) := by decide +kernel
theorem d_compress3_12 : decode jdk_52_method_16_code 12 = .ok (.istore 4, 2) := by decide +kernel
theorem d_compress3_14 : decode jdk_52_method_16_code 14 = .ok (.iload 4, 2) := by decide +kernel
theorem d_compress3_16 : decode jdk_52_method_16_code 16 = .ok (.iload_n 2, 1) := by decide +kernel
theorem d_compress3_17 : decode jdk_52_method_16_code 17 = .ok (.if_icmp .eq 40, 3) := by decide +kernel
theorem d_compress3_57 : decode jdk_52_method_16_code 57 = .ok (.aload_n 3, 1) := by decide +kernel
theorem d_compress3_58 : decode jdk_52_method_16_code 58 = .ok (.areturn, 1) := by decide +kernel
abbrev rm_compress3 : Room := ({ frames := 1, cells := 1, slots := 9, locals := 18 } : Room)
def Q_compress3 (Z : State) (b : Addr) (kC : ClassId) (cs : List Int32) (dv : Value) (h0 : Heap) (v : Option Value) (h : Heap) : Prop := ∃ t kb, v = some (.ref t) ∧ Keep h0 h [] ∧ h0.size ≤ t ∧ ((∀ c ∈ cs, ¬ (255 : Int32) < c) ∧ Arv Z h t kb .byte (Int32.ofNat cs.length) (cs.map lo8) (.int (0 : Int32)))
set_option maxRecDepth 65536 in
set_option maxHeartbeats 40000000 in
theorem ct_compress3 (l : Launch) (Z : State) (a0 : Array Value) (hw : ∀ d ∈ tables_1, d.before a0 Z = true) (G1 : Int32) (G3 : Value) (OS : Sts Z G1 G3) (hEL : EW Z a0 EL) (hSA : ∀ a ∈ Bundle.stringAtoms, a.before a0 Z = true) (b : Addr) (kC : ClassId) (cs : List Int32) (dv : Value) {h0 : Heap} (O : Ext Z.heap h0) (hmx : cs.length ≤ 9) (hmx4 : cs.length ≤ 4000) (hp : ∀ c ∈ cs, ¬ (255 : Int32) < c) (V0 : Arv Z h0 b kC .char (Int32.ofNat cs.length) (cs.map Value.int) dv) : Ct l Z (⟨"java/lang/StringUTF16", "compress", "([CII)[B"⟩ : MethodName) jdk_52_method_16_code 6 (some (.array .byte)) rm_compress3 #[(.ref b), (.int (0 : Int32)), (.int (Int32.ofNat cs.length))] h0 (Q_compress3 Z b kC cs dv h0) := by
  refine Ct.of_body (Ls := #[.val (.ref b), .val (.int (0 : Int32)), .val (.int (Int32.ofNat cs.length)), .unset, .unset, .unset]) (by decide +kernel) O (fun m => by first | rfl | (simp [entryFrame, mkF, argsToLocals, Value.category]; done) | (rcases ref_cases (Sts.ref OS) with rfl | ⟨r, rfl⟩ <;> rfl)) ?_
  intro p e s m below meth c T0 X0 e0
  subst e0
  have K00 := Keep.refl T0.heap []
  refine E_iloadN X0 d_compress3_0 rfl (pc' := 1) rfl ?_
  refine E_newarray X0 9 d_compress3_1 (hw _ (List.mem_of_getElem? (i := 23) rfl)) (o_nn (by omega)) (by rw [o_cl (by omega)]; exact hmx) (by decide) (by decide) (by decide) (pc' := 3) rfl ?_
  intro T1 b3 k7 X2 hb4 K5 V6
  have sz8 : T0.heap.size ≤ b3 := Nat.le_trans K00.1 (Nat.le_of_eq hb4.symm)
  have ne9 : b ≠ b3 := Nat.ne_of_lt (Nat.lt_of_lt_of_eq V0.lt hb4.symm)
  have KK10 := K00.trans K5 (fun x q => nomatch q)
  have Arv_11 := V0.keep K5 nin0
  have g12 : Z.heap.size ≤ b3 := Nat.le_trans X0.le (Nat.le_of_eq hb4.symm)
  have V13 : Arv Z T1.heap b3 k7 .byte (Int32.ofNat cs.length) [] (.int (0 : Int32)) := V6
  refine E_astoreN X2 d_compress3_3 rfl (l' := #[.val (.ref b), .val (.int (0 : Int32)), .val (.int (Int32.ofNat cs.length)), .val (.ref b3), .unset, .unset]) rfl (pc' := 4) rfl ?_
  refine E_aloadN X2 d_compress3_4 rfl rfl (pc' := 5) rfl ?_
  refine E_iloadN X2 d_compress3_5 rfl (pc' := 6) rfl ?_
  refine E_aloadN X2 d_compress3_6 rfl rfl (pc' := 7) rfl ?_
  refine E_iconst X2 (v := (0 : Int32)) d_compress3_7 rfl (pc' := 8) rfl ?_
  refine E_iloadN X2 d_compress3_8 rfl (pc' := 9) rfl ?_
  refine E_static X2 (rm := rm_compress5) d_compress3_9 (hw _ (List.mem_of_getElem? (i := 24) rfl)) (hw _ (List.mem_of_getElem? (i := 25) rfl)) (hw _ (List.mem_of_getElem? (i := 21) rfl)) (hw _ (List.mem_of_getElem? (i := 26) rfl)) (by decide) (argsL := [(.ref b), (.int (0 : Int32)), (.ref b3), (.int (0 : Int32)), (.int (Int32.ofNat cs.length))]) (st := []) rfl (ct_compress5 l Z a0 hw G1 G3 OS hEL hSA b b3 kC k7 cs dv X2.old hmx4 Arv_11 V13 ne9 g12) (lenOf (pd_0) rfl) rfl (by decide) (by decide) (by decide) (Nat.le_of_ble_eq_true rfl)  (pc' := 12) rfl ?_
  intro T14 _ X15 hQ16
  obtain ⟨K17, hor⟩ := hQ16
  have KK18 := KK10.trans K17 (allS (Or.inr sz8) (fun x q => nomatch q))
  have Arv_19 := Arv_11.keep K17 (ninS ne9 nin0)
  rcases hor with ⟨rfl, hall, VB⟩ | ⟨j, hj, rfl, hbig⟩
  · skip
    show Ends p e below s Z _ _ _ T14 (mkF m 12 #[.val (.ref b), .val (.int (0 : Int32)), .val (.int (Int32.ofNat cs.length)), .val (.ref b3), .unset, .unset] [(.int (Int32.ofNat cs.length))])
    refine E_istore X15 d_compress3_12 (l' := #[.val (.ref b), .val (.int (0 : Int32)), .val (.int (Int32.ofNat cs.length)), .val (.ref b3), .val (.int (Int32.ofNat cs.length)), .unset]) rfl (pc' := 14) rfl ?_
    refine E_iload X15 d_compress3_14 rfl (pc' := 16) rfl ?_
    refine E_iloadN X15 d_compress3_16 rfl (pc' := 17) rfl ?_
    refine E_icT X15 d_compress3_17 (XT.ii_eq_t rfl) (pc' := 57) (by decide) rfl ?_
    refine E_aloadN X15 d_compress3_57 rfl rfl (pc' := 58) rfl ?_
    exact E_areturn X15 (t := (.array .byte)) d_compress3_58 rfl rfl rfl rfl (by decide) (by decide) (⟨b3, k7, rfl, KK18, sz8, ⟨hall, VB⟩⟩)
  · skip
    exact absurd hbig (hp _ (own_mem hj))
theorem d_init4_0 : decode jdk_42_method_149_code 0 = .ok (.aload_n 0, 1) := by decide +kernel
theorem d_init4_1 : decode jdk_42_method_149_code 1 = .ok (.invokespecial 1, 3) := by decide +kernel
theorem d_init4_4 : decode jdk_42_method_149_code 4 = .ok (.iload_n 3, 1) := by decide +kernel
theorem d_init4_5 : decode jdk_42_method_149_code 5 = .ok (.ifCond .ne 22, 3) := by decide +kernel
theorem d_init4_27 : decode jdk_42_method_149_code 27 = .ok (.getstatic 38, 3) := by decide +kernel
theorem d_init4_30 : decode jdk_42_method_149_code 30 = .ok (.ifCond .eq 28, 3) := by decide +kernel
theorem d_init4_33 : decode jdk_42_method_149_code 33 = .ok (.aload_n 1, 1) := by decide +kernel
theorem d_init4_34 : decode jdk_42_method_149_code 34 = .ok (.iload_n 2, 1) := by decide +kernel
theorem d_init4_35 : decode jdk_42_method_149_code 35 = .ok (.iload_n 3, 1) := by decide +kernel
theorem d_init4_36 : decode jdk_42_method_149_code 36 = .ok (.invokestatic 177, 3) := by decide +kernel
theorem d_init4_39 : decode jdk_42_method_149_code 39 = .ok (.astore 5, 2) := by decide +kernel
theorem d_init4_41 : decode jdk_42_method_149_code 41 = .ok (.aload_n 0, 1) := by decide +kernel
theorem d_init4_42 : decode jdk_42_method_149_code 42 = .ok (.aload 5, 2) := by decide +kernel
theorem d_init4_44 : decode jdk_42_method_149_code 44 = .ok (.iload_n 3, 1) := by decide +kernel
theorem d_init4_45 : decode jdk_42_method_149_code 45 = .ok (.invokestatic 47, 3) := by decide +kernel
theorem d_init4_48 : decode jdk_42_method_149_code 48 = .ok (.putfield 15, 3) := by decide +kernel
theorem d_init4_51 : decode jdk_42_method_149_code 51 = .ok (.aload_n 0, 1) := by decide +kernel
theorem d_init4_52 : decode jdk_42_method_149_code 52 = .ok (.aload 5, 2) := by decide +kernel
theorem d_init4_54 : decode jdk_42_method_149_code 54 = .ok (.putfield 9, 3) := by decide +kernel
theorem d_init4_57 : decode jdk_42_method_149_code 57 = .ok (.return_, 1) := by decide +kernel
abbrev rm_init4 : Room := ({ frames := 2, cells := 1, slots := 9, locals := 35 } : Room)
def Q_init4 (Z : State) (x b : Addr) (kC : ClassId) (cs : List Int32) (dv v0 c0 : Value) (h0 : Heap) (v : Option Value) (h : Heap) : Prop := v = none ∧ Keep h0 h [x] ∧ ∃ t, h0.size ≤ t ∧ OStr Z h x t cs
set_option maxRecDepth 65536 in
set_option maxHeartbeats 40000000 in
theorem ct_init4 (l : Launch) (Z : State) (a0 : Array Value) (hw : ∀ d ∈ tables_1, d.before a0 Z = true) (G1 : Int32) (G3 : Value) (OS : Sts Z G1 G3) (hEL : EW Z a0 EL) (hSA : ∀ a ∈ Bundle.stringAtoms, a.before a0 Z = true) (x b : Addr) (kC : ClassId) (cs : List Int32) (dv v0 c0 : Value) {h0 : Heap} (O : Ext Z.heap h0) (h0l : 0 < cs.length) (hmx : cs.length ≤ 9) (hp : ∀ c ∈ cs, ¬ c < 0 ∧ ¬ (255 : Int32) < c) (E0 : Exa Z h0 x "java/lang/String") (F0 : Fld Z h0 x "java/lang/String" "value" "[B" v0) (C0 : Fld Z h0 x "java/lang/String" "coder" "B" c0) (gx : Z.heap.size ≤ x) (V0 : Arv Z h0 b kC .char (Int32.ofNat cs.length) (cs.map Value.int) dv) : Ct l Z (⟨"java/lang/String", "<init>", "([CIILjava/lang/Void;)V"⟩ : MethodName) jdk_42_method_149_code 6 none rm_init4 #[(.ref x), (.ref b), (.int (0 : Int32)), (.int (Int32.ofNat cs.length)), .null] h0 (Q_init4 Z x b kC cs dv v0 c0 h0) := by
  refine Ct.of_body (Ls := #[.val (.ref x), .val (.ref b), .val (.int (0 : Int32)), .val (.int (Int32.ofNat cs.length)), .val .null, .unset]) (by decide +kernel) O (fun m => by first | rfl | (simp [entryFrame, mkF, argsToLocals, Value.category]; done) | (rcases ref_cases (Sts.ref OS) with rfl | ⟨r, rfl⟩ <;> rfl)) ?_
  intro p e s m below meth c T0 X0 e0
  subst e0
  have hmx4 : cs.length ≤ 4000 := by omega
  have hxb : b ≠ x := fun q => by subst q; exact absurd rfl (ne_arr E0 (hw _ (List.mem_of_getElem? (i := 6) rfl)) (V0.choose_spec.1))
  have K00 := Keep.refl T0.heap [x]
  refine E_aloadN X0 d_init4_0 rfl rfl (pc' := 1) rfl ?_
  refine E_initO X0 d_init4_1 (hw _ (List.mem_of_getElem? (i := 15) rfl)) (hw _ (List.mem_of_getElem? (i := 16) rfl)) (hw _ (List.mem_of_getElem? (i := 17) rfl)) rfl (by decide) (Nat.le_of_ble_eq_true rfl) (pc' := 4) rfl ?_
  intro T1 X2 e3
  have KK4 := own_keq K00 e3
  rw [← e3] at E0 F0 C0 V0
  refine E_iloadN X2 d_init4_4 rfl (pc' := 5) rfl ?_
  refine E_ifT X2 d_init4_5 (XT.i0_ne_t (fun q => by have q2 := congrArg Int32.toInt q; rw [o_int (by omega)] at q2; have o1 : (0 : Int32).toInt = 0 := rfl; omega)) (pc' := 27) (by decide) rfl ?_
  refine E_getstatic X2 d_init4_27 (hw _ (List.mem_of_getElem? (i := 18) rfl)) Via.refl OS.1 (pc' := 30) rfl ?_
  intro T5 X6 e7
  have KK8 := own_keq KK4 e7
  rw [← e7] at E0 F0 C0 V0
  refine E_ifF X6 d_init4_30 (XT.i0_eq_f OS.2.1) (pc' := 33) rfl ?_
  refine E_aloadN X6 d_init4_33 rfl rfl (pc' := 34) rfl ?_
  refine E_iloadN X6 d_init4_34 rfl (pc' := 35) rfl ?_
  refine E_iloadN X6 d_init4_35 rfl (pc' := 36) rfl ?_
  refine E_static X6 (rm := rm_compress3) d_init4_36 (hw _ (List.mem_of_getElem? (i := 19) rfl)) (hw _ (List.mem_of_getElem? (i := 20) rfl)) (hw _ (List.mem_of_getElem? (i := 21) rfl)) (hw _ (List.mem_of_getElem? (i := 22) rfl)) (by decide) (argsL := [(.ref b), (.int (0 : Int32)), (.int (Int32.ofNat cs.length))]) (st := []) rfl (ct_compress3 l Z a0 hw G1 G3 OS hEL hSA b kC cs dv X6.old hmx hmx4 (fun c hc => (hp c hc).2) V0) (lenOf (pd_1) rfl) rfl (by decide) (by decide) (by decide) (Nat.le_of_ble_eq_true rfl)  (pc' := 39) rfl ?_
  intro T9 _ X10 hQ11
  obtain ⟨t, kb, rfl, K12, szt0, hVT⟩ := hQ11
  have hxt : t ≠ x := Ne.symm (Nat.ne_of_lt (Nat.lt_of_lt_of_le E0.lt szt0))
  have KK13 := KK8.trans K12 (fun x q => nomatch q)
  have Exa_14 := E0.keep K12
  have Fld_15 := F0.keep K12 nin0
  have Fld_16 := C0.keep K12 nin0
  have Arv_17 := V0.keep K12 nin0
  have szt : T0.heap.size ≤ t := Nat.le_trans KK8.1 szt0
  obtain ⟨hall, VT⟩ := hVT
  show Ends p e below s Z _ _ _ T9 (mkF m 39 #[.val (.ref x), .val (.ref b), .val (.int (0 : Int32)), .val (.int (Int32.ofNat cs.length)), .val .null, .unset] [(.ref t)])
  refine E_astore X10 d_init4_39 rfl (l' := #[.val (.ref x), .val (.ref b), .val (.int (0 : Int32)), .val (.int (Int32.ofNat cs.length)), .val .null, .val (.ref t)]) rfl (pc' := 41) rfl ?_
  refine E_aloadN X10 d_init4_41 rfl rfl (pc' := 42) rfl ?_
  refine E_aload X10 d_init4_42 rfl rfl (pc' := 44) rfl ?_
  refine E_iloadN X10 d_init4_44 rfl (pc' := 45) rfl ?_
  refine E_static X10 (rm := rm_cfl) d_init4_45 (hw _ (List.mem_of_getElem? (i := 27) rfl)) (hw _ (List.mem_of_getElem? (i := 28) rfl)) (hw _ (List.mem_of_getElem? (i := 21) rfl)) (hw _ (List.mem_of_getElem? (i := 29) rfl)) (by decide) (argsL := [(.ref t), (.int (Int32.ofNat cs.length))]) (st := [(.ref x)]) rfl (ct_cfl l Z a0 hw G1 G3 OS hEL hSA t kb (Int32.ofNat cs.length) (Int32.ofNat cs.length) 0 (cs.map lo8) X10.old VT (by rw [Int32.sub_self]; rfl)) (lenOf (pd_2) rfl) rfl (by decide) (by decide) (by decide) (Nat.le_of_ble_eq_true rfl)  (pc' := 48) rfl ?_
  intro T18 _ X19 hQ20
  obtain ⟨rfl, e21⟩ := hQ20
  have KK22 := own_keq KK13 e21
  rw [← e21] at Exa_14 Fld_15 Fld_16 Arv_17 VT
  show Ends p e below s Z _ _ _ T18 (mkF m 48 #[.val (.ref x), .val (.ref b), .val (.int (0 : Int32)), .val (.int (Int32.ofNat cs.length)), .val .null, .val (.ref t)] [(.int (0 : Int32)), (.ref x)])
  refine E_putfield X19 (ty := .byte) d_init4_48 (hw _ (List.mem_of_getElem? (i := 30) rfl)) Via.refl Fld_16 Exa_14 (Or.inr ⟨(hw _ (List.mem_of_getElem? (i := 31) rfl)), rfl, rfl⟩) (hw _ (List.mem_of_getElem? (i := 6) rfl)) (by decide) rfl rfl gx  (pc' := 51) rfl ?_
  intro T23 X24 W25
  have K26 := Keep.of_wr W25
  have KK27 := KK22.trans K26 (allS (Or.inl (by simp)) (fun x q => nomatch q))
  have Exa_28 := Exa_14.keep K26
  have Arv_29 := Arv_17.keep K26 (ninS hxb nin0)
  have Arv_30 := VT.keep K26 (ninS hxt nin0)
  have F31 := Fld_16.same W25
  have F32 := Fld_15.other W25 (Or.inr (slot_ne (Or.inr (hw _ (List.mem_of_getElem? (i := 33) rfl))) (Or.inr (hw _ (List.mem_of_getElem? (i := 31) rfl))) (by decide) (t := (.array .byte)) (t' := .byte) (by decide) (by decide)))
  refine E_aloadN X24 d_init4_51 rfl rfl (pc' := 52) rfl ?_
  refine E_aload X24 d_init4_52 rfl rfl (pc' := 54) rfl ?_
  refine E_putfield X24 (ty := (.array .byte)) d_init4_54 (hw _ (List.mem_of_getElem? (i := 32) rfl)) Via.refl F32 Exa_28 (Or.inr ⟨(hw _ (List.mem_of_getElem? (i := 33) rfl)), rfl, rfl⟩) (hw _ (List.mem_of_getElem? (i := 6) rfl)) (by decide) rfl rfl gx  (pc' := 57) rfl ?_
  intro T33 X34 W35
  have K36 := Keep.of_wr W35
  have KK37 := KK27.trans K36 (allS (Or.inl (by simp)) (fun x q => nomatch q))
  have Exa_38 := Exa_28.keep K36
  have Arv_39 := Arv_29.keep K36 (ninS hxb nin0)
  have Arv_40 := Arv_30.keep K36 (ninS hxt nin0)
  have F41 := F32.same W35
  have F42 := F31.other W35 (Or.inr (slot_ne (Or.inr (hw _ (List.mem_of_getElem? (i := 31) rfl))) (Or.inr (hw _ (List.mem_of_getElem? (i := 33) rfl))) (by decide) (t := .byte) (t' := (.array .byte)) (by decide) (by decide)))
  exact E_return X34 d_init4_57 rfl (by decide) (by decide) (⟨rfl, KK37, t, szt, kb, _, _, _, Exa_38, F41, F42, Arv_40, ⟨rfl, rfl, rfl, hall⟩, fun c hc => ⟨(hp c hc).1, fun q => (hp c hc).2 (Int32.lt_trans (by decide) q)⟩, hmx4⟩)
theorem d_sinit_0 : decode jdk_42_method_3_code 0 = .ok (.aload_n 0, 1) := by decide +kernel
theorem d_sinit_1 : decode jdk_42_method_3_code 1 = .ok (.aload_n 1, 1) := by decide +kernel
theorem d_sinit_2 : decode jdk_42_method_3_code 2 = .ok (.iconst 0, 1) := by decide +kernel
theorem d_sinit_3 : decode jdk_42_method_3_code 3 = .ok (.aload_n 1, 1) := by decide +kernel
theorem d_sinit_4 : decode jdk_42_method_3_code 4 = .ok (.arraylength, 1) := by decide +kernel
theorem d_sinit_5 : decode jdk_42_method_3_code 5 = .ok (.aconst_null, 1) := by decide +kernel
theorem d_sinit_6 : decode jdk_42_method_3_code 6 = .ok (.invokespecial 27, 3) := by decide +kernel
theorem d_sinit_9 : decode jdk_42_method_3_code 9 = .ok (.return_, 1) := by decide +kernel
abbrev rm_sinit : Room := ({ frames := 3, cells := 1, slots := 9, locals := 52 } : Room)
def Q_sinit (Z : State) (x b : Addr) (kC : ClassId) (cs : List Int32) (dv v0 c0 : Value) (h0 : Heap) (v : Option Value) (h : Heap) : Prop := v = none ∧ Keep h0 h [x] ∧ ∃ t, h0.size ≤ t ∧ OStr Z h x t cs
set_option maxRecDepth 65536 in
set_option maxHeartbeats 40000000 in
theorem ct_sinit (l : Launch) (Z : State) (a0 : Array Value) (hw : ∀ d ∈ tables_1, d.before a0 Z = true) (G1 : Int32) (G3 : Value) (OS : Sts Z G1 G3) (hEL : EW Z a0 EL) (hSA : ∀ a ∈ Bundle.stringAtoms, a.before a0 Z = true) (x b : Addr) (kC : ClassId) (cs : List Int32) (dv v0 c0 : Value) {h0 : Heap} (O : Ext Z.heap h0) (h0l : 0 < cs.length) (hmx : cs.length ≤ 9) (hp : ∀ c ∈ cs, ¬ c < 0 ∧ ¬ (255 : Int32) < c) (E0 : Exa Z h0 x "java/lang/String") (F0 : Fld Z h0 x "java/lang/String" "value" "[B" v0) (C0 : Fld Z h0 x "java/lang/String" "coder" "B" c0) (gx : Z.heap.size ≤ x) (V0 : Arv Z h0 b kC .char (Int32.ofNat cs.length) (cs.map Value.int) dv) : Ct l Z (⟨"java/lang/String", "<init>", "([C)V"⟩ : MethodName) jdk_42_method_3_code 2 none rm_sinit #[(.ref x), (.ref b)] h0 (Q_sinit Z x b kC cs dv v0 c0 h0) := by
  refine Ct.of_body (Ls := #[.val (.ref x), .val (.ref b)]) (by decide +kernel) O (fun m => by first | rfl | (simp [entryFrame, mkF, argsToLocals, Value.category]; done) | (rcases ref_cases (Sts.ref OS) with rfl | ⟨r, rfl⟩ <;> rfl)) ?_
  intro p e s m below meth c T0 X0 e0
  subst e0
  refine E_aloadN X0 d_sinit_0 rfl rfl (pc' := 1) rfl ?_
  refine E_aloadN X0 d_sinit_1 rfl rfl (pc' := 2) rfl ?_
  refine E_iconst X0 (v := (0 : Int32)) d_sinit_2 rfl (pc' := 3) rfl ?_
  refine E_aloadN X0 d_sinit_3 rfl rfl (pc' := 4) rfl ?_
  refine E_arraylength X0 d_sinit_4 V0 (pc' := 5) rfl ?_
  refine E_aconstNull X0 d_sinit_5 (pc' := 6) rfl ?_
  refine E_special X0 (rm := rm_init4) (a := x) d_sinit_6 rfl rfl (hw _ (List.mem_of_getElem? (i := 11) rfl)) (hw _ (List.mem_of_getElem? (i := 12) rfl)) (hw _ (List.mem_of_getElem? (i := 14) rfl)) (by decide) (hw _ (List.mem_of_getElem? (i := 7) rfl)) (argsL := [(.ref b), (.int (0 : Int32)), (.int (Int32.ofNat cs.length)), .null]) (st := []) rfl (ct_init4 l Z a0 hw G1 G3 OS hEL hSA x b kC cs dv v0 c0 X0.old h0l hmx hp E0 F0 C0 gx V0) (lenOf (pd_3) rfl) rfl (by decide) (by decide) (by decide) (Nat.le_of_ble_eq_true rfl)  (pc' := 9) rfl ?_
  intro T1 _ X2 hQ3
  obtain ⟨rfl, KF, t, szt, SF⟩ := hQ3
  show Ends p e below s Z _ _ _ T1 (mkF m 9 #[.val (.ref x), .val (.ref b)] [])
  exact E_return X2 d_sinit_9 rfl (by decide) (by decide) (⟨rfl, KF, t, szt, SF⟩)
theorem OStr.inj {Z : State} {h : Heap} {x t t' : Addr} {cs ds : List Int32} (S : OStr Z h x t cs) (S' : OStr Z h x t' ds) : cs = ds := by
  obtain ⟨kb, cd, N, vs, E, F, C, ⟨c1, A1, -, s1, -, H1, -⟩, ⟨-, rfl, rfl, b1⟩, p1, l1⟩ := S
  obtain ⟨kb', cd', N', vs', E', F', C', ⟨c2, A2, -, s2, -, H2, -⟩, ⟨-, rfl, rfl, b2⟩, p2, l2⟩ := S'
  cases Fld.inj F F'
  cases A1.1.symm.trans A2.1
  rw [o_cl (by omega)] at s1 s2
  refine own_ext (by omega) fun i hi => ?_
  have q := (H1 i (by omega)).symm.trans (H2 i (by omega))
  have m1 := own_mem hi
  have m2 := own_mem (cs := ds) (i := i) (by omega)
  have g1 : (cs.map lo8).getD i (.int 0) = lo8 (cs.getD i 0) := by simp [List.getD_eq_getElem?_getD, hi]
  have g2 : (ds.map lo8).getD i (.int 0) = lo8 (ds.getD i 0) := by simp [List.getD_eq_getElem?_getD, show i < ds.length by omega]
  rw [g1, g2] at q
  exact lo8_inj (p1 _ m1).1 (b1 _ m1) (p2 _ m2).1 (b2 _ m2) (by simpa [lo8] using q)
theorem d_leq_0 : decode jdk_43_method_13_code 0 = .ok (.aload_n 0, 1) := by decide +kernel
theorem d_leq_1 : decode jdk_43_method_13_code 1 = .ok (.arraylength, 1) := by decide +kernel
theorem d_leq_2 : decode jdk_43_method_13_code 2 = .ok (.aload_n 1, 1) := by decide +kernel
theorem d_leq_3 : decode jdk_43_method_13_code 3 = .ok (.arraylength, 1) := by decide +kernel
theorem d_leq_4 : decode jdk_43_method_13_code 4 = .ok (.if_icmp .ne 30, 3) := by decide +kernel
theorem d_leq_7 : decode jdk_43_method_13_code 7 = .ok (.iconst 0, 1) := by decide +kernel
theorem d_leq_8 : decode jdk_43_method_13_code 8 = .ok (.istore_n 2, 1) := by decide +kernel
theorem d_leq_9 : decode jdk_43_method_13_code 9 = .ok (.iload_n 2, 1) := by decide +kernel
theorem d_leq_10 : decode jdk_43_method_13_code 10 = .ok (.aload_n 0, 1) := by decide +kernel
theorem d_leq_11 : decode jdk_43_method_13_code 11 = .ok (.arraylength, 1) := by decide +kernel
theorem d_leq_12 : decode jdk_43_method_13_code 12 = .ok (.if_icmp .ge 20, 3) := by decide +kernel
theorem d_leq_15 : decode jdk_43_method_13_code 15 = .ok (.aload_n 0, 1) := by decide +kernel
theorem d_leq_16 : decode jdk_43_method_13_code 16 = .ok (.iload_n 2, 1) := by decide +kernel
theorem d_leq_17 : decode jdk_43_method_13_code 17 = .ok (.baload, 1) := by decide +kernel
theorem d_leq_18 : decode jdk_43_method_13_code 18 = .ok (.aload_n 1, 1) := by decide +kernel
theorem d_leq_19 : decode jdk_43_method_13_code 19 = .ok (.iload_n 2, 1) := by decide +kernel
theorem d_leq_20 : decode jdk_43_method_13_code 20 = .ok (.baload, 1) := by decide +kernel
theorem d_leq_21 : decode jdk_43_method_13_code 21 = .ok (.if_icmp .eq 5, 3) := by decide +kernel
theorem d_leq_24 : decode jdk_43_method_13_code 24 = .ok (.iconst 0, 1) := by decide +kernel
theorem d_leq_25 : decode jdk_43_method_13_code 25 = .ok (.ireturn, 1) := by decide +kernel
theorem d_leq_26 : decode jdk_43_method_13_code 26 = .ok (.iinc 2 1, 3) := by decide +kernel
theorem d_leq_29 : decode jdk_43_method_13_code 29 = .ok (.goto (-20), 3) := by decide +kernel
theorem d_leq_32 : decode jdk_43_method_13_code 32 = .ok (.iconst 1, 1) := by decide +kernel
theorem d_leq_33 : decode jdk_43_method_13_code 33 = .ok (.ireturn, 1) := by decide +kernel
theorem d_leq_34 : decode jdk_43_method_13_code 34 = .ok (.iconst 0, 1) := by decide +kernel
theorem d_leq_35 : decode jdk_43_method_13_code 35 = .ok (.ireturn, 1) := by decide +kernel
abbrev rm_leq : Room := ({ frames := 0, cells := 0, slots := 0, locals := 0 } : Room)
def Q_leq (Z : State) (t u : Addr) (kb ku : ClassId) (cs ds : List Int32) (h0 : Heap) (v : Option Value) (h : Heap) : Prop := ∃ z, v = some (.int z) ∧ h = h0 ∧ (cs = ds → z = 1) ∧ (¬ cs = ds → z = 0)
set_option maxRecDepth 65536 in
set_option maxHeartbeats 40000000 in
theorem lp_leq (l : Launch) (Z : State) (a0 : Array Value) (hw : ∀ d ∈ tables_1, d.before a0 Z = true) (G1 : Int32) (G3 : Value) (OS : Sts Z G1 G3) (hEL : EW Z a0 EL) (hSA : ∀ a ∈ Bundle.stringAtoms, a.before a0 Z = true) (t u : Addr) (kb ku : ClassId) (cs ds : List Int32) {h0 : Heap} {p : Program} {e : Env} {s : State} {m : MethodId} {below : List Frame} {meth : Method} {c : Code} (k : Nat) : ∀ {T0 : State} (i : Nat), Wk l Z rm_leq jdk_43_method_13_code 3 (some .boolean) "java/lang/StringLatin1" "equals" p e s m #[(.ref t), (.ref u)] below meth c T0 0 0 → (i + k = cs.length) → (cs.length = ds.length) → (cs.length ≤ 4000) → (∀ c ∈ cs, ¬ c < 0 ∧ ¬ (255 : Int32) < c) → (∀ c ∈ ds, ¬ c < 0 ∧ ¬ (255 : Int32) < c) → (T0.heap = h0) → (Arv Z T0.heap t kb .byte (Int32.ofNat cs.length) (cs.map lo8) (.int (0 : Int32))) → (Arv Z T0.heap u ku .byte (Int32.ofNat ds.length) (ds.map lo8) (.int (0 : Int32))) → (∀ j, j < i → cs.getD j 0 = ds.getD j 0) → Ends p e below s Z (Q_leq Z t u kb ku cs ds h0) rm_leq.cells rm_leq.slots T0 (mkF m 9 #[.val (.ref t), .val (.ref u), .val (.int (Int32.ofNat i))] []) := by
  induction k with
  | zero =>
    intro T0 i X0 hi hl hl4 hc hd eh V0 U0 hpre
    have hik : i = cs.length := by omega
    subst hik
    refine E_iloadN X0 d_leq_9 rfl (pc' := 10) rfl ?_
    refine E_aloadN X0 d_leq_10 rfl rfl (pc' := 11) rfl ?_
    refine E_arraylength X0 d_leq_11 V0 (pc' := 12) rfl ?_
    refine E_icT X0 d_leq_12 (XT.ii_ge_t (o_nlt (Nat.le_refl _) (by omega))) (pc' := 32) (by decide) rfl ?_
    refine E_iconst X0 (v := (1 : Int32)) d_leq_32 rfl (pc' := 33) rfl ?_
    exact E_ireturnN X0 (t := .boolean) d_leq_33 rfl (by simp) (by decide) (by decide) (⟨_, rfl, eh, fun _ => rfl, fun q => absurd (own_ext hl hpre) q⟩)
  | succ k ih =>
    intro T0 i X0 hi hl hl4 hc hd eh V0 U0 hpre
    have hlt : i < cs.length := by omega
    have hlt2 : i < ds.length := by omega
    refine E_iloadN X0 d_leq_9 rfl (pc' := 10) rfl ?_
    refine E_aloadN X0 d_leq_10 rfl rfl (pc' := 11) rfl ?_
    refine E_arraylength X0 d_leq_11 V0 (pc' := 12) rfl ?_
    refine E_icF X0 d_leq_12 (XT.ii_ge_f (o_lt hlt (by omega))) (pc' := 15) rfl ?_
    refine E_aloadN X0 d_leq_15 rfl rfl (pc' := 16) rfl ?_
    refine E_iloadN X0 d_leq_16 rfl (pc' := 17) rfl ?_
    refine E_baload X0 (v := (.int (cs.getD i 0).toInt8.toInt32)) d_leq_17 V0 ⟨o_nn (by omega), o_lt hlt (by omega)⟩ (own_getD lo8 hlt (by omega)) (pc' := 18) rfl ?_
    refine E_aloadN X0 d_leq_18 rfl rfl (pc' := 19) rfl ?_
    refine E_iloadN X0 d_leq_19 rfl (pc' := 20) rfl ?_
    refine E_baload X0 (v := (.int (ds.getD i 0).toInt8.toInt32)) d_leq_20 U0 ⟨o_nn (by omega), o_lt hlt2 (by omega)⟩ (own_getD lo8 hlt2 (by omega)) (pc' := 21) rfl ?_
    by_cases h21 : (cs.getD i 0).toInt8.toInt32 = (ds.getD i 0).toInt8.toInt32
    · skip
      refine E_icT X0 d_leq_21 (XT.ii_eq_t h21) (pc' := 26) (by decide) rfl ?_
      refine E_iinc X0 (y := (Int32.ofNat (i + 1))) d_leq_26 o_add rfl (l' := #[.val (.ref t), .val (.ref u), .val (.int (Int32.ofNat (i + 1)))]) rfl (pc' := 29) rfl ?_
      refine E_goto X0 d_leq_29 (pc' := 9) (by decide) rfl ?_
      have hce := lo8_inj (hc _ (own_mem hlt)).1 (hc _ (own_mem hlt)).2 (hd _ (own_mem hlt2)).1 (hd _ (own_mem hlt2)).2 h21
      exact ih (i + 1) X0 (by omega) hl hl4 hc hd eh V0 U0 (fun j hj => by by_cases e : j = i; rw [e]; exact hce; exact hpre j (by omega))
    · skip
      refine E_icF X0 d_leq_21 (XT.ii_eq_f h21) (pc' := 24) rfl ?_
      refine E_iconst X0 (v := (0 : Int32)) d_leq_24 rfl (pc' := 25) rfl ?_
      exact E_ireturnN X0 (t := .boolean) d_leq_25 rfl (by simp) (by decide) (by decide) (⟨_, rfl, eh, fun q => absurd (by rw [q]) h21, fun _ => rfl⟩)
set_option maxRecDepth 65536 in
set_option maxHeartbeats 40000000 in
theorem ct_leq (l : Launch) (Z : State) (a0 : Array Value) (hw : ∀ d ∈ tables_1, d.before a0 Z = true) (G1 : Int32) (G3 : Value) (OS : Sts Z G1 G3) (hEL : EW Z a0 EL) (hSA : ∀ a ∈ Bundle.stringAtoms, a.before a0 Z = true) (t u : Addr) (kb ku : ClassId) (cs ds : List Int32) {h0 : Heap} (O : Ext Z.heap h0) (V0 : Arv Z h0 t kb .byte (Int32.ofNat cs.length) (cs.map lo8) (.int (0 : Int32))) (U0 : Arv Z h0 u ku .byte (Int32.ofNat ds.length) (ds.map lo8) (.int (0 : Int32))) (hc : ∀ c ∈ cs, ¬ c < 0 ∧ ¬ (255 : Int32) < c) (hd : ∀ c ∈ ds, ¬ c < 0 ∧ ¬ (255 : Int32) < c) (hl4 : cs.length ≤ 4000) (hl5 : ds.length ≤ 4000) : Ct l Z (⟨"java/lang/StringLatin1", "equals", "([B[B)Z"⟩ : MethodName) jdk_43_method_13_code 3 (some .boolean) rm_leq #[(.ref t), (.ref u)] h0 (Q_leq Z t u kb ku cs ds h0) := by
  refine Ct.of_body (Ls := #[.val (.ref t), .val (.ref u), .unset]) (by decide +kernel) O (fun m => by first | rfl | (simp [entryFrame, mkF, argsToLocals, Value.category]; done) | (rcases ref_cases (Sts.ref OS) with rfl | ⟨r, rfl⟩ <;> rfl)) ?_
  intro p e s m below meth c T0 X0 e0
  subst e0
  refine E_aloadN X0 d_leq_0 rfl rfl (pc' := 1) rfl ?_
  refine E_arraylength X0 d_leq_1 V0 (pc' := 2) rfl ?_
  refine E_aloadN X0 d_leq_2 rfl rfl (pc' := 3) rfl ?_
  refine E_arraylength X0 d_leq_3 U0 (pc' := 4) rfl ?_
  by_cases h4 : (Int32.ofNat cs.length) = (Int32.ofNat ds.length)
  · skip
    refine E_icF X0 d_leq_4 (XT.ii_ne_f h4) (pc' := 7) rfl ?_
    have hl : cs.length = ds.length := by have q := congrArg Int32.toInt h4; rw [o_int (by omega), o_int (by omega)] at q; omega
    refine E_iconst X0 (v := (0 : Int32)) d_leq_7 rfl (pc' := 8) rfl ?_
    refine E_istoreN X0 d_leq_8 (l' := #[.val (.ref t), .val (.ref u), .val (.int (0 : Int32))]) rfl (pc' := 9) rfl ?_
    exact lp_leq l Z a0 hw G1 G3 OS hEL hSA t u kb ku cs ds cs.length 0 X0 (by omega) hl hl4 hc hd rfl V0 U0 (fun j hj => absurd hj (Nat.not_lt_zero _))
  · skip
    refine E_icT X0 d_leq_4 (XT.ii_ne_t h4) (pc' := 34) (by decide) rfl ?_
    have hl : ¬ cs.length = ds.length := fun q => h4 (by rw [q])
    refine E_iconst X0 (v := (0 : Int32)) d_leq_34 rfl (pc' := 35) rfl ?_
    exact E_ireturnN X0 (t := .boolean) d_leq_35 rfl (by simp) (by decide) (by decide) (⟨_, rfl, rfl, fun q => absurd (by rw [q]) hl, fun _ => rfl⟩)
theorem d_seq_0 : decode jdk_42_method_66_code 0 = .ok (.aload_n 0, 1) := by decide +kernel
theorem d_seq_1 : decode jdk_42_method_66_code 1 = .ok (.aload_n 1, 1) := by decide +kernel
theorem d_seq_2 : decode jdk_42_method_66_code 2 = .ok (.if_acmp .ne 5, 3) := by decide +kernel
theorem d_seq_5 : decode jdk_42_method_66_code 5 = .ok (.iconst 1, 1) := by decide +kernel
theorem d_seq_6 : decode jdk_42_method_66_code 6 = .ok (.ireturn, 1) := by decide +kernel
theorem d_seq_7 : decode jdk_42_method_66_code 7 = .ok (.aload_n 1, 1) := by decide +kernel
theorem d_seq_8 : decode jdk_42_method_66_code 8 = .ok (.instanceof 10, 3) := by decide +kernel
theorem d_seq_11 : decode jdk_42_method_66_code 11 = .ok (.ifCond .eq 43, 3) := by decide +kernel
theorem d_seq_14 : decode jdk_42_method_66_code 14 = .ok (.aload_n 1, 1) := by decide +kernel
theorem d_seq_15 : decode jdk_42_method_66_code 15 = .ok (.checkcast 10, 3) := by decide +kernel
theorem d_seq_18 : decode jdk_42_method_66_code 18 = .ok (.astore_n 2, 1) := by decide +kernel
theorem d_seq_19 : decode jdk_42_method_66_code 19 = .ok (.getstatic 38, 3) := by decide +kernel
theorem d_seq_22 : decode jdk_42_method_66_code 22 = .ok (.ifCond .eq 14, 3) := by decide +kernel
theorem d_seq_25 : decode jdk_42_method_66_code 25 = .ok (.aload_n 0, 1) := by decide +kernel
theorem d_seq_26 : decode jdk_42_method_66_code 26 = .ok (.getfield 15, 3) := by decide +kernel
theorem d_seq_29 : decode jdk_42_method_66_code 29 = .ok (.aload_n 2, 1) := by decide +kernel
theorem d_seq_30 : decode jdk_42_method_66_code 30 = .ok (.getfield 15, 3) := by decide +kernel
theorem d_seq_33 : decode jdk_42_method_66_code 33 = .ok (.if_icmp .ne 21, 3) := by decide +kernel
theorem d_seq_36 : decode jdk_42_method_66_code 36 = .ok (.aload_n 0, 1) := by decide +kernel
theorem d_seq_37 : decode jdk_42_method_66_code 37 = .ok (.getfield 9, 3) := by decide +kernel
theorem d_seq_40 : decode jdk_42_method_66_code 40 = .ok (.aload_n 2, 1) := by decide +kernel
theorem d_seq_41 : decode jdk_42_method_66_code 41 = .ok (.getfield 9, 3) := by decide +kernel
theorem d_seq_44 : decode jdk_42_method_66_code 44 = .ok (.invokestatic 541, 3) := by decide +kernel
theorem d_seq_47 : decode jdk_42_method_66_code 47 = .ok (.ifCond .eq 7, 3) := by decide +kernel
theorem d_seq_50 : decode jdk_42_method_66_code 50 = .ok (.iconst 1, 1) := by decide +kernel
theorem d_seq_51 : decode jdk_42_method_66_code 51 = .ok (.goto 4, 3) := by decide +kernel
theorem d_seq_54 : decode jdk_42_method_66_code 54 = .ok (.iconst 0, 1) := by decide +kernel
theorem d_seq_55 : decode jdk_42_method_66_code 55 = .ok (.ireturn, 1) := by decide +kernel
abbrev rm_seq : Room := ({ frames := 1, cells := 0, slots := 0, locals := 14 } : Room)
def Q_seq (Z : State) (x y t u : Addr) (cs ds : List Int32) (h0 : Heap) (v : Option Value) (h : Heap) : Prop := ∃ z, v = some (.int z) ∧ h = h0 ∧ (cs = ds → z = 1) ∧ (¬ cs = ds → z = 0)
set_option maxRecDepth 65536 in
set_option maxHeartbeats 40000000 in
theorem ct_seq (l : Launch) (Z : State) (a0 : Array Value) (hw : ∀ d ∈ tables_1, d.before a0 Z = true) (G1 : Int32) (G3 : Value) (OS : Sts Z G1 G3) (hEL : EW Z a0 EL) (hSA : ∀ a ∈ Bundle.stringAtoms, a.before a0 Z = true) (x y t u : Addr) (cs ds : List Int32) {h0 : Heap} (O : Ext Z.heap h0) (S0 : OStr Z h0 x t cs) (S1 : OStr Z h0 y u ds) : Ct l Z (⟨"java/lang/String", "equals", "(Ljava/lang/Object;)Z"⟩ : MethodName) jdk_42_method_66_code 3 (some .boolean) rm_seq #[(.ref x), (.ref y)] h0 (Q_seq Z x y t u cs ds h0) := by
  refine Ct.of_body (Ls := #[.val (.ref x), .val (.ref y), .unset]) (by decide +kernel) O (fun m => by first | rfl | (simp [entryFrame, mkF, argsToLocals, Value.category]; done) | (rcases ref_cases (Sts.ref OS) with rfl | ⟨r, rfl⟩ <;> rfl)) ?_
  intro p e s m below meth c T0 X0 e0
  subst e0
  by_cases hxy : x = y
  · skip
    subst hxy
    have hcd := OStr.inj S0 S1
    refine E_aloadN X0 d_seq_0 rfl rfl (pc' := 1) rfl ?_
    refine E_aloadN X0 d_seq_1 rfl rfl (pc' := 2) rfl ?_
    refine E_acmp X0 d_seq_2 rfl rfl true (decide_eq_true rfl) (pc' := 5) (by decide) rfl ?_
    refine E_iconst X0 (v := (1 : Int32)) d_seq_5 rfl (pc' := 6) rfl ?_
    exact E_ireturnN X0 (t := .boolean) d_seq_6 rfl (by simp) (by decide) (by decide) (⟨_, rfl, rfl, fun _ => rfl, fun q => absurd hcd q⟩)
  · skip
    obtain ⟨kb, cd, N, vs, E0, F0, C0, V0, ⟨rfl, rfl, rfl, bc⟩, pc_, lc⟩ := S0
    obtain ⟨ku, cu, M, us, E1, F1, C1, V1, ⟨rfl, rfl, rfl, bd⟩, pd_, ld⟩ := S1
    refine E_aloadN X0 d_seq_0 rfl rfl (pc' := 1) rfl ?_
    refine E_aloadN X0 d_seq_1 rfl rfl (pc' := 2) rfl ?_
    refine E_acmp X0 d_seq_2 rfl rfl false (decide_eq_false fun q => hxy (Value.ref.inj q)) (pc' := 7) (by decide) rfl ?_
    refine E_aloadN X0 d_seq_7 rfl rfl (pc' := 8) rfl ?_
    refine E_instY X0 d_seq_8 (hw _ (List.mem_of_getElem? (i := 42) rfl)) (Ins.self E1) (pc' := 11) rfl ?_
    intro T1 X2 e3
    rw [← e3] at E0 F0 C0 V0 E1 F1 C1 V1
    refine E_ifF X2 d_seq_11 (XT.i0_eq_f (by decide)) (pc' := 14) rfl ?_
    refine E_aloadN X2 d_seq_14 rfl rfl (pc' := 15) rfl ?_
    refine E_checkcast X2 d_seq_15 (hw _ (List.mem_of_getElem? (i := 42) rfl)) (Ins.self E1) (pc' := 18) rfl ?_
    intro T4 X5 e6
    rw [← e6] at E0 F0 C0 V0 E1 F1 C1 V1
    refine E_astoreN X5 d_seq_18 rfl (l' := #[.val (.ref x), .val (.ref y), .val (.ref y)]) rfl (pc' := 19) rfl ?_
    refine E_getstatic X5 d_seq_19 (hw _ (List.mem_of_getElem? (i := 18) rfl)) Via.refl OS.1 (pc' := 22) rfl ?_
    intro T7 X8 e9
    rw [← e9] at E0 F0 C0 V0 E1 F1 C1 V1
    refine E_ifF X8 d_seq_22 (XT.i0_eq_f OS.2.1) (pc' := 25) rfl ?_
    refine E_aloadN X8 d_seq_25 rfl rfl (pc' := 26) rfl ?_
    refine E_getfield X8 d_seq_26 (hw _ (List.mem_of_getElem? (i := 30) rfl)) Via.refl C0 (pc' := 29) rfl ?_
    intro T10 X11 e12
    rw [← e12] at E0 F0 C0 V0 E1 F1 C1 V1
    refine E_aloadN X11 d_seq_29 rfl rfl (pc' := 30) rfl ?_
    refine E_getfield X11 d_seq_30 (hw _ (List.mem_of_getElem? (i := 30) rfl)) Via.refl C1 (pc' := 33) rfl ?_
    intro T13 X14 e15
    rw [← e15] at E0 F0 C0 V0 E1 F1 C1 V1
    refine E_icF X14 d_seq_33 (XT.ii_ne_f (by decide)) (pc' := 36) rfl ?_
    refine E_aloadN X14 d_seq_36 rfl rfl (pc' := 37) rfl ?_
    refine E_getfield X14 d_seq_37 (hw _ (List.mem_of_getElem? (i := 32) rfl)) Via.refl F0 (pc' := 40) rfl ?_
    intro T16 X17 e18
    rw [← e18] at E0 F0 C0 V0 E1 F1 C1 V1
    refine E_aloadN X17 d_seq_40 rfl rfl (pc' := 41) rfl ?_
    refine E_getfield X17 d_seq_41 (hw _ (List.mem_of_getElem? (i := 32) rfl)) Via.refl F1 (pc' := 44) rfl ?_
    intro T19 X20 e21
    rw [← e21] at E0 F0 C0 V0 E1 F1 C1 V1
    refine E_static X20 (rm := rm_leq) d_seq_44 (hw _ (List.mem_of_getElem? (i := 43) rfl)) (hw _ (List.mem_of_getElem? (i := 44) rfl)) (hw _ (List.mem_of_getElem? (i := 45) rfl)) (hw _ (List.mem_of_getElem? (i := 46) rfl)) (by decide) (argsL := [(.ref t), (.ref u)]) (st := []) rfl (ct_leq l Z a0 hw G1 G3 OS hEL hSA t u kb ku cs ds X20.old V0 V1 (fun c hc => ⟨(pc_ c hc).1, bc c hc⟩) (fun c hc => ⟨(pd_ c hc).1, bd c hc⟩) lc ld) (lenOf (pd_4) rfl) rfl (by decide) (by decide) (by decide) (Nat.le_of_ble_eq_true rfl)  (pc' := 47) rfl ?_
    intro T23 _ X24 hQ25
    obtain ⟨z22, rfl, e26, yz22, nz22⟩ := hQ25
    rw [← e26] at E0 F0 C0 V0 E1 F1 C1 V1
    by_cases hcd : cs = ds
    · skip
      obtain rfl := yz22 hcd
      show Ends p e below s Z _ _ _ T23 (mkF m 47 #[.val (.ref x), .val (.ref y), .val (.ref y)] [(.int (1 : Int32))])
      refine E_ifF X24 d_seq_47 (XT.i0_eq_f (by decide)) (pc' := 50) rfl ?_
      refine E_iconst X24 (v := (1 : Int32)) d_seq_50 rfl (pc' := 51) rfl ?_
      refine E_goto X24 d_seq_51 (pc' := 55) (by decide) rfl ?_
      exact E_ireturnN X24 (t := .boolean) d_seq_55 rfl (by simp) (by decide) (by decide) (⟨_, rfl, (e26.trans (e21.trans (e18.trans (e15.trans (e12.trans (e9.trans (e6.trans e3))))))), fun _ => rfl, fun q => absurd hcd q⟩)
    · skip
      obtain rfl := nz22 hcd
      show Ends p e below s Z _ _ _ T23 (mkF m 47 #[.val (.ref x), .val (.ref y), .val (.ref y)] [(.int (0 : Int32))])
      refine E_ifT X24 d_seq_47 (XT.i0_eq_t (by decide)) (pc' := 54) (by decide) rfl ?_
      refine E_iconst X24 (v := (0 : Int32)) d_seq_54 rfl (pc' := 55) rfl ?_
      exact E_ireturnN X24 (t := .boolean) d_seq_55 rfl (by simp) (by decide) (by decide) (⟨_, rfl, (e26.trans (e21.trans (e18.trans (e15.trans (e12.trans (e9.trans (e6.trans e3))))))), fun q => absurd q hcd, fun _ => rfl⟩)
theorem own_fin {Z : State} {h0 h : Heap} {x a b : Addr} (K : Keep h0 h [x]) (S : OStr Z h a b []) (E : Exa Z h x "java/lang/String") (F : Fld Z h x "java/lang/String" "value" "[B" (.ref b)) (C : Fld Z h x "java/lang/String" "coder" "B" (.int 0)) : (none : Option Value) = none ∧ Keep h0 h [x] ∧ ∃ t, OStr Z h x t [] := by
  obtain ⟨kb, cd, N, vs, E1, F1, C1, V1, hc, r⟩ := S
  exact ⟨rfl, K, b, kb, 0, N, vs, E, F, C, V1, ⟨rfl, hc.2⟩, r⟩
theorem d_init40_0 : decode jdk_42_method_149_code 0 = .ok (.aload_n 0, 1) := by decide +kernel
theorem d_init40_1 : decode jdk_42_method_149_code 1 = .ok (.invokespecial 1, 3) := by decide +kernel
theorem d_init40_4 : decode jdk_42_method_149_code 4 = .ok (.iload_n 3, 1) := by decide +kernel
theorem d_init40_5 : decode jdk_42_method_149_code 5 = .ok (.ifCond .ne 22, 3) := by decide +kernel
theorem d_init40_8 : decode jdk_42_method_149_code 8 = .ok (.aload_n 0, 1) := by decide +kernel
theorem d_init40_9 : decode jdk_42_method_149_code 9 = .ok (.ldc 7, 2) := by decide +kernel
theorem d_init40_11 : decode jdk_42_method_149_code 11 = .ok (.getfield 9, 3) := by decide +kernel
theorem d_init40_14 : decode jdk_42_method_149_code 14 = .ok (.putfield 9, 3) := by decide +kernel
theorem d_init40_17 : decode jdk_42_method_149_code 17 = .ok (.aload_n 0, 1) := by decide +kernel
theorem d_init40_18 : decode jdk_42_method_149_code 18 = .ok (.ldc 7, 2) := by decide +kernel
theorem d_init40_20 : decode jdk_42_method_149_code 20 = .ok (.getfield 15, 3) := by decide +kernel
theorem d_init40_23 : decode jdk_42_method_149_code 23 = .ok (.putfield 15, 3) := by decide +kernel
theorem d_init40_26 : decode jdk_42_method_149_code 26 = .ok (.return_, 1) := by decide +kernel
abbrev rm_init40 : Room := ({ frames := 1, cells := 4, slots := 8, locals := 12 } : Room)
def Q_init40 (Z : State) (x b : Addr) (kC : ClassId) (dv : Value) (h0 : Heap) (v : Option Value) (h : Heap) : Prop := v = none ∧ Keep h0 h [x] ∧ ∃ t, OStr Z h x t []
set_option maxRecDepth 65536 in
set_option maxHeartbeats 40000000 in
theorem ct_init40 (l : Launch) (Z : State) (a0 : Array Value) (hw : ∀ d ∈ tables_1, d.before a0 Z = true) (G1 : Int32) (G3 : Value) (OS : Sts Z G1 G3) (hEL : EW Z a0 EL) (hSA : ∀ a ∈ Bundle.stringAtoms, a.before a0 Z = true) (x b : Addr) (kC : ClassId) (dv : Value) {h0 : Heap} (O : Ext Z.heap h0) (E0 : Exa Z h0 x "java/lang/String") (F0 : Fld Z h0 x "java/lang/String" "value" "[B" .null) (C0 : Fld Z h0 x "java/lang/String" "coder" "B" (.int (0 : Int32))) (gx : Z.heap.size ≤ x) (V0 : Arv Z h0 b kC .char (0 : Int32) [] dv) : CtW l Z (⟨"java/lang/String", "<init>", "([CIILjava/lang/Void;)V"⟩ : MethodName) jdk_42_method_149_code 6 none rm_init40 #[(.ref x), (.ref b), (.int (0 : Int32)), (.int (0 : Int32)), .null] h0 (Q_init40 Z x b kC dv h0) := by
  refine CtW.of_body (Ls := #[.val (.ref x), .val (.ref b), .val (.int (0 : Int32)), .val (.int (0 : Int32)), .val .null, .unset]) (by decide +kernel) O hEL (fun m => by first | rfl | (simp [entryFrame, mkF, argsToLocals, Value.category]; done) | (rcases ref_cases (Sts.ref OS) with rfl | ⟨r, rfl⟩ <;> rfl)) ?_
  intro p e s m below meth c T0 X0 e0
  subst e0
  have K00 := Keep.refl T0.heap [x]
  refine F_aloadN X0 d_init40_0 rfl rfl (pc' := 1) rfl ?_
  refine F_initO X0 d_init40_1 (hw _ (List.mem_of_getElem? (i := 15) rfl)) (hw _ (List.mem_of_getElem? (i := 16) rfl)) (hw _ (List.mem_of_getElem? (i := 17) rfl)) rfl (by decide) (Nat.le_of_ble_eq_true rfl) (pc' := 4) rfl ?_
  intro T1 X2 e3
  have KK4 := own_keq K00 e3
  rw [← e3] at E0 F0 C0
  refine F_iloadN X2 d_init40_4 rfl (pc' := 5) rfl ?_
  refine F_ifF X2 d_init40_5 (XT.i0_ne_f (by decide)) (pc' := 8) rfl ?_
  refine F_aloadN X2 d_init40_8 rfl rfl (pc' := 9) rfl ?_
  have Sf0 := (own_safe X2.al E0 F0 (hw _ (List.mem_of_getElem? (i := 6) rfl)))
  refine F_ldcS X2 (n := 0) (z := Int32.ofNat ([] : List Int32).length) (vs := ([] : List Int32).map lo8) d_init40_9 (hw _ (List.mem_of_getElem? (i := 101) rfl)) hSA hEL (by simp [EL, consts_1]) lit_0 (by decide) rfl (by decide) (by decide) (by decide) (by decide) (pc' := 11) rfl ?_
  intro T5 la7 lb8 k9 X6 K10 E11 C12 F13 V14 hs15
  obtain ⟨Sf16, ne17, ne18⟩ := hs15 x E0.lt Sf0
  have KK19 := KK4.trans K10 (fun x q => nomatch q)
  have Exa_20 := E0.keep K10
  have Fld_21 := F0.keep K10 nin0
  have Fld_22 := C0.keep K10 nin0
  have S24 : OStr Z T5.heap la7 lb8 [] := own_lit E11 F13 C12 V14 (by decide) (by decide)
  have F25 := OStr.fval S24
  refine F_getfield X6 d_init40_11 (hw _ (List.mem_of_getElem? (i := 32) rfl)) Via.refl F25 (pc' := 14) rfl ?_
  intro T26 X27 e28
  have KK29 := own_keq KK19 e28
  rw [← e28] at Exa_20 Fld_21 Fld_22 Sf16 S24 C12 F25
  refine F_putfield X27 (ty := (.array .byte)) d_init40_14 (hw _ (List.mem_of_getElem? (i := 32) rfl)) Via.refl Fld_21 Exa_20 (Or.inr ⟨(hw _ (List.mem_of_getElem? (i := 33) rfl)), rfl, rfl⟩) (hw _ (List.mem_of_getElem? (i := 6) rfl)) (by decide) rfl rfl gx Sf16 (pc' := 17) rfl ?_
  intro T30 X31 W32
  have K33 := Keep.of_wr W32
  have KK34 := KK29.trans K33 (allS (Or.inl (by simp)) (fun x q => nomatch q))
  have Exa_35 := Exa_20.keep K33
  have Str_36 := OStr.keep S24 K33 (ninS (Ne.symm ne17) nin0) (ninS (Ne.symm ne18) nin0)
  have Fld_37 := C12.keep K33 (ninS (Ne.symm ne17) nin0)
  have Fld_38 := F25.keep K33 (ninS (Ne.symm ne17) nin0)
  have F39 := Fld_21.same W32
  have Sf40 := Safe.wr W32 Sf16 X27.ch Sf16
  have F41 := Fld_22.other W32 (Or.inr (slot_ne (Or.inr (hw _ (List.mem_of_getElem? (i := 31) rfl))) (Or.inr (hw _ (List.mem_of_getElem? (i := 33) rfl))) (by decide) (t := .byte) (t' := (.array .byte)) (by decide) (by decide)))
  refine F_aloadN X31 d_init40_17 rfl rfl (pc' := 18) rfl ?_
  refine F_ldcS X31 (n := 0) (z := Int32.ofNat ([] : List Int32).length) (vs := ([] : List Int32).map lo8) d_init40_18 (hw _ (List.mem_of_getElem? (i := 101) rfl)) hSA hEL (by simp [EL, consts_1]) lit_0 (by decide) rfl (by decide) (by decide) (by decide) (by decide) (pc' := 20) rfl ?_
  intro T42 la44 lb45 k46 X43 K47 E48 C49 F50 V51 hs52
  obtain ⟨Sf53, ne54, ne55⟩ := hs52 x Exa_35.lt Sf40
  have KK56 := KK34.trans K47 (fun x q => nomatch q)
  have Exa_57 := Exa_35.keep K47
  have Str_58 := OStr.keep Str_36 K47 nin0 nin0
  have Fld_59 := Fld_37.keep K47 nin0
  have Fld_60 := Fld_38.keep K47 nin0
  have Fld_61 := F39.keep K47 nin0
  have Fld_63 := F41.keep K47 nin0
  have S64 : OStr Z T42.heap la44 lb45 [] := own_lit E48 F50 C49 V51 (by decide) (by decide)
  refine F_getfield X43 d_init40_20 (hw _ (List.mem_of_getElem? (i := 30) rfl)) Via.refl C49 (pc' := 23) rfl ?_
  intro T65 X66 e67
  have KK68 := own_keq KK56 e67
  rw [← e67] at Exa_57 Str_58 Fld_59 Fld_60 Fld_61 Sf53 Fld_63 S64 C49
  refine F_putfield X66 (ty := .byte) d_init40_23 (hw _ (List.mem_of_getElem? (i := 30) rfl)) Via.refl Fld_63 Exa_57 (Or.inr ⟨(hw _ (List.mem_of_getElem? (i := 31) rfl)), rfl, rfl⟩) (hw _ (List.mem_of_getElem? (i := 6) rfl)) (by decide) rfl rfl gx Sf53 (pc' := 26) rfl ?_
  intro T69 X70 W71
  have K72 := Keep.of_wr W71
  have KK73 := KK68.trans K72 (allS (Or.inl (by simp)) (fun x q => nomatch q))
  have Exa_74 := Exa_57.keep K72
  have Str_75 := OStr.keep Str_58 K72 (ninS (Ne.symm ne17) nin0) (ninS (Ne.symm ne18) nin0)
  have Fld_76 := Fld_59.keep K72 (ninS (Ne.symm ne17) nin0)
  have Fld_77 := Fld_60.keep K72 (ninS (Ne.symm ne17) nin0)
  have Str_78 := OStr.keep S64 K72 (ninS (Ne.symm ne54) nin0) (ninS (Ne.symm ne55) nin0)
  have Fld_79 := C49.keep K72 (ninS (Ne.symm ne54) nin0)
  have F80 := Fld_63.same W71
  have Sf81 := Safe.wr W71 Sf53 X66.ch Sf53
  have F82 := Fld_61.other W71 (Or.inr (slot_ne (Or.inr (hw _ (List.mem_of_getElem? (i := 33) rfl))) (Or.inr (hw _ (List.mem_of_getElem? (i := 31) rfl))) (by decide) (t := (.array .byte)) (t' := .byte) (by decide) (by decide)))
  exact F_return X70 d_init40_26 rfl (by decide) (by decide) (own_fin KK73 Str_75 Exa_74 F82 F80)
theorem d_sinit0_0 : decode jdk_42_method_3_code 0 = .ok (.aload_n 0, 1) := by decide +kernel
theorem d_sinit0_1 : decode jdk_42_method_3_code 1 = .ok (.aload_n 1, 1) := by decide +kernel
theorem d_sinit0_2 : decode jdk_42_method_3_code 2 = .ok (.iconst 0, 1) := by decide +kernel
theorem d_sinit0_3 : decode jdk_42_method_3_code 3 = .ok (.aload_n 1, 1) := by decide +kernel
theorem d_sinit0_4 : decode jdk_42_method_3_code 4 = .ok (.arraylength, 1) := by decide +kernel
theorem d_sinit0_5 : decode jdk_42_method_3_code 5 = .ok (.aconst_null, 1) := by decide +kernel
theorem d_sinit0_6 : decode jdk_42_method_3_code 6 = .ok (.invokespecial 27, 3) := by decide +kernel
theorem d_sinit0_9 : decode jdk_42_method_3_code 9 = .ok (.return_, 1) := by decide +kernel
abbrev rm_sinit0 : Room := ({ frames := 2, cells := 4, slots := 8, locals := 29 } : Room)
def Q_sinit0 (Z : State) (x b : Addr) (kC : ClassId) (dv : Value) (h0 : Heap) (v : Option Value) (h : Heap) : Prop := v = none ∧ Keep h0 h [x] ∧ ∃ t, OStr Z h x t []
set_option maxRecDepth 65536 in
set_option maxHeartbeats 40000000 in
theorem ct_sinit0 (l : Launch) (Z : State) (a0 : Array Value) (hw : ∀ d ∈ tables_1, d.before a0 Z = true) (G1 : Int32) (G3 : Value) (OS : Sts Z G1 G3) (hEL : EW Z a0 EL) (hSA : ∀ a ∈ Bundle.stringAtoms, a.before a0 Z = true) (x b : Addr) (kC : ClassId) (dv : Value) {h0 : Heap} (O : Ext Z.heap h0) (E0 : Exa Z h0 x "java/lang/String") (F0 : Fld Z h0 x "java/lang/String" "value" "[B" .null) (C0 : Fld Z h0 x "java/lang/String" "coder" "B" (.int (0 : Int32))) (gx : Z.heap.size ≤ x) (V0 : Arv Z h0 b kC .char (0 : Int32) [] dv) : CtW l Z (⟨"java/lang/String", "<init>", "([C)V"⟩ : MethodName) jdk_42_method_3_code 2 none rm_sinit0 #[(.ref x), (.ref b)] h0 (Q_sinit0 Z x b kC dv h0) := by
  refine CtW.of_body (Ls := #[.val (.ref x), .val (.ref b)]) (by decide +kernel) O hEL (fun m => by first | rfl | (simp [entryFrame, mkF, argsToLocals, Value.category]; done) | (rcases ref_cases (Sts.ref OS) with rfl | ⟨r, rfl⟩ <;> rfl)) ?_
  intro p e s m below meth c T0 X0 e0
  subst e0
  refine F_aloadN X0 d_sinit0_0 rfl rfl (pc' := 1) rfl ?_
  refine F_aloadN X0 d_sinit0_1 rfl rfl (pc' := 2) rfl ?_
  refine F_iconst X0 (v := (0 : Int32)) d_sinit0_2 rfl (pc' := 3) rfl ?_
  refine F_aloadN X0 d_sinit0_3 rfl rfl (pc' := 4) rfl ?_
  refine F_arraylength X0 d_sinit0_4 V0 (pc' := 5) rfl ?_
  refine F_aconstNull X0 d_sinit0_5 (pc' := 6) rfl ?_
  refine G_special X0 (rm := rm_init40) (a := x) d_sinit0_6 rfl rfl (hw _ (List.mem_of_getElem? (i := 11) rfl)) (hw _ (List.mem_of_getElem? (i := 12) rfl)) (hw _ (List.mem_of_getElem? (i := 14) rfl)) (by decide) (hw _ (List.mem_of_getElem? (i := 7) rfl)) (argsL := [(.ref b), (.int (0 : Int32)), (.int (0 : Int32)), .null]) (st := []) rfl (ct_init40 l Z a0 hw G1 G3 OS hEL hSA x b kC dv X0.old E0 F0 C0 gx V0) (lenOf (pd_3) rfl) rfl (by decide) (by decide) (by decide) (Nat.le_of_ble_eq_true rfl)  (pc' := 9) rfl ?_
  intro T1 _ X2 hQ3 hsf4
  obtain ⟨rfl, KF, SF⟩ := hQ3
  show EndW p e below s Z _ _ _ T1 (mkF m 9 #[.val (.ref x), .val (.ref b)] [])
  exact F_return X2 d_sinit0_9 rfl (by decide) (by decide) (⟨rfl, KF, SF⟩)
abbrev LA : List Int32 := [(112 : Int32), (114 : Int32), (111 : Int32), (100 : Int32), (117 : Int32), (99 : Int32), (101 : Int32), (114 : Int32)]
abbrev LB : List Int32 := [(119 : Int32), (111 : Int32), (114 : Int32), (107 : Int32), (101 : Int32), (114 : Int32)]
def Pin (Z : State) (A B sa sb va vb vv oe : Addr) (kv : ClassId) : Prop := Sta Z Z.heap "com/example/panoptes/panoptes/Caller$Role" "PRODUCER" "Lcom/example/panoptes/panoptes/Caller$Role;" (.ref A) ∧ Sta Z Z.heap "com/example/panoptes/panoptes/Caller$Role" "WORKER" "Lcom/example/panoptes/panoptes/Caller$Role;" (.ref B) ∧ Sta Z Z.heap "com/example/panoptes/panoptes/Caller$Role" "$VALUES" "[Lcom/example/panoptes/panoptes/Caller$Role;" (.ref vv) ∧ Exa Z Z.heap A "com/example/panoptes/panoptes/Caller$Role" ∧ Exa Z Z.heap B "com/example/panoptes/panoptes/Caller$Role" ∧ Fld Z Z.heap A "com/example/panoptes/panoptes/Caller$Role" "listedName" "Ljava/lang/String;" (.ref sa) ∧ Fld Z Z.heap B "com/example/panoptes/panoptes/Caller$Role" "listedName" "Ljava/lang/String;" (.ref sb) ∧ OStr Z Z.heap sa va LA ∧ OStr Z Z.heap sb vb LB ∧ Arv Z Z.heap vv kv (.object "com/example/panoptes/panoptes/Caller$Role") (2 : Int32) [.ref A, .ref B] .null ∧ Exa Z Z.heap vv "[Lcom/example/panoptes/panoptes/Caller$Role;" ∧ Sta Z Z.heap "java/util/Optional" "EMPTY" "Ljava/util/Optional;" (.ref oe) ∧ Exa Z Z.heap oe "java/util/Optional" ∧ Fld Z Z.heap oe "java/util/Optional" "value" "Ljava/lang/Object;" .null
theorem allN {P : Int32 → Prop} : ∀ c ∈ ([] : List Int32), P c := fun _ q => nomatch q
theorem allC {P : Int32 → Prop} {a : Int32} {r : List Int32} (h : P a) (t : ∀ c ∈ r, P c) : ∀ c ∈ a :: r, P c := fun c q => (List.mem_cons.mp q).elim (fun u => u ▸ h) (t c)
theorem own_sb {P : Int32 → Prop} {L : List Int32} {j : Nat} {a : Int32} (h : ∀ c ∈ L, P c) (ha : P a) : ∀ c ∈ L.set j a, P c := fun c q => (List.mem_or_eq_of_mem_set q).elim (h c) (fun u => u ▸ ha)
theorem own_gd {bs : List Int32} {i : Nat} {d : Value} (h : i < bs.length) : (bs.map Value.int).getD i d = .int (bs.getD i 0) := by simp [List.getD_eq_getElem?_getD, h]
theorem c8_ok (x : Int32) : ¬ (x &&& (255 : Int32)).toUInt32.toUInt16.toUInt32.toInt32 < 0 ∧ ¬ (255 : Int32) < (x &&& (255 : Int32)).toUInt32.toUInt16.toUInt32.toInt32 := by
  have e := c_mask x 255 8 (by decide) (by decide)
  rw [i2c_mask]
  simp only [Int32.lt_iff_toInt_lt, Int32.reduceToInt]; omega
theorem c8_nar {c : Int32} (h : ¬ c < 0 ∧ ¬ (255 : Int32) < c) : nar .char c = c := o_nar h.1 fun q => h.2 (Int32.lt_trans (by decide) q)
theorem c8_lit {c : Int32} (h : (decide (¬ c < 0) && decide (¬ (255 : Int32) < c)) = true) : ¬ c < 0 ∧ ¬ (255 : Int32) < c := by simpa using h
theorem own_9 (x : Int32) : ∃ o : Nat, o < 9 ∧ (x &&& (2147483647 : Int32)) % (9 : Int32) = Int32.ofNat o := by
  have e1 := c_and x (2147483647 : Int32) (by decide)
  have e2 := (c_irem (x &&& (2147483647 : Int32)) (9 : Int32) 9 rfl).1 e1.1
  refine ⟨((x &&& (2147483647 : Int32)) % (9 : Int32)).toInt.toNat, by omega, ?_⟩
  apply Int32.toInt_inj.mp
  rw [o_int (by omega)]; omega
theorem own_3w (P Q : Prop) : P ∨ (¬ P ∧ Q) ∨ (¬ P ∧ ¬ Q) := by
  by_cases p : P
  · exact Or.inl p
  · by_cases q : Q
    · exact Or.inr (Or.inl ⟨p, q⟩)
    · exact Or.inr (Or.inr ⟨p, q⟩)
theorem d_seqn_0 : decode jdk_42_method_66_code 0 = .ok (.aload_n 0, 1) := by decide +kernel
theorem d_seqn_1 : decode jdk_42_method_66_code 1 = .ok (.aload_n 1, 1) := by decide +kernel
theorem d_seqn_2 : decode jdk_42_method_66_code 2 = .ok (.if_acmp .ne 5, 3) := by decide +kernel
theorem d_seqn_7 : decode jdk_42_method_66_code 7 = .ok (.aload_n 1, 1) := by decide +kernel
theorem d_seqn_8 : decode jdk_42_method_66_code 8 = .ok (.instanceof 10, 3) := by decide +kernel
theorem d_seqn_11 : decode jdk_42_method_66_code 11 = .ok (.ifCond .eq 43, 3) := by decide +kernel
theorem d_seqn_54 : decode jdk_42_method_66_code 54 = .ok (.iconst 0, 1) := by decide +kernel
theorem d_seqn_55 : decode jdk_42_method_66_code 55 = .ok (.ireturn, 1) := by decide +kernel
abbrev rm_seqn : Room := ({ frames := 0, cells := 0, slots := 0, locals := 0 } : Room)
def Q_seqn (Z : State) (x : Addr) (h0 : Heap) (v : Option Value) (h : Heap) : Prop := v = some (.int 0) ∧ h = h0
set_option maxRecDepth 65536 in
set_option maxHeartbeats 40000000 in
theorem ct_seqn (l : Launch) (Z : State) (a0 : Array Value) (hw : ∀ d ∈ tables_1, d.before a0 Z = true) (G1 : Int32) (G3 : Value) (OS : Sts Z G1 G3) (hEL : EW Z a0 EL) (hSA : ∀ a ∈ Bundle.stringAtoms, a.before a0 Z = true) (x : Addr) {h0 : Heap} (O : Ext Z.heap h0)  : Ct l Z (⟨"java/lang/String", "equals", "(Ljava/lang/Object;)Z"⟩ : MethodName) jdk_42_method_66_code 3 (some .boolean) rm_seqn #[(.ref x), .null] h0 (Q_seqn Z x h0) := by
  refine Ct.of_body (Ls := #[.val (.ref x), .val .null, .unset]) (by decide +kernel) O (fun m => by first | rfl | (simp [entryFrame, mkF, argsToLocals, Value.category]; done) | (rcases ref_cases (Sts.ref OS) with rfl | ⟨r, rfl⟩ <;> rfl)) ?_
  intro p e s m below meth c T0 X0 e0
  subst e0
  refine E_aloadN X0 d_seqn_0 rfl rfl (pc' := 1) rfl ?_
  refine E_aloadN X0 d_seqn_1 rfl rfl (pc' := 2) rfl ?_
  refine E_acmp X0 d_seqn_2 rfl rfl false (decide_eq_false nofun) (pc' := 7) (by decide) rfl ?_
  refine E_aloadN X0 d_seqn_7 rfl rfl (pc' := 8) rfl ?_
  refine E_instNull X0 d_seqn_8 (pc' := 11) rfl ?_
  refine E_ifT X0 d_seqn_11 (XT.i0_eq_t (by decide)) (pc' := 54) (by decide) rfl ?_
  refine E_iconst X0 (v := (0 : Int32)) d_seqn_54 rfl (pc' := 55) rfl ?_
  exact E_ireturnN X0 (t := .boolean) d_seqn_55 rfl (by simp) (by decide) (by decide) (⟨rfl, rfl⟩)
theorem d_make_0 : decode method_2_code 0 = .ok (.iload_n 1, 1) := by decide +kernel
theorem d_make_1 : decode method_2_code 1 = .ok (.ifCond .gt 14, 3) := by decide +kernel
theorem d_make_4 : decode method_2_code 4 = .ok (.new 7, 3) := by decide +kernel
theorem d_make_7 : decode method_2_code 7 = .ok (.dup, 1) := by decide +kernel
theorem d_make_8 : decode method_2_code 8 = .ok (.iconst 0, 1) := by decide +kernel
theorem d_make_9 : decode method_2_code 9 = .ok (.newarray .char, 2) := by decide +kernel
theorem d_make_11 : decode method_2_code 11 = .ok (.invokespecial 9, 3) := by decide +kernel
theorem d_make_14 : decode method_2_code 14 = .ok (.areturn, 1) := by decide +kernel
theorem d_make_15 : decode method_2_code 15 = .ok (.iload_n 1, 1) := by decide +kernel
theorem d_make_16 : decode method_2_code 16 = .ok (.iconst 1, 1) := by decide +kernel
theorem d_make_17 : decode method_2_code 17 = .ok (.if_icmp .ne 20, 3) := by decide +kernel
theorem d_make_20 : decode method_2_code 20 = .ok (.new 7, 3) := by decide +kernel
theorem d_make_23 : decode method_2_code 23 = .ok (.dup, 1) := by decide +kernel
theorem d_make_24 : decode method_2_code 24 = .ok (.iconst 1, 1) := by decide +kernel
theorem d_make_25 : decode method_2_code 25 = .ok (.newarray .char, 2) := by decide +kernel
theorem d_make_27 : decode method_2_code 27 = .ok (.dup, 1) := by decide +kernel
theorem d_make_28 : decode method_2_code 28 = .ok (.iconst 0, 1) := by decide +kernel
theorem d_make_29 : decode method_2_code 29 = .ok (.aload_n 0, 1) := by decide +kernel
theorem d_make_30 : decode method_2_code 30 = .ok (.iconst 0, 1) := by decide +kernel
theorem d_make_31 : decode method_2_code 31 = .ok (.caload, 1) := by decide +kernel
theorem d_make_32 : decode method_2_code 32 = .ok (.castore, 1) := by decide +kernel
theorem d_make_33 : decode method_2_code 33 = .ok (.invokespecial 9, 3) := by decide +kernel
theorem d_make_36 : decode method_2_code 36 = .ok (.areturn, 1) := by decide +kernel
theorem d_make_37 : decode method_2_code 37 = .ok (.iload_n 1, 1) := by decide +kernel
theorem d_make_38 : decode method_2_code 38 = .ok (.iconst 2, 1) := by decide +kernel
theorem d_make_39 : decode method_2_code 39 = .ok (.if_icmp .ne 26, 3) := by decide +kernel
theorem d_make_42 : decode method_2_code 42 = .ok (.new 7, 3) := by decide +kernel
theorem d_make_45 : decode method_2_code 45 = .ok (.dup, 1) := by decide +kernel
theorem d_make_46 : decode method_2_code 46 = .ok (.iconst 2, 1) := by decide +kernel
theorem d_make_47 : decode method_2_code 47 = .ok (.newarray .char, 2) := by decide +kernel
theorem d_make_49 : decode method_2_code 49 = .ok (.dup, 1) := by decide +kernel
theorem d_make_50 : decode method_2_code 50 = .ok (.iconst 0, 1) := by decide +kernel
theorem d_make_51 : decode method_2_code 51 = .ok (.aload_n 0, 1) := by decide +kernel
theorem d_make_52 : decode method_2_code 52 = .ok (.iconst 0, 1) := by decide +kernel
theorem d_make_53 : decode method_2_code 53 = .ok (.caload, 1) := by decide +kernel
theorem d_make_54 : decode method_2_code 54 = .ok (.castore, 1) := by decide +kernel
theorem d_make_55 : decode method_2_code 55 = .ok (.dup, 1) := by decide +kernel
theorem d_make_56 : decode method_2_code 56 = .ok (.iconst 1, 1) := by decide +kernel
theorem d_make_57 : decode method_2_code 57 = .ok (.aload_n 0, 1) := by decide +kernel
theorem d_make_58 : decode method_2_code 58 = .ok (.iconst 1, 1) := by decide +kernel
theorem d_make_59 : decode method_2_code 59 = .ok (.caload, 1) := by decide +kernel
theorem d_make_60 : decode method_2_code 60 = .ok (.castore, 1) := by decide +kernel
theorem d_make_61 : decode method_2_code 61 = .ok (.invokespecial 9, 3) := by decide +kernel
theorem d_make_64 : decode method_2_code 64 = .ok (.areturn, 1) := by decide +kernel
theorem d_make_65 : decode method_2_code 65 = .ok (.iload_n 1, 1) := by decide +kernel
theorem d_make_66 : decode method_2_code 66 = .ok (.iconst 3, 1) := by decide +kernel
theorem d_make_67 : decode method_2_code 67 = .ok (.if_icmp .ne 32, 3) := by decide +kernel
theorem d_make_70 : decode method_2_code 70 = .ok (.new 7, 3) := by decide +kernel
theorem d_make_73 : decode method_2_code 73 = .ok (.dup, 1) := by decide +kernel
theorem d_make_74 : decode method_2_code 74 = .ok (.iconst 3, 1) := by decide +kernel
theorem d_make_75 : decode method_2_code 75 = .ok (.newarray .char, 2) := by decide +kernel
theorem d_make_77 : decode method_2_code 77 = .ok (.dup, 1) := by decide +kernel
theorem d_make_78 : decode method_2_code 78 = .ok (.iconst 0, 1) := by decide +kernel
theorem d_make_79 : decode method_2_code 79 = .ok (.aload_n 0, 1) := by decide +kernel
theorem d_make_80 : decode method_2_code 80 = .ok (.iconst 0, 1) := by decide +kernel
theorem d_make_81 : decode method_2_code 81 = .ok (.caload, 1) := by decide +kernel
theorem d_make_82 : decode method_2_code 82 = .ok (.castore, 1) := by decide +kernel
theorem d_make_83 : decode method_2_code 83 = .ok (.dup, 1) := by decide +kernel
theorem d_make_84 : decode method_2_code 84 = .ok (.iconst 1, 1) := by decide +kernel
theorem d_make_85 : decode method_2_code 85 = .ok (.aload_n 0, 1) := by decide +kernel
theorem d_make_86 : decode method_2_code 86 = .ok (.iconst 1, 1) := by decide +kernel
theorem d_make_87 : decode method_2_code 87 = .ok (.caload, 1) := by decide +kernel
theorem d_make_88 : decode method_2_code 88 = .ok (.castore, 1) := by decide +kernel
theorem d_make_89 : decode method_2_code 89 = .ok (.dup, 1) := by decide +kernel
theorem d_make_90 : decode method_2_code 90 = .ok (.iconst 2, 1) := by decide +kernel
theorem d_make_91 : decode method_2_code 91 = .ok (.aload_n 0, 1) := by decide +kernel
theorem d_make_92 : decode method_2_code 92 = .ok (.iconst 2, 1) := by decide +kernel
theorem d_make_93 : decode method_2_code 93 = .ok (.caload, 1) := by decide +kernel
theorem d_make_94 : decode method_2_code 94 = .ok (.castore, 1) := by decide +kernel
theorem d_make_95 : decode method_2_code 95 = .ok (.invokespecial 9, 3) := by decide +kernel
theorem d_make_98 : decode method_2_code 98 = .ok (.areturn, 1) := by decide +kernel
theorem d_make_99 : decode method_2_code 99 = .ok (.iload_n 1, 1) := by decide +kernel
theorem d_make_100 : decode method_2_code 100 = .ok (.iconst 4, 1) := by decide +kernel
theorem d_make_101 : decode method_2_code 101 = .ok (.if_icmp .ne 38, 3) := by decide +kernel
theorem d_make_104 : decode method_2_code 104 = .ok (.new 7, 3) := by decide +kernel
theorem d_make_107 : decode method_2_code 107 = .ok (.dup, 1) := by decide +kernel
theorem d_make_108 : decode method_2_code 108 = .ok (.iconst 4, 1) := by decide +kernel
theorem d_make_109 : decode method_2_code 109 = .ok (.newarray .char, 2) := by decide +kernel
theorem d_make_111 : decode method_2_code 111 = .ok (.dup, 1) := by decide +kernel
theorem d_make_112 : decode method_2_code 112 = .ok (.iconst 0, 1) := by decide +kernel
theorem d_make_113 : decode method_2_code 113 = .ok (.aload_n 0, 1) := by decide +kernel
theorem d_make_114 : decode method_2_code 114 = .ok (.iconst 0, 1) := by decide +kernel
theorem d_make_115 : decode method_2_code 115 = .ok (.caload, 1) := by decide +kernel
theorem d_make_116 : decode method_2_code 116 = .ok (.castore, 1) := by decide +kernel
theorem d_make_117 : decode method_2_code 117 = .ok (.dup, 1) := by decide +kernel
theorem d_make_118 : decode method_2_code 118 = .ok (.iconst 1, 1) := by decide +kernel
theorem d_make_119 : decode method_2_code 119 = .ok (.aload_n 0, 1) := by decide +kernel
theorem d_make_120 : decode method_2_code 120 = .ok (.iconst 1, 1) := by decide +kernel
theorem d_make_121 : decode method_2_code 121 = .ok (.caload, 1) := by decide +kernel
theorem d_make_122 : decode method_2_code 122 = .ok (.castore, 1) := by decide +kernel
theorem d_make_123 : decode method_2_code 123 = .ok (.dup, 1) := by decide +kernel
theorem d_make_124 : decode method_2_code 124 = .ok (.iconst 2, 1) := by decide +kernel
theorem d_make_125 : decode method_2_code 125 = .ok (.aload_n 0, 1) := by decide +kernel
theorem d_make_126 : decode method_2_code 126 = .ok (.iconst 2, 1) := by decide +kernel
theorem d_make_127 : decode method_2_code 127 = .ok (.caload, 1) := by decide +kernel
theorem d_make_128 : decode method_2_code 128 = .ok (.castore, 1) := by decide +kernel
theorem d_make_129 : decode method_2_code 129 = .ok (.dup, 1) := by decide +kernel
theorem d_make_130 : decode method_2_code 130 = .ok (.iconst 3, 1) := by decide +kernel
theorem d_make_131 : decode method_2_code 131 = .ok (.aload_n 0, 1) := by decide +kernel
theorem d_make_132 : decode method_2_code 132 = .ok (.iconst 3, 1) := by decide +kernel
theorem d_make_133 : decode method_2_code 133 = .ok (.caload, 1) := by decide +kernel
theorem d_make_134 : decode method_2_code 134 = .ok (.castore, 1) := by decide +kernel
theorem d_make_135 : decode method_2_code 135 = .ok (.invokespecial 9, 3) := by decide +kernel
theorem d_make_138 : decode method_2_code 138 = .ok (.areturn, 1) := by decide +kernel
theorem d_make_139 : decode method_2_code 139 = .ok (.iload_n 1, 1) := by decide +kernel
theorem d_make_140 : decode method_2_code 140 = .ok (.iconst 5, 1) := by decide +kernel
theorem d_make_141 : decode method_2_code 141 = .ok (.if_icmp .ne 44, 3) := by decide +kernel
theorem d_make_144 : decode method_2_code 144 = .ok (.new 7, 3) := by decide +kernel
theorem d_make_147 : decode method_2_code 147 = .ok (.dup, 1) := by decide +kernel
theorem d_make_148 : decode method_2_code 148 = .ok (.iconst 5, 1) := by decide +kernel
theorem d_make_149 : decode method_2_code 149 = .ok (.newarray .char, 2) := by decide +kernel
theorem d_make_151 : decode method_2_code 151 = .ok (.dup, 1) := by decide +kernel
theorem d_make_152 : decode method_2_code 152 = .ok (.iconst 0, 1) := by decide +kernel
theorem d_make_153 : decode method_2_code 153 = .ok (.aload_n 0, 1) := by decide +kernel
theorem d_make_154 : decode method_2_code 154 = .ok (.iconst 0, 1) := by decide +kernel
theorem d_make_155 : decode method_2_code 155 = .ok (.caload, 1) := by decide +kernel
theorem d_make_156 : decode method_2_code 156 = .ok (.castore, 1) := by decide +kernel
theorem d_make_157 : decode method_2_code 157 = .ok (.dup, 1) := by decide +kernel
theorem d_make_158 : decode method_2_code 158 = .ok (.iconst 1, 1) := by decide +kernel
theorem d_make_159 : decode method_2_code 159 = .ok (.aload_n 0, 1) := by decide +kernel
theorem d_make_160 : decode method_2_code 160 = .ok (.iconst 1, 1) := by decide +kernel
theorem d_make_161 : decode method_2_code 161 = .ok (.caload, 1) := by decide +kernel
theorem d_make_162 : decode method_2_code 162 = .ok (.castore, 1) := by decide +kernel
theorem d_make_163 : decode method_2_code 163 = .ok (.dup, 1) := by decide +kernel
theorem d_make_164 : decode method_2_code 164 = .ok (.iconst 2, 1) := by decide +kernel
theorem d_make_165 : decode method_2_code 165 = .ok (.aload_n 0, 1) := by decide +kernel
theorem d_make_166 : decode method_2_code 166 = .ok (.iconst 2, 1) := by decide +kernel
theorem d_make_167 : decode method_2_code 167 = .ok (.caload, 1) := by decide +kernel
theorem d_make_168 : decode method_2_code 168 = .ok (.castore, 1) := by decide +kernel
theorem d_make_169 : decode method_2_code 169 = .ok (.dup, 1) := by decide +kernel
theorem d_make_170 : decode method_2_code 170 = .ok (.iconst 3, 1) := by decide +kernel
theorem d_make_171 : decode method_2_code 171 = .ok (.aload_n 0, 1) := by decide +kernel
theorem d_make_172 : decode method_2_code 172 = .ok (.iconst 3, 1) := by decide +kernel
theorem d_make_173 : decode method_2_code 173 = .ok (.caload, 1) := by decide +kernel
theorem d_make_174 : decode method_2_code 174 = .ok (.castore, 1) := by decide +kernel
theorem d_make_175 : decode method_2_code 175 = .ok (.dup, 1) := by decide +kernel
theorem d_make_176 : decode method_2_code 176 = .ok (.iconst 4, 1) := by decide +kernel
theorem d_make_177 : decode method_2_code 177 = .ok (.aload_n 0, 1) := by decide +kernel
theorem d_make_178 : decode method_2_code 178 = .ok (.iconst 4, 1) := by decide +kernel
theorem d_make_179 : decode method_2_code 179 = .ok (.caload, 1) := by decide +kernel
theorem d_make_180 : decode method_2_code 180 = .ok (.castore, 1) := by decide +kernel
theorem d_make_181 : decode method_2_code 181 = .ok (.invokespecial 9, 3) := by decide +kernel
theorem d_make_184 : decode method_2_code 184 = .ok (.areturn, 1) := by decide +kernel
theorem d_make_185 : decode method_2_code 185 = .ok (.iload_n 1, 1) := by decide +kernel
theorem d_make_186 : decode method_2_code 186 = .ok (.bipush 6, 2) := by decide +kernel
theorem d_make_188 : decode method_2_code 188 = .ok (.if_icmp .ne 51, 3) := by decide +kernel
theorem d_make_191 : decode method_2_code 191 = .ok (.new 7, 3) := by decide +kernel
theorem d_make_194 : decode method_2_code 194 = .ok (.dup, 1) := by decide +kernel
theorem d_make_195 : decode method_2_code 195 = .ok (.bipush 6, 2) := by decide +kernel
theorem d_make_197 : decode method_2_code 197 = .ok (.newarray .char, 2) := by decide +kernel
theorem d_make_199 : decode method_2_code 199 = .ok (.dup, 1) := by decide +kernel
theorem d_make_200 : decode method_2_code 200 = .ok (.iconst 0, 1) := by decide +kernel
theorem d_make_201 : decode method_2_code 201 = .ok (.aload_n 0, 1) := by decide +kernel
theorem d_make_202 : decode method_2_code 202 = .ok (.iconst 0, 1) := by decide +kernel
theorem d_make_203 : decode method_2_code 203 = .ok (.caload, 1) := by decide +kernel
theorem d_make_204 : decode method_2_code 204 = .ok (.castore, 1) := by decide +kernel
theorem d_make_205 : decode method_2_code 205 = .ok (.dup, 1) := by decide +kernel
theorem d_make_206 : decode method_2_code 206 = .ok (.iconst 1, 1) := by decide +kernel
theorem d_make_207 : decode method_2_code 207 = .ok (.aload_n 0, 1) := by decide +kernel
theorem d_make_208 : decode method_2_code 208 = .ok (.iconst 1, 1) := by decide +kernel
theorem d_make_209 : decode method_2_code 209 = .ok (.caload, 1) := by decide +kernel
theorem d_make_210 : decode method_2_code 210 = .ok (.castore, 1) := by decide +kernel
theorem d_make_211 : decode method_2_code 211 = .ok (.dup, 1) := by decide +kernel
theorem d_make_212 : decode method_2_code 212 = .ok (.iconst 2, 1) := by decide +kernel
theorem d_make_213 : decode method_2_code 213 = .ok (.aload_n 0, 1) := by decide +kernel
theorem d_make_214 : decode method_2_code 214 = .ok (.iconst 2, 1) := by decide +kernel
theorem d_make_215 : decode method_2_code 215 = .ok (.caload, 1) := by decide +kernel
theorem d_make_216 : decode method_2_code 216 = .ok (.castore, 1) := by decide +kernel
theorem d_make_217 : decode method_2_code 217 = .ok (.dup, 1) := by decide +kernel
theorem d_make_218 : decode method_2_code 218 = .ok (.iconst 3, 1) := by decide +kernel
theorem d_make_219 : decode method_2_code 219 = .ok (.aload_n 0, 1) := by decide +kernel
theorem d_make_220 : decode method_2_code 220 = .ok (.iconst 3, 1) := by decide +kernel
theorem d_make_221 : decode method_2_code 221 = .ok (.caload, 1) := by decide +kernel
theorem d_make_222 : decode method_2_code 222 = .ok (.castore, 1) := by decide +kernel
theorem d_make_223 : decode method_2_code 223 = .ok (.dup, 1) := by decide +kernel
theorem d_make_224 : decode method_2_code 224 = .ok (.iconst 4, 1) := by decide +kernel
theorem d_make_225 : decode method_2_code 225 = .ok (.aload_n 0, 1) := by decide +kernel
theorem d_make_226 : decode method_2_code 226 = .ok (.iconst 4, 1) := by decide +kernel
theorem d_make_227 : decode method_2_code 227 = .ok (.caload, 1) := by decide +kernel
theorem d_make_228 : decode method_2_code 228 = .ok (.castore, 1) := by decide +kernel
theorem d_make_229 : decode method_2_code 229 = .ok (.dup, 1) := by decide +kernel
theorem d_make_230 : decode method_2_code 230 = .ok (.iconst 5, 1) := by decide +kernel
theorem d_make_231 : decode method_2_code 231 = .ok (.aload_n 0, 1) := by decide +kernel
theorem d_make_232 : decode method_2_code 232 = .ok (.iconst 5, 1) := by decide +kernel
theorem d_make_233 : decode method_2_code 233 = .ok (.caload, 1) := by decide +kernel
theorem d_make_234 : decode method_2_code 234 = .ok (.castore, 1) := by decide +kernel
theorem d_make_235 : decode method_2_code 235 = .ok (.invokespecial 9, 3) := by decide +kernel
theorem d_make_238 : decode method_2_code 238 = .ok (.areturn, 1) := by decide +kernel
theorem d_make_239 : decode method_2_code 239 = .ok (.iload_n 1, 1) := by decide +kernel
theorem d_make_240 : decode method_2_code 240 = .ok (.bipush 7, 2) := by decide +kernel
theorem d_make_242 : decode method_2_code 242 = .ok (.if_icmp .ne 59, 3) := by decide +kernel
theorem d_make_245 : decode method_2_code 245 = .ok (.new 7, 3) := by decide +kernel
theorem d_make_248 : decode method_2_code 248 = .ok (.dup, 1) := by decide +kernel
theorem d_make_249 : decode method_2_code 249 = .ok (.bipush 7, 2) := by decide +kernel
theorem d_make_251 : decode method_2_code 251 = .ok (.newarray .char, 2) := by decide +kernel
theorem d_make_253 : decode method_2_code 253 = .ok (.dup, 1) := by decide +kernel
theorem d_make_254 : decode method_2_code 254 = .ok (.iconst 0, 1) := by decide +kernel
theorem d_make_255 : decode method_2_code 255 = .ok (.aload_n 0, 1) := by decide +kernel
theorem d_make_256 : decode method_2_code 256 = .ok (.iconst 0, 1) := by decide +kernel
theorem d_make_257 : decode method_2_code 257 = .ok (.caload, 1) := by decide +kernel
theorem d_make_258 : decode method_2_code 258 = .ok (.castore, 1) := by decide +kernel
theorem d_make_259 : decode method_2_code 259 = .ok (.dup, 1) := by decide +kernel
theorem d_make_260 : decode method_2_code 260 = .ok (.iconst 1, 1) := by decide +kernel
theorem d_make_261 : decode method_2_code 261 = .ok (.aload_n 0, 1) := by decide +kernel
theorem d_make_262 : decode method_2_code 262 = .ok (.iconst 1, 1) := by decide +kernel
theorem d_make_263 : decode method_2_code 263 = .ok (.caload, 1) := by decide +kernel
theorem d_make_264 : decode method_2_code 264 = .ok (.castore, 1) := by decide +kernel
theorem d_make_265 : decode method_2_code 265 = .ok (.dup, 1) := by decide +kernel
theorem d_make_266 : decode method_2_code 266 = .ok (.iconst 2, 1) := by decide +kernel
theorem d_make_267 : decode method_2_code 267 = .ok (.aload_n 0, 1) := by decide +kernel
theorem d_make_268 : decode method_2_code 268 = .ok (.iconst 2, 1) := by decide +kernel
theorem d_make_269 : decode method_2_code 269 = .ok (.caload, 1) := by decide +kernel
theorem d_make_270 : decode method_2_code 270 = .ok (.castore, 1) := by decide +kernel
theorem d_make_271 : decode method_2_code 271 = .ok (.dup, 1) := by decide +kernel
theorem d_make_272 : decode method_2_code 272 = .ok (.iconst 3, 1) := by decide +kernel
theorem d_make_273 : decode method_2_code 273 = .ok (.aload_n 0, 1) := by decide +kernel
theorem d_make_274 : decode method_2_code 274 = .ok (.iconst 3, 1) := by decide +kernel
theorem d_make_275 : decode method_2_code 275 = .ok (.caload, 1) := by decide +kernel
theorem d_make_276 : decode method_2_code 276 = .ok (.castore, 1) := by decide +kernel
theorem d_make_277 : decode method_2_code 277 = .ok (.dup, 1) := by decide +kernel
theorem d_make_278 : decode method_2_code 278 = .ok (.iconst 4, 1) := by decide +kernel
theorem d_make_279 : decode method_2_code 279 = .ok (.aload_n 0, 1) := by decide +kernel
theorem d_make_280 : decode method_2_code 280 = .ok (.iconst 4, 1) := by decide +kernel
theorem d_make_281 : decode method_2_code 281 = .ok (.caload, 1) := by decide +kernel
theorem d_make_282 : decode method_2_code 282 = .ok (.castore, 1) := by decide +kernel
theorem d_make_283 : decode method_2_code 283 = .ok (.dup, 1) := by decide +kernel
theorem d_make_284 : decode method_2_code 284 = .ok (.iconst 5, 1) := by decide +kernel
theorem d_make_285 : decode method_2_code 285 = .ok (.aload_n 0, 1) := by decide +kernel
theorem d_make_286 : decode method_2_code 286 = .ok (.iconst 5, 1) := by decide +kernel
theorem d_make_287 : decode method_2_code 287 = .ok (.caload, 1) := by decide +kernel
theorem d_make_288 : decode method_2_code 288 = .ok (.castore, 1) := by decide +kernel
theorem d_make_289 : decode method_2_code 289 = .ok (.dup, 1) := by decide +kernel
theorem d_make_290 : decode method_2_code 290 = .ok (.bipush 6, 2) := by decide +kernel
theorem d_make_292 : decode method_2_code 292 = .ok (.aload_n 0, 1) := by decide +kernel
theorem d_make_293 : decode method_2_code 293 = .ok (.bipush 6, 2) := by decide +kernel
theorem d_make_295 : decode method_2_code 295 = .ok (.caload, 1) := by decide +kernel
theorem d_make_296 : decode method_2_code 296 = .ok (.castore, 1) := by decide +kernel
theorem d_make_297 : decode method_2_code 297 = .ok (.invokespecial 9, 3) := by decide +kernel
theorem d_make_300 : decode method_2_code 300 = .ok (.areturn, 1) := by decide +kernel
theorem d_make_301 : decode method_2_code 301 = .ok (.iload_n 1, 1) := by decide +kernel
theorem d_make_302 : decode method_2_code 302 = .ok (.bipush 8, 2) := by decide +kernel
theorem d_make_304 : decode method_2_code 304 = .ok (.if_icmp .ne 67, 3) := by decide +kernel
theorem d_make_307 : decode method_2_code 307 = .ok (.new 7, 3) := by decide +kernel
theorem d_make_310 : decode method_2_code 310 = .ok (.dup, 1) := by decide +kernel
theorem d_make_311 : decode method_2_code 311 = .ok (.bipush 8, 2) := by decide +kernel
theorem d_make_313 : decode method_2_code 313 = .ok (.newarray .char, 2) := by decide +kernel
theorem d_make_315 : decode method_2_code 315 = .ok (.dup, 1) := by decide +kernel
theorem d_make_316 : decode method_2_code 316 = .ok (.iconst 0, 1) := by decide +kernel
theorem d_make_317 : decode method_2_code 317 = .ok (.aload_n 0, 1) := by decide +kernel
theorem d_make_318 : decode method_2_code 318 = .ok (.iconst 0, 1) := by decide +kernel
theorem d_make_319 : decode method_2_code 319 = .ok (.caload, 1) := by decide +kernel
theorem d_make_320 : decode method_2_code 320 = .ok (.castore, 1) := by decide +kernel
theorem d_make_321 : decode method_2_code 321 = .ok (.dup, 1) := by decide +kernel
theorem d_make_322 : decode method_2_code 322 = .ok (.iconst 1, 1) := by decide +kernel
theorem d_make_323 : decode method_2_code 323 = .ok (.aload_n 0, 1) := by decide +kernel
theorem d_make_324 : decode method_2_code 324 = .ok (.iconst 1, 1) := by decide +kernel
theorem d_make_325 : decode method_2_code 325 = .ok (.caload, 1) := by decide +kernel
theorem d_make_326 : decode method_2_code 326 = .ok (.castore, 1) := by decide +kernel
theorem d_make_327 : decode method_2_code 327 = .ok (.dup, 1) := by decide +kernel
theorem d_make_328 : decode method_2_code 328 = .ok (.iconst 2, 1) := by decide +kernel
theorem d_make_329 : decode method_2_code 329 = .ok (.aload_n 0, 1) := by decide +kernel
theorem d_make_330 : decode method_2_code 330 = .ok (.iconst 2, 1) := by decide +kernel
theorem d_make_331 : decode method_2_code 331 = .ok (.caload, 1) := by decide +kernel
theorem d_make_332 : decode method_2_code 332 = .ok (.castore, 1) := by decide +kernel
theorem d_make_333 : decode method_2_code 333 = .ok (.dup, 1) := by decide +kernel
theorem d_make_334 : decode method_2_code 334 = .ok (.iconst 3, 1) := by decide +kernel
theorem d_make_335 : decode method_2_code 335 = .ok (.aload_n 0, 1) := by decide +kernel
theorem d_make_336 : decode method_2_code 336 = .ok (.iconst 3, 1) := by decide +kernel
theorem d_make_337 : decode method_2_code 337 = .ok (.caload, 1) := by decide +kernel
theorem d_make_338 : decode method_2_code 338 = .ok (.castore, 1) := by decide +kernel
theorem d_make_339 : decode method_2_code 339 = .ok (.dup, 1) := by decide +kernel
theorem d_make_340 : decode method_2_code 340 = .ok (.iconst 4, 1) := by decide +kernel
theorem d_make_341 : decode method_2_code 341 = .ok (.aload_n 0, 1) := by decide +kernel
theorem d_make_342 : decode method_2_code 342 = .ok (.iconst 4, 1) := by decide +kernel
theorem d_make_343 : decode method_2_code 343 = .ok (.caload, 1) := by decide +kernel
theorem d_make_344 : decode method_2_code 344 = .ok (.castore, 1) := by decide +kernel
theorem d_make_345 : decode method_2_code 345 = .ok (.dup, 1) := by decide +kernel
theorem d_make_346 : decode method_2_code 346 = .ok (.iconst 5, 1) := by decide +kernel
theorem d_make_347 : decode method_2_code 347 = .ok (.aload_n 0, 1) := by decide +kernel
theorem d_make_348 : decode method_2_code 348 = .ok (.iconst 5, 1) := by decide +kernel
theorem d_make_349 : decode method_2_code 349 = .ok (.caload, 1) := by decide +kernel
theorem d_make_350 : decode method_2_code 350 = .ok (.castore, 1) := by decide +kernel
theorem d_make_351 : decode method_2_code 351 = .ok (.dup, 1) := by decide +kernel
theorem d_make_352 : decode method_2_code 352 = .ok (.bipush 6, 2) := by decide +kernel
theorem d_make_354 : decode method_2_code 354 = .ok (.aload_n 0, 1) := by decide +kernel
theorem d_make_355 : decode method_2_code 355 = .ok (.bipush 6, 2) := by decide +kernel
theorem d_make_357 : decode method_2_code 357 = .ok (.caload, 1) := by decide +kernel
theorem d_make_358 : decode method_2_code 358 = .ok (.castore, 1) := by decide +kernel
theorem d_make_359 : decode method_2_code 359 = .ok (.dup, 1) := by decide +kernel
theorem d_make_360 : decode method_2_code 360 = .ok (.bipush 7, 2) := by decide +kernel
theorem d_make_362 : decode method_2_code 362 = .ok (.aload_n 0, 1) := by decide +kernel
theorem d_make_363 : decode method_2_code 363 = .ok (.bipush 7, 2) := by decide +kernel
theorem d_make_365 : decode method_2_code 365 = .ok (.caload, 1) := by decide +kernel
theorem d_make_366 : decode method_2_code 366 = .ok (.castore, 1) := by decide +kernel
theorem d_make_367 : decode method_2_code 367 = .ok (.invokespecial 9, 3) := by decide +kernel
theorem d_make_370 : decode method_2_code 370 = .ok (.areturn, 1) := by decide +kernel
theorem d_make_371 : decode method_2_code 371 = .ok (.new 7, 3) := by decide +kernel
theorem d_make_374 : decode method_2_code 374 = .ok (.dup, 1) := by decide +kernel
theorem d_make_375 : decode method_2_code 375 = .ok (.bipush 9, 2) := by decide +kernel
theorem d_make_377 : decode method_2_code 377 = .ok (.newarray .char, 2) := by decide +kernel
theorem d_make_379 : decode method_2_code 379 = .ok (.dup, 1) := by decide +kernel
theorem d_make_380 : decode method_2_code 380 = .ok (.iconst 0, 1) := by decide +kernel
theorem d_make_381 : decode method_2_code 381 = .ok (.aload_n 0, 1) := by decide +kernel
theorem d_make_382 : decode method_2_code 382 = .ok (.iconst 0, 1) := by decide +kernel
theorem d_make_383 : decode method_2_code 383 = .ok (.caload, 1) := by decide +kernel
theorem d_make_384 : decode method_2_code 384 = .ok (.castore, 1) := by decide +kernel
theorem d_make_385 : decode method_2_code 385 = .ok (.dup, 1) := by decide +kernel
theorem d_make_386 : decode method_2_code 386 = .ok (.iconst 1, 1) := by decide +kernel
theorem d_make_387 : decode method_2_code 387 = .ok (.aload_n 0, 1) := by decide +kernel
theorem d_make_388 : decode method_2_code 388 = .ok (.iconst 1, 1) := by decide +kernel
theorem d_make_389 : decode method_2_code 389 = .ok (.caload, 1) := by decide +kernel
theorem d_make_390 : decode method_2_code 390 = .ok (.castore, 1) := by decide +kernel
theorem d_make_391 : decode method_2_code 391 = .ok (.dup, 1) := by decide +kernel
theorem d_make_392 : decode method_2_code 392 = .ok (.iconst 2, 1) := by decide +kernel
theorem d_make_393 : decode method_2_code 393 = .ok (.aload_n 0, 1) := by decide +kernel
theorem d_make_394 : decode method_2_code 394 = .ok (.iconst 2, 1) := by decide +kernel
theorem d_make_395 : decode method_2_code 395 = .ok (.caload, 1) := by decide +kernel
theorem d_make_396 : decode method_2_code 396 = .ok (.castore, 1) := by decide +kernel
theorem d_make_397 : decode method_2_code 397 = .ok (.dup, 1) := by decide +kernel
theorem d_make_398 : decode method_2_code 398 = .ok (.iconst 3, 1) := by decide +kernel
theorem d_make_399 : decode method_2_code 399 = .ok (.aload_n 0, 1) := by decide +kernel
theorem d_make_400 : decode method_2_code 400 = .ok (.iconst 3, 1) := by decide +kernel
theorem d_make_401 : decode method_2_code 401 = .ok (.caload, 1) := by decide +kernel
theorem d_make_402 : decode method_2_code 402 = .ok (.castore, 1) := by decide +kernel
theorem d_make_403 : decode method_2_code 403 = .ok (.dup, 1) := by decide +kernel
theorem d_make_404 : decode method_2_code 404 = .ok (.iconst 4, 1) := by decide +kernel
theorem d_make_405 : decode method_2_code 405 = .ok (.aload_n 0, 1) := by decide +kernel
theorem d_make_406 : decode method_2_code 406 = .ok (.iconst 4, 1) := by decide +kernel
theorem d_make_407 : decode method_2_code 407 = .ok (.caload, 1) := by decide +kernel
theorem d_make_408 : decode method_2_code 408 = .ok (.castore, 1) := by decide +kernel
theorem d_make_409 : decode method_2_code 409 = .ok (.dup, 1) := by decide +kernel
theorem d_make_410 : decode method_2_code 410 = .ok (.iconst 5, 1) := by decide +kernel
theorem d_make_411 : decode method_2_code 411 = .ok (.aload_n 0, 1) := by decide +kernel
theorem d_make_412 : decode method_2_code 412 = .ok (.iconst 5, 1) := by decide +kernel
theorem d_make_413 : decode method_2_code 413 = .ok (.caload, 1) := by decide +kernel
theorem d_make_414 : decode method_2_code 414 = .ok (.castore, 1) := by decide +kernel
theorem d_make_415 : decode method_2_code 415 = .ok (.dup, 1) := by decide +kernel
theorem d_make_416 : decode method_2_code 416 = .ok (.bipush 6, 2) := by decide +kernel
theorem d_make_418 : decode method_2_code 418 = .ok (.aload_n 0, 1) := by decide +kernel
theorem d_make_419 : decode method_2_code 419 = .ok (.bipush 6, 2) := by decide +kernel
theorem d_make_421 : decode method_2_code 421 = .ok (.caload, 1) := by decide +kernel
theorem d_make_422 : decode method_2_code 422 = .ok (.castore, 1) := by decide +kernel
theorem d_make_423 : decode method_2_code 423 = .ok (.dup, 1) := by decide +kernel
theorem d_make_424 : decode method_2_code 424 = .ok (.bipush 7, 2) := by decide +kernel
theorem d_make_426 : decode method_2_code 426 = .ok (.aload_n 0, 1) := by decide +kernel
theorem d_make_427 : decode method_2_code 427 = .ok (.bipush 7, 2) := by decide +kernel
theorem d_make_429 : decode method_2_code 429 = .ok (.caload, 1) := by decide +kernel
theorem d_make_430 : decode method_2_code 430 = .ok (.castore, 1) := by decide +kernel
theorem d_make_431 : decode method_2_code 431 = .ok (.dup, 1) := by decide +kernel
theorem d_make_432 : decode method_2_code 432 = .ok (.bipush 8, 2) := by decide +kernel
theorem d_make_434 : decode method_2_code 434 = .ok (.aload_n 0, 1) := by decide +kernel
theorem d_make_435 : decode method_2_code 435 = .ok (.bipush 8, 2) := by decide +kernel
theorem d_make_437 : decode method_2_code 437 = .ok (.caload, 1) := by decide +kernel
theorem d_make_438 : decode method_2_code 438 = .ok (.castore, 1) := by decide +kernel
theorem d_make_439 : decode method_2_code 439 = .ok (.invokespecial 9, 3) := by decide +kernel
theorem d_make_442 : decode method_2_code 442 = .ok (.areturn, 1) := by decide +kernel
abbrev rm_make : Room := ({ frames := 4, cells := 6, slots := 22, locals := 66 } : Room)
def Q_make (Z : State) (b : Addr) (kC : ClassId) (bs : List Int32) (dv : Value) (n : Int32) (h0 : Heap) (v : Option Value) (h : Heap) : Prop := ∃ x t cs, v = some (.ref x) ∧ Keep h0 h [] ∧ OStr Z h x t cs
set_option maxRecDepth 65536 in
set_option maxHeartbeats 40000000 in
theorem ct_make (l : Launch) (Z : State) (a0 : Array Value) (hw : ∀ d ∈ tables_1, d.before a0 Z = true) (G1 : Int32) (G3 : Value) (OS : Sts Z G1 G3) (hEL : EW Z a0 EL) (hSA : ∀ a ∈ Bundle.stringAtoms, a.before a0 Z = true) (b : Addr) (kC : ClassId) (bs : List Int32) (dv : Value) (n : Int32) {h0 : Heap} (O : Ext Z.heap h0) (V0 : Arv Z h0 b kC .char (9 : Int32) (bs.map Value.int) dv) (h9 : bs.length = 9) (hb : ∀ c ∈ bs, ¬ c < 0 ∧ ¬ (255 : Int32) < c) : CtW l Z (⟨"com/example/panoptes/panoptes/RoleFromListedNamePinLaw", "make", "([CI)Ljava/lang/String;"⟩ : MethodName) method_2_code 2 (some (.object "java/lang/String")) rm_make #[(.ref b), (.int n)] h0 (Q_make Z b kC bs dv n h0) := by
  refine CtW.of_body (Ls := #[.val (.ref b), .val (.int n)]) (by decide +kernel) O hEL (fun m => by first | rfl | (simp [entryFrame, mkF, argsToLocals, Value.category]; done) | (rcases ref_cases (Sts.ref OS) with rfl | ⟨r, rfl⟩ <;> rfl)) ?_
  intro p e s m below meth c T0 X0 e0
  subst e0
  have K00 := Keep.refl T0.heap []
  refine F_iloadN X0 d_make_0 rfl (pc' := 1) rfl ?_
  by_cases hc1 : 0 < n
  · skip
    refine F_ifT X0 d_make_1 (XT.i0_gt_t hc1) (pc' := 15) (by decide) rfl ?_
    refine F_iloadN X0 d_make_15 rfl (pc' := 16) rfl ?_
    refine F_iconst X0 (v := (1 : Int32)) d_make_16 rfl (pc' := 17) rfl ?_
    by_cases hc17 : n = (1 : Int32)
    · skip
      refine F_icF X0 d_make_17 (XT.ii_ne_f hc17) (pc' := 20) rfl ?_
      refine F_new X0 d_make_20 (hw _ (List.mem_of_getElem? (i := 5) rfl)) (hw _ (List.mem_of_getElem? (i := 6) rfl)) (hw _ (List.mem_of_getElem? (i := 7) rfl)) (by decide) (by decide) (pc' := 23) rfl ?_
      intro T1 b3 X2 hb4 K5 E6 D7
      have sz8 : T0.heap.size ≤ b3 := Nat.le_trans K00.1 (Nat.le_of_eq hb4.symm)
      have ne9 : b ≠ b3 := Nat.ne_of_lt (Nat.lt_of_lt_of_eq V0.lt hb4.symm)
      have KK10 := K00.trans K5 (fun x q => nomatch q)
      have Arv_11 := V0.keep K5 nin0
      have g12 : Z.heap.size ≤ b3 := Nat.le_trans X0.le (Nat.le_of_eq hb4.symm)
      have F13 : Fld Z T1.heap b3 "java/lang/String" "coder" "B" (.int (0 : Int32)) := D7 (Or.inr (hw _ (List.mem_of_getElem? (i := 31) rfl))) (ty := .byte) (by decide)
      have F14 : Fld Z T1.heap b3 "java/lang/String" "value" "[B" .null := D7 (Or.inr (hw _ (List.mem_of_getElem? (i := 33) rfl))) (ty := (.array .byte)) (by decide)
      refine F_dup X2 d_make_23 rfl (pc' := 24) rfl ?_
      refine F_iconst X2 (v := (1 : Int32)) d_make_24 rfl (pc' := 25) rfl ?_
      refine F_newarray X2 1 d_make_25 (hw _ (List.mem_of_getElem? (i := 0) rfl)) (by decide) (by decide) (by decide) (by decide) (by decide) (pc' := 27) rfl ?_
      intro T15 b17 k21 X16 hb18 K19 V20
      have sz22 : T0.heap.size ≤ b17 := Nat.le_trans KK10.1 (Nat.le_of_eq hb18.symm)
      have ne23 : b ≠ b17 := Nat.ne_of_lt (Nat.lt_of_lt_of_eq Arv_11.lt hb18.symm)
      have ne24 : b3 ≠ b17 := Nat.ne_of_lt (Nat.lt_of_lt_of_eq E6.lt hb18.symm)
      have KK25 := KK10.trans K19 (fun x q => nomatch q)
      have Arv_26 := Arv_11.keep K19 nin0
      have Exa_27 := E6.keep K19
      have Fld_28 := F13.keep K19 nin0
      have Fld_29 := F14.keep K19 nin0
      have g30 : Z.heap.size ≤ b17 := Nat.le_trans X2.le (Nat.le_of_eq hb18.symm)
      have V31 : Arv Z T15.heap b17 k21 .char (1 : Int32) [(.int (0 : Int32))] (.int (0 : Int32)) := V20.pad (pad_rep [] (.int (0 : Int32)) 1)
      refine F_dup X16 d_make_27 rfl (pc' := 28) rfl ?_
      refine F_iconst X16 (v := (0 : Int32)) d_make_28 rfl (pc' := 29) rfl ?_
      refine F_aloadN X16 d_make_29 rfl rfl (pc' := 30) rfl ?_
      refine F_iconst X16 (v := (0 : Int32)) d_make_30 rfl (pc' := 31) rfl ?_
      refine F_caload X16 (v := (.int (bs.getD 0 0))) d_make_31 Arv_26 ⟨by decide, by decide⟩ (own_gd (i := 0) (by omega)) (pc' := 32) rfl ?_
      refine F_castore X16 0 (y := (bs.getD 0 0)) d_make_32 (c8_nar (hb _ (own_mem (by omega)))) V31 ⟨by decide, by decide⟩ rfl (Nat.le_of_ble_eq_true rfl) g30 (pc' := 33) rfl ?_
      intro T32 X33 K34 V35
      have KK36 := KK25.trans K34 (allS (Or.inr sz22) (fun x q => nomatch q))
      have Arv_37 := Arv_26.keep K34 (ninS ne23 nin0)
      have Exa_38 := Exa_27.keep K34
      have Fld_39 := Fld_28.keep K34 (ninS ne24 nin0)
      have Fld_40 := Fld_29.keep K34 (ninS ne24 nin0)
      have V41 : Arv Z T32.heap b17 k21 .char (1 : Int32) [(.int (bs.getD 0 0))] (.int (0 : Int32)) := V35
      refine F_special X33 (rm := rm_sinit) (a := b3) d_make_33 rfl rfl (hw _ (List.mem_of_getElem? (i := 8) rfl)) (hw _ (List.mem_of_getElem? (i := 9) rfl)) (hw _ (List.mem_of_getElem? (i := 10) rfl)) (by decide) (hw _ (List.mem_of_getElem? (i := 7) rfl)) (argsL := [(.ref b17)]) (st := [(.ref b3)]) rfl (ct_sinit l Z a0 hw G1 G3 OS hEL hSA b3 b17 k21 [(bs.getD 0 0)] (.int (0 : Int32)) .null (.int (0 : Int32)) X33.old (Nat.le_of_ble_eq_true rfl) (Nat.le_of_ble_eq_true rfl) (allC (hb _ (own_mem (by omega))) allN) Exa_38 Fld_40 Fld_39 g12 V41) (lenOf (pd_5) rfl) rfl (by decide) (by decide) (by decide) (Nat.le_of_ble_eq_true rfl) [b3] (fun _ _ q => q.2.1) (sfS (own_safe X33.al Exa_38 Fld_40 (hw _ (List.mem_of_getElem? (i := 6) rfl))) (sf0))  (pc' := 36) rfl ?_
      intro T42 _ X43 hQ44
      obtain ⟨rfl, K45, t46, sz47, S48⟩ := hQ44
      have ne49 : b ≠ t46 := Nat.ne_of_lt (Nat.lt_of_lt_of_le Arv_37.lt sz47)
      have ne50 : b3 ≠ t46 := Nat.ne_of_lt (Nat.lt_of_lt_of_le Exa_38.lt sz47)
      have ne51 : b17 ≠ t46 := Nat.ne_of_lt (Nat.lt_of_lt_of_le V41.lt sz47)
      have KK52 := KK36.trans K45 (allS (Or.inr sz8) (fun x q => nomatch q))
      have Arv_53 := Arv_37.keep K45 (ninS ne9 nin0)
      have Arv_54 := V41.keep K45 (ninS (Ne.symm ne24) nin0)
      have sz55 : T0.heap.size ≤ t46 := Nat.le_trans KK36.1 sz47
      show EndW p e below s Z _ _ _ T42 (mkF m 36 #[.val (.ref b), .val (.int n)] [(.ref b3)])
      exact F_areturn X43 (t := (.object "java/lang/String")) d_make_36 rfl rfl rfl rfl (by decide) (by decide) (⟨b3, t46, _, rfl, KK52, S48⟩)
    · skip
      refine F_icT X0 d_make_17 (XT.ii_ne_t hc17) (pc' := 37) (by decide) rfl ?_
      refine F_iloadN X0 d_make_37 rfl (pc' := 38) rfl ?_
      refine F_iconst X0 (v := (2 : Int32)) d_make_38 rfl (pc' := 39) rfl ?_
      by_cases hc39 : n = (2 : Int32)
      · skip
        refine F_icF X0 d_make_39 (XT.ii_ne_f hc39) (pc' := 42) rfl ?_
        refine F_new X0 d_make_42 (hw _ (List.mem_of_getElem? (i := 5) rfl)) (hw _ (List.mem_of_getElem? (i := 6) rfl)) (hw _ (List.mem_of_getElem? (i := 7) rfl)) (by decide) (by decide) (pc' := 45) rfl ?_
        intro T56 b58 X57 hb59 K60 E61 D62
        have sz63 : T0.heap.size ≤ b58 := Nat.le_trans K00.1 (Nat.le_of_eq hb59.symm)
        have ne64 : b ≠ b58 := Nat.ne_of_lt (Nat.lt_of_lt_of_eq V0.lt hb59.symm)
        have KK65 := K00.trans K60 (fun x q => nomatch q)
        have Arv_66 := V0.keep K60 nin0
        have g67 : Z.heap.size ≤ b58 := Nat.le_trans X0.le (Nat.le_of_eq hb59.symm)
        have F68 : Fld Z T56.heap b58 "java/lang/String" "coder" "B" (.int (0 : Int32)) := D62 (Or.inr (hw _ (List.mem_of_getElem? (i := 31) rfl))) (ty := .byte) (by decide)
        have F69 : Fld Z T56.heap b58 "java/lang/String" "value" "[B" .null := D62 (Or.inr (hw _ (List.mem_of_getElem? (i := 33) rfl))) (ty := (.array .byte)) (by decide)
        refine F_dup X57 d_make_45 rfl (pc' := 46) rfl ?_
        refine F_iconst X57 (v := (2 : Int32)) d_make_46 rfl (pc' := 47) rfl ?_
        refine F_newarray X57 2 d_make_47 (hw _ (List.mem_of_getElem? (i := 0) rfl)) (by decide) (by decide) (by decide) (by decide) (by decide) (pc' := 49) rfl ?_
        intro T70 b72 k76 X71 hb73 K74 V75
        have sz77 : T0.heap.size ≤ b72 := Nat.le_trans KK65.1 (Nat.le_of_eq hb73.symm)
        have ne78 : b ≠ b72 := Nat.ne_of_lt (Nat.lt_of_lt_of_eq Arv_66.lt hb73.symm)
        have ne79 : b58 ≠ b72 := Nat.ne_of_lt (Nat.lt_of_lt_of_eq E61.lt hb73.symm)
        have KK80 := KK65.trans K74 (fun x q => nomatch q)
        have Arv_81 := Arv_66.keep K74 nin0
        have Exa_82 := E61.keep K74
        have Fld_83 := F68.keep K74 nin0
        have Fld_84 := F69.keep K74 nin0
        have g85 : Z.heap.size ≤ b72 := Nat.le_trans X57.le (Nat.le_of_eq hb73.symm)
        have V86 : Arv Z T70.heap b72 k76 .char (2 : Int32) [(.int (0 : Int32)), (.int (0 : Int32))] (.int (0 : Int32)) := V75.pad (pad_rep [] (.int (0 : Int32)) 2)
        refine F_dup X71 d_make_49 rfl (pc' := 50) rfl ?_
        refine F_iconst X71 (v := (0 : Int32)) d_make_50 rfl (pc' := 51) rfl ?_
        refine F_aloadN X71 d_make_51 rfl rfl (pc' := 52) rfl ?_
        refine F_iconst X71 (v := (0 : Int32)) d_make_52 rfl (pc' := 53) rfl ?_
        refine F_caload X71 (v := (.int (bs.getD 0 0))) d_make_53 Arv_81 ⟨by decide, by decide⟩ (own_gd (i := 0) (by omega)) (pc' := 54) rfl ?_
        refine F_castore X71 0 (y := (bs.getD 0 0)) d_make_54 (c8_nar (hb _ (own_mem (by omega)))) V86 ⟨by decide, by decide⟩ rfl (Nat.le_of_ble_eq_true rfl) g85 (pc' := 55) rfl ?_
        intro T87 X88 K89 V90
        have KK91 := KK80.trans K89 (allS (Or.inr sz77) (fun x q => nomatch q))
        have Arv_92 := Arv_81.keep K89 (ninS ne78 nin0)
        have Exa_93 := Exa_82.keep K89
        have Fld_94 := Fld_83.keep K89 (ninS ne79 nin0)
        have Fld_95 := Fld_84.keep K89 (ninS ne79 nin0)
        have V96 : Arv Z T87.heap b72 k76 .char (2 : Int32) [(.int (bs.getD 0 0)), (.int (0 : Int32))] (.int (0 : Int32)) := V90
        refine F_dup X88 d_make_55 rfl (pc' := 56) rfl ?_
        refine F_iconst X88 (v := (1 : Int32)) d_make_56 rfl (pc' := 57) rfl ?_
        refine F_aloadN X88 d_make_57 rfl rfl (pc' := 58) rfl ?_
        refine F_iconst X88 (v := (1 : Int32)) d_make_58 rfl (pc' := 59) rfl ?_
        refine F_caload X88 (v := (.int (bs.getD 1 0))) d_make_59 Arv_92 ⟨by decide, by decide⟩ (own_gd (i := 1) (by omega)) (pc' := 60) rfl ?_
        refine F_castore X88 1 (y := (bs.getD 1 0)) d_make_60 (c8_nar (hb _ (own_mem (by omega)))) V96 ⟨by decide, by decide⟩ rfl (Nat.le_of_ble_eq_true rfl) g85 (pc' := 61) rfl ?_
        intro T97 X98 K99 V100
        have KK101 := KK91.trans K99 (allS (Or.inr sz77) (fun x q => nomatch q))
        have Arv_102 := Arv_92.keep K99 (ninS ne78 nin0)
        have Exa_103 := Exa_93.keep K99
        have Fld_104 := Fld_94.keep K99 (ninS ne79 nin0)
        have Fld_105 := Fld_95.keep K99 (ninS ne79 nin0)
        have V106 : Arv Z T97.heap b72 k76 .char (2 : Int32) [(.int (bs.getD 0 0)), (.int (bs.getD 1 0))] (.int (0 : Int32)) := V100
        refine F_special X98 (rm := rm_sinit) (a := b58) d_make_61 rfl rfl (hw _ (List.mem_of_getElem? (i := 8) rfl)) (hw _ (List.mem_of_getElem? (i := 9) rfl)) (hw _ (List.mem_of_getElem? (i := 10) rfl)) (by decide) (hw _ (List.mem_of_getElem? (i := 7) rfl)) (argsL := [(.ref b72)]) (st := [(.ref b58)]) rfl (ct_sinit l Z a0 hw G1 G3 OS hEL hSA b58 b72 k76 [(bs.getD 0 0), (bs.getD 1 0)] (.int (0 : Int32)) .null (.int (0 : Int32)) X98.old (Nat.le_of_ble_eq_true rfl) (Nat.le_of_ble_eq_true rfl) (allC (hb _ (own_mem (by omega))) (allC (hb _ (own_mem (by omega))) allN)) Exa_103 Fld_105 Fld_104 g67 V106) (lenOf (pd_5) rfl) rfl (by decide) (by decide) (by decide) (Nat.le_of_ble_eq_true rfl) [b58] (fun _ _ q => q.2.1) (sfS (own_safe X98.al Exa_103 Fld_105 (hw _ (List.mem_of_getElem? (i := 6) rfl))) (sf0))  (pc' := 64) rfl ?_
        intro T107 _ X108 hQ109
        obtain ⟨rfl, K110, t111, sz112, S113⟩ := hQ109
        have ne114 : b ≠ t111 := Nat.ne_of_lt (Nat.lt_of_lt_of_le Arv_102.lt sz112)
        have ne115 : b58 ≠ t111 := Nat.ne_of_lt (Nat.lt_of_lt_of_le Exa_103.lt sz112)
        have ne116 : b72 ≠ t111 := Nat.ne_of_lt (Nat.lt_of_lt_of_le V106.lt sz112)
        have KK117 := KK101.trans K110 (allS (Or.inr sz63) (fun x q => nomatch q))
        have Arv_118 := Arv_102.keep K110 (ninS ne64 nin0)
        have Arv_119 := V106.keep K110 (ninS (Ne.symm ne79) nin0)
        have sz120 : T0.heap.size ≤ t111 := Nat.le_trans KK101.1 sz112
        show EndW p e below s Z _ _ _ T107 (mkF m 64 #[.val (.ref b), .val (.int n)] [(.ref b58)])
        exact F_areturn X108 (t := (.object "java/lang/String")) d_make_64 rfl rfl rfl rfl (by decide) (by decide) (⟨b58, t111, _, rfl, KK117, S113⟩)
      · skip
        refine F_icT X0 d_make_39 (XT.ii_ne_t hc39) (pc' := 65) (by decide) rfl ?_
        refine F_iloadN X0 d_make_65 rfl (pc' := 66) rfl ?_
        refine F_iconst X0 (v := (3 : Int32)) d_make_66 rfl (pc' := 67) rfl ?_
        by_cases hc67 : n = (3 : Int32)
        · skip
          refine F_icF X0 d_make_67 (XT.ii_ne_f hc67) (pc' := 70) rfl ?_
          refine F_new X0 d_make_70 (hw _ (List.mem_of_getElem? (i := 5) rfl)) (hw _ (List.mem_of_getElem? (i := 6) rfl)) (hw _ (List.mem_of_getElem? (i := 7) rfl)) (by decide) (by decide) (pc' := 73) rfl ?_
          intro T121 b123 X122 hb124 K125 E126 D127
          have sz128 : T0.heap.size ≤ b123 := Nat.le_trans K00.1 (Nat.le_of_eq hb124.symm)
          have ne129 : b ≠ b123 := Nat.ne_of_lt (Nat.lt_of_lt_of_eq V0.lt hb124.symm)
          have KK130 := K00.trans K125 (fun x q => nomatch q)
          have Arv_131 := V0.keep K125 nin0
          have g132 : Z.heap.size ≤ b123 := Nat.le_trans X0.le (Nat.le_of_eq hb124.symm)
          have F133 : Fld Z T121.heap b123 "java/lang/String" "coder" "B" (.int (0 : Int32)) := D127 (Or.inr (hw _ (List.mem_of_getElem? (i := 31) rfl))) (ty := .byte) (by decide)
          have F134 : Fld Z T121.heap b123 "java/lang/String" "value" "[B" .null := D127 (Or.inr (hw _ (List.mem_of_getElem? (i := 33) rfl))) (ty := (.array .byte)) (by decide)
          refine F_dup X122 d_make_73 rfl (pc' := 74) rfl ?_
          refine F_iconst X122 (v := (3 : Int32)) d_make_74 rfl (pc' := 75) rfl ?_
          refine F_newarray X122 3 d_make_75 (hw _ (List.mem_of_getElem? (i := 0) rfl)) (by decide) (by decide) (by decide) (by decide) (by decide) (pc' := 77) rfl ?_
          intro T135 b137 k141 X136 hb138 K139 V140
          have sz142 : T0.heap.size ≤ b137 := Nat.le_trans KK130.1 (Nat.le_of_eq hb138.symm)
          have ne143 : b ≠ b137 := Nat.ne_of_lt (Nat.lt_of_lt_of_eq Arv_131.lt hb138.symm)
          have ne144 : b123 ≠ b137 := Nat.ne_of_lt (Nat.lt_of_lt_of_eq E126.lt hb138.symm)
          have KK145 := KK130.trans K139 (fun x q => nomatch q)
          have Arv_146 := Arv_131.keep K139 nin0
          have Exa_147 := E126.keep K139
          have Fld_148 := F133.keep K139 nin0
          have Fld_149 := F134.keep K139 nin0
          have g150 : Z.heap.size ≤ b137 := Nat.le_trans X122.le (Nat.le_of_eq hb138.symm)
          have V151 : Arv Z T135.heap b137 k141 .char (3 : Int32) [(.int (0 : Int32)), (.int (0 : Int32)), (.int (0 : Int32))] (.int (0 : Int32)) := V140.pad (pad_rep [] (.int (0 : Int32)) 3)
          refine F_dup X136 d_make_77 rfl (pc' := 78) rfl ?_
          refine F_iconst X136 (v := (0 : Int32)) d_make_78 rfl (pc' := 79) rfl ?_
          refine F_aloadN X136 d_make_79 rfl rfl (pc' := 80) rfl ?_
          refine F_iconst X136 (v := (0 : Int32)) d_make_80 rfl (pc' := 81) rfl ?_
          refine F_caload X136 (v := (.int (bs.getD 0 0))) d_make_81 Arv_146 ⟨by decide, by decide⟩ (own_gd (i := 0) (by omega)) (pc' := 82) rfl ?_
          refine F_castore X136 0 (y := (bs.getD 0 0)) d_make_82 (c8_nar (hb _ (own_mem (by omega)))) V151 ⟨by decide, by decide⟩ rfl (Nat.le_of_ble_eq_true rfl) g150 (pc' := 83) rfl ?_
          intro T152 X153 K154 V155
          have KK156 := KK145.trans K154 (allS (Or.inr sz142) (fun x q => nomatch q))
          have Arv_157 := Arv_146.keep K154 (ninS ne143 nin0)
          have Exa_158 := Exa_147.keep K154
          have Fld_159 := Fld_148.keep K154 (ninS ne144 nin0)
          have Fld_160 := Fld_149.keep K154 (ninS ne144 nin0)
          have V161 : Arv Z T152.heap b137 k141 .char (3 : Int32) [(.int (bs.getD 0 0)), (.int (0 : Int32)), (.int (0 : Int32))] (.int (0 : Int32)) := V155
          refine F_dup X153 d_make_83 rfl (pc' := 84) rfl ?_
          refine F_iconst X153 (v := (1 : Int32)) d_make_84 rfl (pc' := 85) rfl ?_
          refine F_aloadN X153 d_make_85 rfl rfl (pc' := 86) rfl ?_
          refine F_iconst X153 (v := (1 : Int32)) d_make_86 rfl (pc' := 87) rfl ?_
          refine F_caload X153 (v := (.int (bs.getD 1 0))) d_make_87 Arv_157 ⟨by decide, by decide⟩ (own_gd (i := 1) (by omega)) (pc' := 88) rfl ?_
          refine F_castore X153 1 (y := (bs.getD 1 0)) d_make_88 (c8_nar (hb _ (own_mem (by omega)))) V161 ⟨by decide, by decide⟩ rfl (Nat.le_of_ble_eq_true rfl) g150 (pc' := 89) rfl ?_
          intro T162 X163 K164 V165
          have KK166 := KK156.trans K164 (allS (Or.inr sz142) (fun x q => nomatch q))
          have Arv_167 := Arv_157.keep K164 (ninS ne143 nin0)
          have Exa_168 := Exa_158.keep K164
          have Fld_169 := Fld_159.keep K164 (ninS ne144 nin0)
          have Fld_170 := Fld_160.keep K164 (ninS ne144 nin0)
          have V171 : Arv Z T162.heap b137 k141 .char (3 : Int32) [(.int (bs.getD 0 0)), (.int (bs.getD 1 0)), (.int (0 : Int32))] (.int (0 : Int32)) := V165
          refine F_dup X163 d_make_89 rfl (pc' := 90) rfl ?_
          refine F_iconst X163 (v := (2 : Int32)) d_make_90 rfl (pc' := 91) rfl ?_
          refine F_aloadN X163 d_make_91 rfl rfl (pc' := 92) rfl ?_
          refine F_iconst X163 (v := (2 : Int32)) d_make_92 rfl (pc' := 93) rfl ?_
          refine F_caload X163 (v := (.int (bs.getD 2 0))) d_make_93 Arv_167 ⟨by decide, by decide⟩ (own_gd (i := 2) (by omega)) (pc' := 94) rfl ?_
          refine F_castore X163 2 (y := (bs.getD 2 0)) d_make_94 (c8_nar (hb _ (own_mem (by omega)))) V171 ⟨by decide, by decide⟩ rfl (Nat.le_of_ble_eq_true rfl) g150 (pc' := 95) rfl ?_
          intro T172 X173 K174 V175
          have KK176 := KK166.trans K174 (allS (Or.inr sz142) (fun x q => nomatch q))
          have Arv_177 := Arv_167.keep K174 (ninS ne143 nin0)
          have Exa_178 := Exa_168.keep K174
          have Fld_179 := Fld_169.keep K174 (ninS ne144 nin0)
          have Fld_180 := Fld_170.keep K174 (ninS ne144 nin0)
          have V181 : Arv Z T172.heap b137 k141 .char (3 : Int32) [(.int (bs.getD 0 0)), (.int (bs.getD 1 0)), (.int (bs.getD 2 0))] (.int (0 : Int32)) := V175
          refine F_special X173 (rm := rm_sinit) (a := b123) d_make_95 rfl rfl (hw _ (List.mem_of_getElem? (i := 8) rfl)) (hw _ (List.mem_of_getElem? (i := 9) rfl)) (hw _ (List.mem_of_getElem? (i := 10) rfl)) (by decide) (hw _ (List.mem_of_getElem? (i := 7) rfl)) (argsL := [(.ref b137)]) (st := [(.ref b123)]) rfl (ct_sinit l Z a0 hw G1 G3 OS hEL hSA b123 b137 k141 [(bs.getD 0 0), (bs.getD 1 0), (bs.getD 2 0)] (.int (0 : Int32)) .null (.int (0 : Int32)) X173.old (Nat.le_of_ble_eq_true rfl) (Nat.le_of_ble_eq_true rfl) (allC (hb _ (own_mem (by omega))) (allC (hb _ (own_mem (by omega))) (allC (hb _ (own_mem (by omega))) allN))) Exa_178 Fld_180 Fld_179 g132 V181) (lenOf (pd_5) rfl) rfl (by decide) (by decide) (by decide) (Nat.le_of_ble_eq_true rfl) [b123] (fun _ _ q => q.2.1) (sfS (own_safe X173.al Exa_178 Fld_180 (hw _ (List.mem_of_getElem? (i := 6) rfl))) (sf0))  (pc' := 98) rfl ?_
          intro T182 _ X183 hQ184
          obtain ⟨rfl, K185, t186, sz187, S188⟩ := hQ184
          have ne189 : b ≠ t186 := Nat.ne_of_lt (Nat.lt_of_lt_of_le Arv_177.lt sz187)
          have ne190 : b123 ≠ t186 := Nat.ne_of_lt (Nat.lt_of_lt_of_le Exa_178.lt sz187)
          have ne191 : b137 ≠ t186 := Nat.ne_of_lt (Nat.lt_of_lt_of_le V181.lt sz187)
          have KK192 := KK176.trans K185 (allS (Or.inr sz128) (fun x q => nomatch q))
          have Arv_193 := Arv_177.keep K185 (ninS ne129 nin0)
          have Arv_194 := V181.keep K185 (ninS (Ne.symm ne144) nin0)
          have sz195 : T0.heap.size ≤ t186 := Nat.le_trans KK176.1 sz187
          show EndW p e below s Z _ _ _ T182 (mkF m 98 #[.val (.ref b), .val (.int n)] [(.ref b123)])
          exact F_areturn X183 (t := (.object "java/lang/String")) d_make_98 rfl rfl rfl rfl (by decide) (by decide) (⟨b123, t186, _, rfl, KK192, S188⟩)
        · skip
          refine F_icT X0 d_make_67 (XT.ii_ne_t hc67) (pc' := 99) (by decide) rfl ?_
          refine F_iloadN X0 d_make_99 rfl (pc' := 100) rfl ?_
          refine F_iconst X0 (v := (4 : Int32)) d_make_100 rfl (pc' := 101) rfl ?_
          by_cases hc101 : n = (4 : Int32)
          · skip
            refine F_icF X0 d_make_101 (XT.ii_ne_f hc101) (pc' := 104) rfl ?_
            refine F_new X0 d_make_104 (hw _ (List.mem_of_getElem? (i := 5) rfl)) (hw _ (List.mem_of_getElem? (i := 6) rfl)) (hw _ (List.mem_of_getElem? (i := 7) rfl)) (by decide) (by decide) (pc' := 107) rfl ?_
            intro T196 b198 X197 hb199 K200 E201 D202
            have sz203 : T0.heap.size ≤ b198 := Nat.le_trans K00.1 (Nat.le_of_eq hb199.symm)
            have ne204 : b ≠ b198 := Nat.ne_of_lt (Nat.lt_of_lt_of_eq V0.lt hb199.symm)
            have KK205 := K00.trans K200 (fun x q => nomatch q)
            have Arv_206 := V0.keep K200 nin0
            have g207 : Z.heap.size ≤ b198 := Nat.le_trans X0.le (Nat.le_of_eq hb199.symm)
            have F208 : Fld Z T196.heap b198 "java/lang/String" "coder" "B" (.int (0 : Int32)) := D202 (Or.inr (hw _ (List.mem_of_getElem? (i := 31) rfl))) (ty := .byte) (by decide)
            have F209 : Fld Z T196.heap b198 "java/lang/String" "value" "[B" .null := D202 (Or.inr (hw _ (List.mem_of_getElem? (i := 33) rfl))) (ty := (.array .byte)) (by decide)
            refine F_dup X197 d_make_107 rfl (pc' := 108) rfl ?_
            refine F_iconst X197 (v := (4 : Int32)) d_make_108 rfl (pc' := 109) rfl ?_
            refine F_newarray X197 4 d_make_109 (hw _ (List.mem_of_getElem? (i := 0) rfl)) (by decide) (by decide) (by decide) (by decide) (by decide) (pc' := 111) rfl ?_
            intro T210 b212 k216 X211 hb213 K214 V215
            have sz217 : T0.heap.size ≤ b212 := Nat.le_trans KK205.1 (Nat.le_of_eq hb213.symm)
            have ne218 : b ≠ b212 := Nat.ne_of_lt (Nat.lt_of_lt_of_eq Arv_206.lt hb213.symm)
            have ne219 : b198 ≠ b212 := Nat.ne_of_lt (Nat.lt_of_lt_of_eq E201.lt hb213.symm)
            have KK220 := KK205.trans K214 (fun x q => nomatch q)
            have Arv_221 := Arv_206.keep K214 nin0
            have Exa_222 := E201.keep K214
            have Fld_223 := F208.keep K214 nin0
            have Fld_224 := F209.keep K214 nin0
            have g225 : Z.heap.size ≤ b212 := Nat.le_trans X197.le (Nat.le_of_eq hb213.symm)
            have V226 : Arv Z T210.heap b212 k216 .char (4 : Int32) [(.int (0 : Int32)), (.int (0 : Int32)), (.int (0 : Int32)), (.int (0 : Int32))] (.int (0 : Int32)) := V215.pad (pad_rep [] (.int (0 : Int32)) 4)
            refine F_dup X211 d_make_111 rfl (pc' := 112) rfl ?_
            refine F_iconst X211 (v := (0 : Int32)) d_make_112 rfl (pc' := 113) rfl ?_
            refine F_aloadN X211 d_make_113 rfl rfl (pc' := 114) rfl ?_
            refine F_iconst X211 (v := (0 : Int32)) d_make_114 rfl (pc' := 115) rfl ?_
            refine F_caload X211 (v := (.int (bs.getD 0 0))) d_make_115 Arv_221 ⟨by decide, by decide⟩ (own_gd (i := 0) (by omega)) (pc' := 116) rfl ?_
            refine F_castore X211 0 (y := (bs.getD 0 0)) d_make_116 (c8_nar (hb _ (own_mem (by omega)))) V226 ⟨by decide, by decide⟩ rfl (Nat.le_of_ble_eq_true rfl) g225 (pc' := 117) rfl ?_
            intro T227 X228 K229 V230
            have KK231 := KK220.trans K229 (allS (Or.inr sz217) (fun x q => nomatch q))
            have Arv_232 := Arv_221.keep K229 (ninS ne218 nin0)
            have Exa_233 := Exa_222.keep K229
            have Fld_234 := Fld_223.keep K229 (ninS ne219 nin0)
            have Fld_235 := Fld_224.keep K229 (ninS ne219 nin0)
            have V236 : Arv Z T227.heap b212 k216 .char (4 : Int32) [(.int (bs.getD 0 0)), (.int (0 : Int32)), (.int (0 : Int32)), (.int (0 : Int32))] (.int (0 : Int32)) := V230
            refine F_dup X228 d_make_117 rfl (pc' := 118) rfl ?_
            refine F_iconst X228 (v := (1 : Int32)) d_make_118 rfl (pc' := 119) rfl ?_
            refine F_aloadN X228 d_make_119 rfl rfl (pc' := 120) rfl ?_
            refine F_iconst X228 (v := (1 : Int32)) d_make_120 rfl (pc' := 121) rfl ?_
            refine F_caload X228 (v := (.int (bs.getD 1 0))) d_make_121 Arv_232 ⟨by decide, by decide⟩ (own_gd (i := 1) (by omega)) (pc' := 122) rfl ?_
            refine F_castore X228 1 (y := (bs.getD 1 0)) d_make_122 (c8_nar (hb _ (own_mem (by omega)))) V236 ⟨by decide, by decide⟩ rfl (Nat.le_of_ble_eq_true rfl) g225 (pc' := 123) rfl ?_
            intro T237 X238 K239 V240
            have KK241 := KK231.trans K239 (allS (Or.inr sz217) (fun x q => nomatch q))
            have Arv_242 := Arv_232.keep K239 (ninS ne218 nin0)
            have Exa_243 := Exa_233.keep K239
            have Fld_244 := Fld_234.keep K239 (ninS ne219 nin0)
            have Fld_245 := Fld_235.keep K239 (ninS ne219 nin0)
            have V246 : Arv Z T237.heap b212 k216 .char (4 : Int32) [(.int (bs.getD 0 0)), (.int (bs.getD 1 0)), (.int (0 : Int32)), (.int (0 : Int32))] (.int (0 : Int32)) := V240
            refine F_dup X238 d_make_123 rfl (pc' := 124) rfl ?_
            refine F_iconst X238 (v := (2 : Int32)) d_make_124 rfl (pc' := 125) rfl ?_
            refine F_aloadN X238 d_make_125 rfl rfl (pc' := 126) rfl ?_
            refine F_iconst X238 (v := (2 : Int32)) d_make_126 rfl (pc' := 127) rfl ?_
            refine F_caload X238 (v := (.int (bs.getD 2 0))) d_make_127 Arv_242 ⟨by decide, by decide⟩ (own_gd (i := 2) (by omega)) (pc' := 128) rfl ?_
            refine F_castore X238 2 (y := (bs.getD 2 0)) d_make_128 (c8_nar (hb _ (own_mem (by omega)))) V246 ⟨by decide, by decide⟩ rfl (Nat.le_of_ble_eq_true rfl) g225 (pc' := 129) rfl ?_
            intro T247 X248 K249 V250
            have KK251 := KK241.trans K249 (allS (Or.inr sz217) (fun x q => nomatch q))
            have Arv_252 := Arv_242.keep K249 (ninS ne218 nin0)
            have Exa_253 := Exa_243.keep K249
            have Fld_254 := Fld_244.keep K249 (ninS ne219 nin0)
            have Fld_255 := Fld_245.keep K249 (ninS ne219 nin0)
            have V256 : Arv Z T247.heap b212 k216 .char (4 : Int32) [(.int (bs.getD 0 0)), (.int (bs.getD 1 0)), (.int (bs.getD 2 0)), (.int (0 : Int32))] (.int (0 : Int32)) := V250
            refine F_dup X248 d_make_129 rfl (pc' := 130) rfl ?_
            refine F_iconst X248 (v := (3 : Int32)) d_make_130 rfl (pc' := 131) rfl ?_
            refine F_aloadN X248 d_make_131 rfl rfl (pc' := 132) rfl ?_
            refine F_iconst X248 (v := (3 : Int32)) d_make_132 rfl (pc' := 133) rfl ?_
            refine F_caload X248 (v := (.int (bs.getD 3 0))) d_make_133 Arv_252 ⟨by decide, by decide⟩ (own_gd (i := 3) (by omega)) (pc' := 134) rfl ?_
            refine F_castore X248 3 (y := (bs.getD 3 0)) d_make_134 (c8_nar (hb _ (own_mem (by omega)))) V256 ⟨by decide, by decide⟩ rfl (Nat.le_of_ble_eq_true rfl) g225 (pc' := 135) rfl ?_
            intro T257 X258 K259 V260
            have KK261 := KK251.trans K259 (allS (Or.inr sz217) (fun x q => nomatch q))
            have Arv_262 := Arv_252.keep K259 (ninS ne218 nin0)
            have Exa_263 := Exa_253.keep K259
            have Fld_264 := Fld_254.keep K259 (ninS ne219 nin0)
            have Fld_265 := Fld_255.keep K259 (ninS ne219 nin0)
            have V266 : Arv Z T257.heap b212 k216 .char (4 : Int32) [(.int (bs.getD 0 0)), (.int (bs.getD 1 0)), (.int (bs.getD 2 0)), (.int (bs.getD 3 0))] (.int (0 : Int32)) := V260
            refine F_special X258 (rm := rm_sinit) (a := b198) d_make_135 rfl rfl (hw _ (List.mem_of_getElem? (i := 8) rfl)) (hw _ (List.mem_of_getElem? (i := 9) rfl)) (hw _ (List.mem_of_getElem? (i := 10) rfl)) (by decide) (hw _ (List.mem_of_getElem? (i := 7) rfl)) (argsL := [(.ref b212)]) (st := [(.ref b198)]) rfl (ct_sinit l Z a0 hw G1 G3 OS hEL hSA b198 b212 k216 [(bs.getD 0 0), (bs.getD 1 0), (bs.getD 2 0), (bs.getD 3 0)] (.int (0 : Int32)) .null (.int (0 : Int32)) X258.old (Nat.le_of_ble_eq_true rfl) (Nat.le_of_ble_eq_true rfl) (allC (hb _ (own_mem (by omega))) (allC (hb _ (own_mem (by omega))) (allC (hb _ (own_mem (by omega))) (allC (hb _ (own_mem (by omega))) allN)))) Exa_263 Fld_265 Fld_264 g207 V266) (lenOf (pd_5) rfl) rfl (by decide) (by decide) (by decide) (Nat.le_of_ble_eq_true rfl) [b198] (fun _ _ q => q.2.1) (sfS (own_safe X258.al Exa_263 Fld_265 (hw _ (List.mem_of_getElem? (i := 6) rfl))) (sf0))  (pc' := 138) rfl ?_
            intro T267 _ X268 hQ269
            obtain ⟨rfl, K270, t271, sz272, S273⟩ := hQ269
            have ne274 : b ≠ t271 := Nat.ne_of_lt (Nat.lt_of_lt_of_le Arv_262.lt sz272)
            have ne275 : b198 ≠ t271 := Nat.ne_of_lt (Nat.lt_of_lt_of_le Exa_263.lt sz272)
            have ne276 : b212 ≠ t271 := Nat.ne_of_lt (Nat.lt_of_lt_of_le V266.lt sz272)
            have KK277 := KK261.trans K270 (allS (Or.inr sz203) (fun x q => nomatch q))
            have Arv_278 := Arv_262.keep K270 (ninS ne204 nin0)
            have Arv_279 := V266.keep K270 (ninS (Ne.symm ne219) nin0)
            have sz280 : T0.heap.size ≤ t271 := Nat.le_trans KK261.1 sz272
            show EndW p e below s Z _ _ _ T267 (mkF m 138 #[.val (.ref b), .val (.int n)] [(.ref b198)])
            exact F_areturn X268 (t := (.object "java/lang/String")) d_make_138 rfl rfl rfl rfl (by decide) (by decide) (⟨b198, t271, _, rfl, KK277, S273⟩)
          · skip
            refine F_icT X0 d_make_101 (XT.ii_ne_t hc101) (pc' := 139) (by decide) rfl ?_
            refine F_iloadN X0 d_make_139 rfl (pc' := 140) rfl ?_
            refine F_iconst X0 (v := (5 : Int32)) d_make_140 rfl (pc' := 141) rfl ?_
            by_cases hc141 : n = (5 : Int32)
            · skip
              refine F_icF X0 d_make_141 (XT.ii_ne_f hc141) (pc' := 144) rfl ?_
              refine F_new X0 d_make_144 (hw _ (List.mem_of_getElem? (i := 5) rfl)) (hw _ (List.mem_of_getElem? (i := 6) rfl)) (hw _ (List.mem_of_getElem? (i := 7) rfl)) (by decide) (by decide) (pc' := 147) rfl ?_
              intro T281 b283 X282 hb284 K285 E286 D287
              have sz288 : T0.heap.size ≤ b283 := Nat.le_trans K00.1 (Nat.le_of_eq hb284.symm)
              have ne289 : b ≠ b283 := Nat.ne_of_lt (Nat.lt_of_lt_of_eq V0.lt hb284.symm)
              have KK290 := K00.trans K285 (fun x q => nomatch q)
              have Arv_291 := V0.keep K285 nin0
              have g292 : Z.heap.size ≤ b283 := Nat.le_trans X0.le (Nat.le_of_eq hb284.symm)
              have F293 : Fld Z T281.heap b283 "java/lang/String" "coder" "B" (.int (0 : Int32)) := D287 (Or.inr (hw _ (List.mem_of_getElem? (i := 31) rfl))) (ty := .byte) (by decide)
              have F294 : Fld Z T281.heap b283 "java/lang/String" "value" "[B" .null := D287 (Or.inr (hw _ (List.mem_of_getElem? (i := 33) rfl))) (ty := (.array .byte)) (by decide)
              refine F_dup X282 d_make_147 rfl (pc' := 148) rfl ?_
              refine F_iconst X282 (v := (5 : Int32)) d_make_148 rfl (pc' := 149) rfl ?_
              refine F_newarray X282 5 d_make_149 (hw _ (List.mem_of_getElem? (i := 0) rfl)) (by decide) (by decide) (by decide) (by decide) (by decide) (pc' := 151) rfl ?_
              intro T295 b297 k301 X296 hb298 K299 V300
              have sz302 : T0.heap.size ≤ b297 := Nat.le_trans KK290.1 (Nat.le_of_eq hb298.symm)
              have ne303 : b ≠ b297 := Nat.ne_of_lt (Nat.lt_of_lt_of_eq Arv_291.lt hb298.symm)
              have ne304 : b283 ≠ b297 := Nat.ne_of_lt (Nat.lt_of_lt_of_eq E286.lt hb298.symm)
              have KK305 := KK290.trans K299 (fun x q => nomatch q)
              have Arv_306 := Arv_291.keep K299 nin0
              have Exa_307 := E286.keep K299
              have Fld_308 := F293.keep K299 nin0
              have Fld_309 := F294.keep K299 nin0
              have g310 : Z.heap.size ≤ b297 := Nat.le_trans X282.le (Nat.le_of_eq hb298.symm)
              have V311 : Arv Z T295.heap b297 k301 .char (5 : Int32) [(.int (0 : Int32)), (.int (0 : Int32)), (.int (0 : Int32)), (.int (0 : Int32)), (.int (0 : Int32))] (.int (0 : Int32)) := V300.pad (pad_rep [] (.int (0 : Int32)) 5)
              refine F_dup X296 d_make_151 rfl (pc' := 152) rfl ?_
              refine F_iconst X296 (v := (0 : Int32)) d_make_152 rfl (pc' := 153) rfl ?_
              refine F_aloadN X296 d_make_153 rfl rfl (pc' := 154) rfl ?_
              refine F_iconst X296 (v := (0 : Int32)) d_make_154 rfl (pc' := 155) rfl ?_
              refine F_caload X296 (v := (.int (bs.getD 0 0))) d_make_155 Arv_306 ⟨by decide, by decide⟩ (own_gd (i := 0) (by omega)) (pc' := 156) rfl ?_
              refine F_castore X296 0 (y := (bs.getD 0 0)) d_make_156 (c8_nar (hb _ (own_mem (by omega)))) V311 ⟨by decide, by decide⟩ rfl (Nat.le_of_ble_eq_true rfl) g310 (pc' := 157) rfl ?_
              intro T312 X313 K314 V315
              have KK316 := KK305.trans K314 (allS (Or.inr sz302) (fun x q => nomatch q))
              have Arv_317 := Arv_306.keep K314 (ninS ne303 nin0)
              have Exa_318 := Exa_307.keep K314
              have Fld_319 := Fld_308.keep K314 (ninS ne304 nin0)
              have Fld_320 := Fld_309.keep K314 (ninS ne304 nin0)
              have V321 : Arv Z T312.heap b297 k301 .char (5 : Int32) [(.int (bs.getD 0 0)), (.int (0 : Int32)), (.int (0 : Int32)), (.int (0 : Int32)), (.int (0 : Int32))] (.int (0 : Int32)) := V315
              refine F_dup X313 d_make_157 rfl (pc' := 158) rfl ?_
              refine F_iconst X313 (v := (1 : Int32)) d_make_158 rfl (pc' := 159) rfl ?_
              refine F_aloadN X313 d_make_159 rfl rfl (pc' := 160) rfl ?_
              refine F_iconst X313 (v := (1 : Int32)) d_make_160 rfl (pc' := 161) rfl ?_
              refine F_caload X313 (v := (.int (bs.getD 1 0))) d_make_161 Arv_317 ⟨by decide, by decide⟩ (own_gd (i := 1) (by omega)) (pc' := 162) rfl ?_
              refine F_castore X313 1 (y := (bs.getD 1 0)) d_make_162 (c8_nar (hb _ (own_mem (by omega)))) V321 ⟨by decide, by decide⟩ rfl (Nat.le_of_ble_eq_true rfl) g310 (pc' := 163) rfl ?_
              intro T322 X323 K324 V325
              have KK326 := KK316.trans K324 (allS (Or.inr sz302) (fun x q => nomatch q))
              have Arv_327 := Arv_317.keep K324 (ninS ne303 nin0)
              have Exa_328 := Exa_318.keep K324
              have Fld_329 := Fld_319.keep K324 (ninS ne304 nin0)
              have Fld_330 := Fld_320.keep K324 (ninS ne304 nin0)
              have V331 : Arv Z T322.heap b297 k301 .char (5 : Int32) [(.int (bs.getD 0 0)), (.int (bs.getD 1 0)), (.int (0 : Int32)), (.int (0 : Int32)), (.int (0 : Int32))] (.int (0 : Int32)) := V325
              refine F_dup X323 d_make_163 rfl (pc' := 164) rfl ?_
              refine F_iconst X323 (v := (2 : Int32)) d_make_164 rfl (pc' := 165) rfl ?_
              refine F_aloadN X323 d_make_165 rfl rfl (pc' := 166) rfl ?_
              refine F_iconst X323 (v := (2 : Int32)) d_make_166 rfl (pc' := 167) rfl ?_
              refine F_caload X323 (v := (.int (bs.getD 2 0))) d_make_167 Arv_327 ⟨by decide, by decide⟩ (own_gd (i := 2) (by omega)) (pc' := 168) rfl ?_
              refine F_castore X323 2 (y := (bs.getD 2 0)) d_make_168 (c8_nar (hb _ (own_mem (by omega)))) V331 ⟨by decide, by decide⟩ rfl (Nat.le_of_ble_eq_true rfl) g310 (pc' := 169) rfl ?_
              intro T332 X333 K334 V335
              have KK336 := KK326.trans K334 (allS (Or.inr sz302) (fun x q => nomatch q))
              have Arv_337 := Arv_327.keep K334 (ninS ne303 nin0)
              have Exa_338 := Exa_328.keep K334
              have Fld_339 := Fld_329.keep K334 (ninS ne304 nin0)
              have Fld_340 := Fld_330.keep K334 (ninS ne304 nin0)
              have V341 : Arv Z T332.heap b297 k301 .char (5 : Int32) [(.int (bs.getD 0 0)), (.int (bs.getD 1 0)), (.int (bs.getD 2 0)), (.int (0 : Int32)), (.int (0 : Int32))] (.int (0 : Int32)) := V335
              refine F_dup X333 d_make_169 rfl (pc' := 170) rfl ?_
              refine F_iconst X333 (v := (3 : Int32)) d_make_170 rfl (pc' := 171) rfl ?_
              refine F_aloadN X333 d_make_171 rfl rfl (pc' := 172) rfl ?_
              refine F_iconst X333 (v := (3 : Int32)) d_make_172 rfl (pc' := 173) rfl ?_
              refine F_caload X333 (v := (.int (bs.getD 3 0))) d_make_173 Arv_337 ⟨by decide, by decide⟩ (own_gd (i := 3) (by omega)) (pc' := 174) rfl ?_
              refine F_castore X333 3 (y := (bs.getD 3 0)) d_make_174 (c8_nar (hb _ (own_mem (by omega)))) V341 ⟨by decide, by decide⟩ rfl (Nat.le_of_ble_eq_true rfl) g310 (pc' := 175) rfl ?_
              intro T342 X343 K344 V345
              have KK346 := KK336.trans K344 (allS (Or.inr sz302) (fun x q => nomatch q))
              have Arv_347 := Arv_337.keep K344 (ninS ne303 nin0)
              have Exa_348 := Exa_338.keep K344
              have Fld_349 := Fld_339.keep K344 (ninS ne304 nin0)
              have Fld_350 := Fld_340.keep K344 (ninS ne304 nin0)
              have V351 : Arv Z T342.heap b297 k301 .char (5 : Int32) [(.int (bs.getD 0 0)), (.int (bs.getD 1 0)), (.int (bs.getD 2 0)), (.int (bs.getD 3 0)), (.int (0 : Int32))] (.int (0 : Int32)) := V345
              refine F_dup X343 d_make_175 rfl (pc' := 176) rfl ?_
              refine F_iconst X343 (v := (4 : Int32)) d_make_176 rfl (pc' := 177) rfl ?_
              refine F_aloadN X343 d_make_177 rfl rfl (pc' := 178) rfl ?_
              refine F_iconst X343 (v := (4 : Int32)) d_make_178 rfl (pc' := 179) rfl ?_
              refine F_caload X343 (v := (.int (bs.getD 4 0))) d_make_179 Arv_347 ⟨by decide, by decide⟩ (own_gd (i := 4) (by omega)) (pc' := 180) rfl ?_
              refine F_castore X343 4 (y := (bs.getD 4 0)) d_make_180 (c8_nar (hb _ (own_mem (by omega)))) V351 ⟨by decide, by decide⟩ rfl (Nat.le_of_ble_eq_true rfl) g310 (pc' := 181) rfl ?_
              intro T352 X353 K354 V355
              have KK356 := KK346.trans K354 (allS (Or.inr sz302) (fun x q => nomatch q))
              have Arv_357 := Arv_347.keep K354 (ninS ne303 nin0)
              have Exa_358 := Exa_348.keep K354
              have Fld_359 := Fld_349.keep K354 (ninS ne304 nin0)
              have Fld_360 := Fld_350.keep K354 (ninS ne304 nin0)
              have V361 : Arv Z T352.heap b297 k301 .char (5 : Int32) [(.int (bs.getD 0 0)), (.int (bs.getD 1 0)), (.int (bs.getD 2 0)), (.int (bs.getD 3 0)), (.int (bs.getD 4 0))] (.int (0 : Int32)) := V355
              refine F_special X353 (rm := rm_sinit) (a := b283) d_make_181 rfl rfl (hw _ (List.mem_of_getElem? (i := 8) rfl)) (hw _ (List.mem_of_getElem? (i := 9) rfl)) (hw _ (List.mem_of_getElem? (i := 10) rfl)) (by decide) (hw _ (List.mem_of_getElem? (i := 7) rfl)) (argsL := [(.ref b297)]) (st := [(.ref b283)]) rfl (ct_sinit l Z a0 hw G1 G3 OS hEL hSA b283 b297 k301 [(bs.getD 0 0), (bs.getD 1 0), (bs.getD 2 0), (bs.getD 3 0), (bs.getD 4 0)] (.int (0 : Int32)) .null (.int (0 : Int32)) X353.old (Nat.le_of_ble_eq_true rfl) (Nat.le_of_ble_eq_true rfl) (allC (hb _ (own_mem (by omega))) (allC (hb _ (own_mem (by omega))) (allC (hb _ (own_mem (by omega))) (allC (hb _ (own_mem (by omega))) (allC (hb _ (own_mem (by omega))) allN))))) Exa_358 Fld_360 Fld_359 g292 V361) (lenOf (pd_5) rfl) rfl (by decide) (by decide) (by decide) (Nat.le_of_ble_eq_true rfl) [b283] (fun _ _ q => q.2.1) (sfS (own_safe X353.al Exa_358 Fld_360 (hw _ (List.mem_of_getElem? (i := 6) rfl))) (sf0))  (pc' := 184) rfl ?_
              intro T362 _ X363 hQ364
              obtain ⟨rfl, K365, t366, sz367, S368⟩ := hQ364
              have ne369 : b ≠ t366 := Nat.ne_of_lt (Nat.lt_of_lt_of_le Arv_357.lt sz367)
              have ne370 : b283 ≠ t366 := Nat.ne_of_lt (Nat.lt_of_lt_of_le Exa_358.lt sz367)
              have ne371 : b297 ≠ t366 := Nat.ne_of_lt (Nat.lt_of_lt_of_le V361.lt sz367)
              have KK372 := KK356.trans K365 (allS (Or.inr sz288) (fun x q => nomatch q))
              have Arv_373 := Arv_357.keep K365 (ninS ne289 nin0)
              have Arv_374 := V361.keep K365 (ninS (Ne.symm ne304) nin0)
              have sz375 : T0.heap.size ≤ t366 := Nat.le_trans KK356.1 sz367
              show EndW p e below s Z _ _ _ T362 (mkF m 184 #[.val (.ref b), .val (.int n)] [(.ref b283)])
              exact F_areturn X363 (t := (.object "java/lang/String")) d_make_184 rfl rfl rfl rfl (by decide) (by decide) (⟨b283, t366, _, rfl, KK372, S368⟩)
            · skip
              refine F_icT X0 d_make_141 (XT.ii_ne_t hc141) (pc' := 185) (by decide) rfl ?_
              refine F_iloadN X0 d_make_185 rfl (pc' := 186) rfl ?_
              refine F_bipush X0 (v := (6 : Int32)) d_make_186 rfl (pc' := 188) rfl ?_
              by_cases hc188 : n = (6 : Int32)
              · skip
                refine F_icF X0 d_make_188 (XT.ii_ne_f hc188) (pc' := 191) rfl ?_
                refine F_new X0 d_make_191 (hw _ (List.mem_of_getElem? (i := 5) rfl)) (hw _ (List.mem_of_getElem? (i := 6) rfl)) (hw _ (List.mem_of_getElem? (i := 7) rfl)) (by decide) (by decide) (pc' := 194) rfl ?_
                intro T376 b378 X377 hb379 K380 E381 D382
                have sz383 : T0.heap.size ≤ b378 := Nat.le_trans K00.1 (Nat.le_of_eq hb379.symm)
                have ne384 : b ≠ b378 := Nat.ne_of_lt (Nat.lt_of_lt_of_eq V0.lt hb379.symm)
                have KK385 := K00.trans K380 (fun x q => nomatch q)
                have Arv_386 := V0.keep K380 nin0
                have g387 : Z.heap.size ≤ b378 := Nat.le_trans X0.le (Nat.le_of_eq hb379.symm)
                have F388 : Fld Z T376.heap b378 "java/lang/String" "coder" "B" (.int (0 : Int32)) := D382 (Or.inr (hw _ (List.mem_of_getElem? (i := 31) rfl))) (ty := .byte) (by decide)
                have F389 : Fld Z T376.heap b378 "java/lang/String" "value" "[B" .null := D382 (Or.inr (hw _ (List.mem_of_getElem? (i := 33) rfl))) (ty := (.array .byte)) (by decide)
                refine F_dup X377 d_make_194 rfl (pc' := 195) rfl ?_
                refine F_bipush X377 (v := (6 : Int32)) d_make_195 rfl (pc' := 197) rfl ?_
                refine F_newarray X377 6 d_make_197 (hw _ (List.mem_of_getElem? (i := 0) rfl)) (by decide) (by decide) (by decide) (by decide) (by decide) (pc' := 199) rfl ?_
                intro T390 b392 k396 X391 hb393 K394 V395
                have sz397 : T0.heap.size ≤ b392 := Nat.le_trans KK385.1 (Nat.le_of_eq hb393.symm)
                have ne398 : b ≠ b392 := Nat.ne_of_lt (Nat.lt_of_lt_of_eq Arv_386.lt hb393.symm)
                have ne399 : b378 ≠ b392 := Nat.ne_of_lt (Nat.lt_of_lt_of_eq E381.lt hb393.symm)
                have KK400 := KK385.trans K394 (fun x q => nomatch q)
                have Arv_401 := Arv_386.keep K394 nin0
                have Exa_402 := E381.keep K394
                have Fld_403 := F388.keep K394 nin0
                have Fld_404 := F389.keep K394 nin0
                have g405 : Z.heap.size ≤ b392 := Nat.le_trans X377.le (Nat.le_of_eq hb393.symm)
                have V406 : Arv Z T390.heap b392 k396 .char (6 : Int32) [(.int (0 : Int32)), (.int (0 : Int32)), (.int (0 : Int32)), (.int (0 : Int32)), (.int (0 : Int32)), (.int (0 : Int32))] (.int (0 : Int32)) := V395.pad (pad_rep [] (.int (0 : Int32)) 6)
                refine F_dup X391 d_make_199 rfl (pc' := 200) rfl ?_
                refine F_iconst X391 (v := (0 : Int32)) d_make_200 rfl (pc' := 201) rfl ?_
                refine F_aloadN X391 d_make_201 rfl rfl (pc' := 202) rfl ?_
                refine F_iconst X391 (v := (0 : Int32)) d_make_202 rfl (pc' := 203) rfl ?_
                refine F_caload X391 (v := (.int (bs.getD 0 0))) d_make_203 Arv_401 ⟨by decide, by decide⟩ (own_gd (i := 0) (by omega)) (pc' := 204) rfl ?_
                refine F_castore X391 0 (y := (bs.getD 0 0)) d_make_204 (c8_nar (hb _ (own_mem (by omega)))) V406 ⟨by decide, by decide⟩ rfl (Nat.le_of_ble_eq_true rfl) g405 (pc' := 205) rfl ?_
                intro T407 X408 K409 V410
                have KK411 := KK400.trans K409 (allS (Or.inr sz397) (fun x q => nomatch q))
                have Arv_412 := Arv_401.keep K409 (ninS ne398 nin0)
                have Exa_413 := Exa_402.keep K409
                have Fld_414 := Fld_403.keep K409 (ninS ne399 nin0)
                have Fld_415 := Fld_404.keep K409 (ninS ne399 nin0)
                have V416 : Arv Z T407.heap b392 k396 .char (6 : Int32) [(.int (bs.getD 0 0)), (.int (0 : Int32)), (.int (0 : Int32)), (.int (0 : Int32)), (.int (0 : Int32)), (.int (0 : Int32))] (.int (0 : Int32)) := V410
                refine F_dup X408 d_make_205 rfl (pc' := 206) rfl ?_
                refine F_iconst X408 (v := (1 : Int32)) d_make_206 rfl (pc' := 207) rfl ?_
                refine F_aloadN X408 d_make_207 rfl rfl (pc' := 208) rfl ?_
                refine F_iconst X408 (v := (1 : Int32)) d_make_208 rfl (pc' := 209) rfl ?_
                refine F_caload X408 (v := (.int (bs.getD 1 0))) d_make_209 Arv_412 ⟨by decide, by decide⟩ (own_gd (i := 1) (by omega)) (pc' := 210) rfl ?_
                refine F_castore X408 1 (y := (bs.getD 1 0)) d_make_210 (c8_nar (hb _ (own_mem (by omega)))) V416 ⟨by decide, by decide⟩ rfl (Nat.le_of_ble_eq_true rfl) g405 (pc' := 211) rfl ?_
                intro T417 X418 K419 V420
                have KK421 := KK411.trans K419 (allS (Or.inr sz397) (fun x q => nomatch q))
                have Arv_422 := Arv_412.keep K419 (ninS ne398 nin0)
                have Exa_423 := Exa_413.keep K419
                have Fld_424 := Fld_414.keep K419 (ninS ne399 nin0)
                have Fld_425 := Fld_415.keep K419 (ninS ne399 nin0)
                have V426 : Arv Z T417.heap b392 k396 .char (6 : Int32) [(.int (bs.getD 0 0)), (.int (bs.getD 1 0)), (.int (0 : Int32)), (.int (0 : Int32)), (.int (0 : Int32)), (.int (0 : Int32))] (.int (0 : Int32)) := V420
                refine F_dup X418 d_make_211 rfl (pc' := 212) rfl ?_
                refine F_iconst X418 (v := (2 : Int32)) d_make_212 rfl (pc' := 213) rfl ?_
                refine F_aloadN X418 d_make_213 rfl rfl (pc' := 214) rfl ?_
                refine F_iconst X418 (v := (2 : Int32)) d_make_214 rfl (pc' := 215) rfl ?_
                refine F_caload X418 (v := (.int (bs.getD 2 0))) d_make_215 Arv_422 ⟨by decide, by decide⟩ (own_gd (i := 2) (by omega)) (pc' := 216) rfl ?_
                refine F_castore X418 2 (y := (bs.getD 2 0)) d_make_216 (c8_nar (hb _ (own_mem (by omega)))) V426 ⟨by decide, by decide⟩ rfl (Nat.le_of_ble_eq_true rfl) g405 (pc' := 217) rfl ?_
                intro T427 X428 K429 V430
                have KK431 := KK421.trans K429 (allS (Or.inr sz397) (fun x q => nomatch q))
                have Arv_432 := Arv_422.keep K429 (ninS ne398 nin0)
                have Exa_433 := Exa_423.keep K429
                have Fld_434 := Fld_424.keep K429 (ninS ne399 nin0)
                have Fld_435 := Fld_425.keep K429 (ninS ne399 nin0)
                have V436 : Arv Z T427.heap b392 k396 .char (6 : Int32) [(.int (bs.getD 0 0)), (.int (bs.getD 1 0)), (.int (bs.getD 2 0)), (.int (0 : Int32)), (.int (0 : Int32)), (.int (0 : Int32))] (.int (0 : Int32)) := V430
                refine F_dup X428 d_make_217 rfl (pc' := 218) rfl ?_
                refine F_iconst X428 (v := (3 : Int32)) d_make_218 rfl (pc' := 219) rfl ?_
                refine F_aloadN X428 d_make_219 rfl rfl (pc' := 220) rfl ?_
                refine F_iconst X428 (v := (3 : Int32)) d_make_220 rfl (pc' := 221) rfl ?_
                refine F_caload X428 (v := (.int (bs.getD 3 0))) d_make_221 Arv_432 ⟨by decide, by decide⟩ (own_gd (i := 3) (by omega)) (pc' := 222) rfl ?_
                refine F_castore X428 3 (y := (bs.getD 3 0)) d_make_222 (c8_nar (hb _ (own_mem (by omega)))) V436 ⟨by decide, by decide⟩ rfl (Nat.le_of_ble_eq_true rfl) g405 (pc' := 223) rfl ?_
                intro T437 X438 K439 V440
                have KK441 := KK431.trans K439 (allS (Or.inr sz397) (fun x q => nomatch q))
                have Arv_442 := Arv_432.keep K439 (ninS ne398 nin0)
                have Exa_443 := Exa_433.keep K439
                have Fld_444 := Fld_434.keep K439 (ninS ne399 nin0)
                have Fld_445 := Fld_435.keep K439 (ninS ne399 nin0)
                have V446 : Arv Z T437.heap b392 k396 .char (6 : Int32) [(.int (bs.getD 0 0)), (.int (bs.getD 1 0)), (.int (bs.getD 2 0)), (.int (bs.getD 3 0)), (.int (0 : Int32)), (.int (0 : Int32))] (.int (0 : Int32)) := V440
                refine F_dup X438 d_make_223 rfl (pc' := 224) rfl ?_
                refine F_iconst X438 (v := (4 : Int32)) d_make_224 rfl (pc' := 225) rfl ?_
                refine F_aloadN X438 d_make_225 rfl rfl (pc' := 226) rfl ?_
                refine F_iconst X438 (v := (4 : Int32)) d_make_226 rfl (pc' := 227) rfl ?_
                refine F_caload X438 (v := (.int (bs.getD 4 0))) d_make_227 Arv_442 ⟨by decide, by decide⟩ (own_gd (i := 4) (by omega)) (pc' := 228) rfl ?_
                refine F_castore X438 4 (y := (bs.getD 4 0)) d_make_228 (c8_nar (hb _ (own_mem (by omega)))) V446 ⟨by decide, by decide⟩ rfl (Nat.le_of_ble_eq_true rfl) g405 (pc' := 229) rfl ?_
                intro T447 X448 K449 V450
                have KK451 := KK441.trans K449 (allS (Or.inr sz397) (fun x q => nomatch q))
                have Arv_452 := Arv_442.keep K449 (ninS ne398 nin0)
                have Exa_453 := Exa_443.keep K449
                have Fld_454 := Fld_444.keep K449 (ninS ne399 nin0)
                have Fld_455 := Fld_445.keep K449 (ninS ne399 nin0)
                have V456 : Arv Z T447.heap b392 k396 .char (6 : Int32) [(.int (bs.getD 0 0)), (.int (bs.getD 1 0)), (.int (bs.getD 2 0)), (.int (bs.getD 3 0)), (.int (bs.getD 4 0)), (.int (0 : Int32))] (.int (0 : Int32)) := V450
                refine F_dup X448 d_make_229 rfl (pc' := 230) rfl ?_
                refine F_iconst X448 (v := (5 : Int32)) d_make_230 rfl (pc' := 231) rfl ?_
                refine F_aloadN X448 d_make_231 rfl rfl (pc' := 232) rfl ?_
                refine F_iconst X448 (v := (5 : Int32)) d_make_232 rfl (pc' := 233) rfl ?_
                refine F_caload X448 (v := (.int (bs.getD 5 0))) d_make_233 Arv_452 ⟨by decide, by decide⟩ (own_gd (i := 5) (by omega)) (pc' := 234) rfl ?_
                refine F_castore X448 5 (y := (bs.getD 5 0)) d_make_234 (c8_nar (hb _ (own_mem (by omega)))) V456 ⟨by decide, by decide⟩ rfl (Nat.le_of_ble_eq_true rfl) g405 (pc' := 235) rfl ?_
                intro T457 X458 K459 V460
                have KK461 := KK451.trans K459 (allS (Or.inr sz397) (fun x q => nomatch q))
                have Arv_462 := Arv_452.keep K459 (ninS ne398 nin0)
                have Exa_463 := Exa_453.keep K459
                have Fld_464 := Fld_454.keep K459 (ninS ne399 nin0)
                have Fld_465 := Fld_455.keep K459 (ninS ne399 nin0)
                have V466 : Arv Z T457.heap b392 k396 .char (6 : Int32) [(.int (bs.getD 0 0)), (.int (bs.getD 1 0)), (.int (bs.getD 2 0)), (.int (bs.getD 3 0)), (.int (bs.getD 4 0)), (.int (bs.getD 5 0))] (.int (0 : Int32)) := V460
                refine F_special X458 (rm := rm_sinit) (a := b378) d_make_235 rfl rfl (hw _ (List.mem_of_getElem? (i := 8) rfl)) (hw _ (List.mem_of_getElem? (i := 9) rfl)) (hw _ (List.mem_of_getElem? (i := 10) rfl)) (by decide) (hw _ (List.mem_of_getElem? (i := 7) rfl)) (argsL := [(.ref b392)]) (st := [(.ref b378)]) rfl (ct_sinit l Z a0 hw G1 G3 OS hEL hSA b378 b392 k396 [(bs.getD 0 0), (bs.getD 1 0), (bs.getD 2 0), (bs.getD 3 0), (bs.getD 4 0), (bs.getD 5 0)] (.int (0 : Int32)) .null (.int (0 : Int32)) X458.old (Nat.le_of_ble_eq_true rfl) (Nat.le_of_ble_eq_true rfl) (allC (hb _ (own_mem (by omega))) (allC (hb _ (own_mem (by omega))) (allC (hb _ (own_mem (by omega))) (allC (hb _ (own_mem (by omega))) (allC (hb _ (own_mem (by omega))) (allC (hb _ (own_mem (by omega))) allN)))))) Exa_463 Fld_465 Fld_464 g387 V466) (lenOf (pd_5) rfl) rfl (by decide) (by decide) (by decide) (Nat.le_of_ble_eq_true rfl) [b378] (fun _ _ q => q.2.1) (sfS (own_safe X458.al Exa_463 Fld_465 (hw _ (List.mem_of_getElem? (i := 6) rfl))) (sf0))  (pc' := 238) rfl ?_
                intro T467 _ X468 hQ469
                obtain ⟨rfl, K470, t471, sz472, S473⟩ := hQ469
                have ne474 : b ≠ t471 := Nat.ne_of_lt (Nat.lt_of_lt_of_le Arv_462.lt sz472)
                have ne475 : b378 ≠ t471 := Nat.ne_of_lt (Nat.lt_of_lt_of_le Exa_463.lt sz472)
                have ne476 : b392 ≠ t471 := Nat.ne_of_lt (Nat.lt_of_lt_of_le V466.lt sz472)
                have KK477 := KK461.trans K470 (allS (Or.inr sz383) (fun x q => nomatch q))
                have Arv_478 := Arv_462.keep K470 (ninS ne384 nin0)
                have Arv_479 := V466.keep K470 (ninS (Ne.symm ne399) nin0)
                have sz480 : T0.heap.size ≤ t471 := Nat.le_trans KK461.1 sz472
                show EndW p e below s Z _ _ _ T467 (mkF m 238 #[.val (.ref b), .val (.int n)] [(.ref b378)])
                exact F_areturn X468 (t := (.object "java/lang/String")) d_make_238 rfl rfl rfl rfl (by decide) (by decide) (⟨b378, t471, _, rfl, KK477, S473⟩)
              · skip
                refine F_icT X0 d_make_188 (XT.ii_ne_t hc188) (pc' := 239) (by decide) rfl ?_
                refine F_iloadN X0 d_make_239 rfl (pc' := 240) rfl ?_
                refine F_bipush X0 (v := (7 : Int32)) d_make_240 rfl (pc' := 242) rfl ?_
                by_cases hc242 : n = (7 : Int32)
                · skip
                  refine F_icF X0 d_make_242 (XT.ii_ne_f hc242) (pc' := 245) rfl ?_
                  refine F_new X0 d_make_245 (hw _ (List.mem_of_getElem? (i := 5) rfl)) (hw _ (List.mem_of_getElem? (i := 6) rfl)) (hw _ (List.mem_of_getElem? (i := 7) rfl)) (by decide) (by decide) (pc' := 248) rfl ?_
                  intro T481 b483 X482 hb484 K485 E486 D487
                  have sz488 : T0.heap.size ≤ b483 := Nat.le_trans K00.1 (Nat.le_of_eq hb484.symm)
                  have ne489 : b ≠ b483 := Nat.ne_of_lt (Nat.lt_of_lt_of_eq V0.lt hb484.symm)
                  have KK490 := K00.trans K485 (fun x q => nomatch q)
                  have Arv_491 := V0.keep K485 nin0
                  have g492 : Z.heap.size ≤ b483 := Nat.le_trans X0.le (Nat.le_of_eq hb484.symm)
                  have F493 : Fld Z T481.heap b483 "java/lang/String" "coder" "B" (.int (0 : Int32)) := D487 (Or.inr (hw _ (List.mem_of_getElem? (i := 31) rfl))) (ty := .byte) (by decide)
                  have F494 : Fld Z T481.heap b483 "java/lang/String" "value" "[B" .null := D487 (Or.inr (hw _ (List.mem_of_getElem? (i := 33) rfl))) (ty := (.array .byte)) (by decide)
                  refine F_dup X482 d_make_248 rfl (pc' := 249) rfl ?_
                  refine F_bipush X482 (v := (7 : Int32)) d_make_249 rfl (pc' := 251) rfl ?_
                  refine F_newarray X482 7 d_make_251 (hw _ (List.mem_of_getElem? (i := 0) rfl)) (by decide) (by decide) (by decide) (by decide) (by decide) (pc' := 253) rfl ?_
                  intro T495 b497 k501 X496 hb498 K499 V500
                  have sz502 : T0.heap.size ≤ b497 := Nat.le_trans KK490.1 (Nat.le_of_eq hb498.symm)
                  have ne503 : b ≠ b497 := Nat.ne_of_lt (Nat.lt_of_lt_of_eq Arv_491.lt hb498.symm)
                  have ne504 : b483 ≠ b497 := Nat.ne_of_lt (Nat.lt_of_lt_of_eq E486.lt hb498.symm)
                  have KK505 := KK490.trans K499 (fun x q => nomatch q)
                  have Arv_506 := Arv_491.keep K499 nin0
                  have Exa_507 := E486.keep K499
                  have Fld_508 := F493.keep K499 nin0
                  have Fld_509 := F494.keep K499 nin0
                  have g510 : Z.heap.size ≤ b497 := Nat.le_trans X482.le (Nat.le_of_eq hb498.symm)
                  have V511 : Arv Z T495.heap b497 k501 .char (7 : Int32) [(.int (0 : Int32)), (.int (0 : Int32)), (.int (0 : Int32)), (.int (0 : Int32)), (.int (0 : Int32)), (.int (0 : Int32)), (.int (0 : Int32))] (.int (0 : Int32)) := V500.pad (pad_rep [] (.int (0 : Int32)) 7)
                  refine F_dup X496 d_make_253 rfl (pc' := 254) rfl ?_
                  refine F_iconst X496 (v := (0 : Int32)) d_make_254 rfl (pc' := 255) rfl ?_
                  refine F_aloadN X496 d_make_255 rfl rfl (pc' := 256) rfl ?_
                  refine F_iconst X496 (v := (0 : Int32)) d_make_256 rfl (pc' := 257) rfl ?_
                  refine F_caload X496 (v := (.int (bs.getD 0 0))) d_make_257 Arv_506 ⟨by decide, by decide⟩ (own_gd (i := 0) (by omega)) (pc' := 258) rfl ?_
                  refine F_castore X496 0 (y := (bs.getD 0 0)) d_make_258 (c8_nar (hb _ (own_mem (by omega)))) V511 ⟨by decide, by decide⟩ rfl (Nat.le_of_ble_eq_true rfl) g510 (pc' := 259) rfl ?_
                  intro T512 X513 K514 V515
                  have KK516 := KK505.trans K514 (allS (Or.inr sz502) (fun x q => nomatch q))
                  have Arv_517 := Arv_506.keep K514 (ninS ne503 nin0)
                  have Exa_518 := Exa_507.keep K514
                  have Fld_519 := Fld_508.keep K514 (ninS ne504 nin0)
                  have Fld_520 := Fld_509.keep K514 (ninS ne504 nin0)
                  have V521 : Arv Z T512.heap b497 k501 .char (7 : Int32) [(.int (bs.getD 0 0)), (.int (0 : Int32)), (.int (0 : Int32)), (.int (0 : Int32)), (.int (0 : Int32)), (.int (0 : Int32)), (.int (0 : Int32))] (.int (0 : Int32)) := V515
                  refine F_dup X513 d_make_259 rfl (pc' := 260) rfl ?_
                  refine F_iconst X513 (v := (1 : Int32)) d_make_260 rfl (pc' := 261) rfl ?_
                  refine F_aloadN X513 d_make_261 rfl rfl (pc' := 262) rfl ?_
                  refine F_iconst X513 (v := (1 : Int32)) d_make_262 rfl (pc' := 263) rfl ?_
                  refine F_caload X513 (v := (.int (bs.getD 1 0))) d_make_263 Arv_517 ⟨by decide, by decide⟩ (own_gd (i := 1) (by omega)) (pc' := 264) rfl ?_
                  refine F_castore X513 1 (y := (bs.getD 1 0)) d_make_264 (c8_nar (hb _ (own_mem (by omega)))) V521 ⟨by decide, by decide⟩ rfl (Nat.le_of_ble_eq_true rfl) g510 (pc' := 265) rfl ?_
                  intro T522 X523 K524 V525
                  have KK526 := KK516.trans K524 (allS (Or.inr sz502) (fun x q => nomatch q))
                  have Arv_527 := Arv_517.keep K524 (ninS ne503 nin0)
                  have Exa_528 := Exa_518.keep K524
                  have Fld_529 := Fld_519.keep K524 (ninS ne504 nin0)
                  have Fld_530 := Fld_520.keep K524 (ninS ne504 nin0)
                  have V531 : Arv Z T522.heap b497 k501 .char (7 : Int32) [(.int (bs.getD 0 0)), (.int (bs.getD 1 0)), (.int (0 : Int32)), (.int (0 : Int32)), (.int (0 : Int32)), (.int (0 : Int32)), (.int (0 : Int32))] (.int (0 : Int32)) := V525
                  refine F_dup X523 d_make_265 rfl (pc' := 266) rfl ?_
                  refine F_iconst X523 (v := (2 : Int32)) d_make_266 rfl (pc' := 267) rfl ?_
                  refine F_aloadN X523 d_make_267 rfl rfl (pc' := 268) rfl ?_
                  refine F_iconst X523 (v := (2 : Int32)) d_make_268 rfl (pc' := 269) rfl ?_
                  refine F_caload X523 (v := (.int (bs.getD 2 0))) d_make_269 Arv_527 ⟨by decide, by decide⟩ (own_gd (i := 2) (by omega)) (pc' := 270) rfl ?_
                  refine F_castore X523 2 (y := (bs.getD 2 0)) d_make_270 (c8_nar (hb _ (own_mem (by omega)))) V531 ⟨by decide, by decide⟩ rfl (Nat.le_of_ble_eq_true rfl) g510 (pc' := 271) rfl ?_
                  intro T532 X533 K534 V535
                  have KK536 := KK526.trans K534 (allS (Or.inr sz502) (fun x q => nomatch q))
                  have Arv_537 := Arv_527.keep K534 (ninS ne503 nin0)
                  have Exa_538 := Exa_528.keep K534
                  have Fld_539 := Fld_529.keep K534 (ninS ne504 nin0)
                  have Fld_540 := Fld_530.keep K534 (ninS ne504 nin0)
                  have V541 : Arv Z T532.heap b497 k501 .char (7 : Int32) [(.int (bs.getD 0 0)), (.int (bs.getD 1 0)), (.int (bs.getD 2 0)), (.int (0 : Int32)), (.int (0 : Int32)), (.int (0 : Int32)), (.int (0 : Int32))] (.int (0 : Int32)) := V535
                  refine F_dup X533 d_make_271 rfl (pc' := 272) rfl ?_
                  refine F_iconst X533 (v := (3 : Int32)) d_make_272 rfl (pc' := 273) rfl ?_
                  refine F_aloadN X533 d_make_273 rfl rfl (pc' := 274) rfl ?_
                  refine F_iconst X533 (v := (3 : Int32)) d_make_274 rfl (pc' := 275) rfl ?_
                  refine F_caload X533 (v := (.int (bs.getD 3 0))) d_make_275 Arv_537 ⟨by decide, by decide⟩ (own_gd (i := 3) (by omega)) (pc' := 276) rfl ?_
                  refine F_castore X533 3 (y := (bs.getD 3 0)) d_make_276 (c8_nar (hb _ (own_mem (by omega)))) V541 ⟨by decide, by decide⟩ rfl (Nat.le_of_ble_eq_true rfl) g510 (pc' := 277) rfl ?_
                  intro T542 X543 K544 V545
                  have KK546 := KK536.trans K544 (allS (Or.inr sz502) (fun x q => nomatch q))
                  have Arv_547 := Arv_537.keep K544 (ninS ne503 nin0)
                  have Exa_548 := Exa_538.keep K544
                  have Fld_549 := Fld_539.keep K544 (ninS ne504 nin0)
                  have Fld_550 := Fld_540.keep K544 (ninS ne504 nin0)
                  have V551 : Arv Z T542.heap b497 k501 .char (7 : Int32) [(.int (bs.getD 0 0)), (.int (bs.getD 1 0)), (.int (bs.getD 2 0)), (.int (bs.getD 3 0)), (.int (0 : Int32)), (.int (0 : Int32)), (.int (0 : Int32))] (.int (0 : Int32)) := V545
                  refine F_dup X543 d_make_277 rfl (pc' := 278) rfl ?_
                  refine F_iconst X543 (v := (4 : Int32)) d_make_278 rfl (pc' := 279) rfl ?_
                  refine F_aloadN X543 d_make_279 rfl rfl (pc' := 280) rfl ?_
                  refine F_iconst X543 (v := (4 : Int32)) d_make_280 rfl (pc' := 281) rfl ?_
                  refine F_caload X543 (v := (.int (bs.getD 4 0))) d_make_281 Arv_547 ⟨by decide, by decide⟩ (own_gd (i := 4) (by omega)) (pc' := 282) rfl ?_
                  refine F_castore X543 4 (y := (bs.getD 4 0)) d_make_282 (c8_nar (hb _ (own_mem (by omega)))) V551 ⟨by decide, by decide⟩ rfl (Nat.le_of_ble_eq_true rfl) g510 (pc' := 283) rfl ?_
                  intro T552 X553 K554 V555
                  have KK556 := KK546.trans K554 (allS (Or.inr sz502) (fun x q => nomatch q))
                  have Arv_557 := Arv_547.keep K554 (ninS ne503 nin0)
                  have Exa_558 := Exa_548.keep K554
                  have Fld_559 := Fld_549.keep K554 (ninS ne504 nin0)
                  have Fld_560 := Fld_550.keep K554 (ninS ne504 nin0)
                  have V561 : Arv Z T552.heap b497 k501 .char (7 : Int32) [(.int (bs.getD 0 0)), (.int (bs.getD 1 0)), (.int (bs.getD 2 0)), (.int (bs.getD 3 0)), (.int (bs.getD 4 0)), (.int (0 : Int32)), (.int (0 : Int32))] (.int (0 : Int32)) := V555
                  refine F_dup X553 d_make_283 rfl (pc' := 284) rfl ?_
                  refine F_iconst X553 (v := (5 : Int32)) d_make_284 rfl (pc' := 285) rfl ?_
                  refine F_aloadN X553 d_make_285 rfl rfl (pc' := 286) rfl ?_
                  refine F_iconst X553 (v := (5 : Int32)) d_make_286 rfl (pc' := 287) rfl ?_
                  refine F_caload X553 (v := (.int (bs.getD 5 0))) d_make_287 Arv_557 ⟨by decide, by decide⟩ (own_gd (i := 5) (by omega)) (pc' := 288) rfl ?_
                  refine F_castore X553 5 (y := (bs.getD 5 0)) d_make_288 (c8_nar (hb _ (own_mem (by omega)))) V561 ⟨by decide, by decide⟩ rfl (Nat.le_of_ble_eq_true rfl) g510 (pc' := 289) rfl ?_
                  intro T562 X563 K564 V565
                  have KK566 := KK556.trans K564 (allS (Or.inr sz502) (fun x q => nomatch q))
                  have Arv_567 := Arv_557.keep K564 (ninS ne503 nin0)
                  have Exa_568 := Exa_558.keep K564
                  have Fld_569 := Fld_559.keep K564 (ninS ne504 nin0)
                  have Fld_570 := Fld_560.keep K564 (ninS ne504 nin0)
                  have V571 : Arv Z T562.heap b497 k501 .char (7 : Int32) [(.int (bs.getD 0 0)), (.int (bs.getD 1 0)), (.int (bs.getD 2 0)), (.int (bs.getD 3 0)), (.int (bs.getD 4 0)), (.int (bs.getD 5 0)), (.int (0 : Int32))] (.int (0 : Int32)) := V565
                  refine F_dup X563 d_make_289 rfl (pc' := 290) rfl ?_
                  refine F_bipush X563 (v := (6 : Int32)) d_make_290 rfl (pc' := 292) rfl ?_
                  refine F_aloadN X563 d_make_292 rfl rfl (pc' := 293) rfl ?_
                  refine F_bipush X563 (v := (6 : Int32)) d_make_293 rfl (pc' := 295) rfl ?_
                  refine F_caload X563 (v := (.int (bs.getD 6 0))) d_make_295 Arv_567 ⟨by decide, by decide⟩ (own_gd (i := 6) (by omega)) (pc' := 296) rfl ?_
                  refine F_castore X563 6 (y := (bs.getD 6 0)) d_make_296 (c8_nar (hb _ (own_mem (by omega)))) V571 ⟨by decide, by decide⟩ rfl (Nat.le_of_ble_eq_true rfl) g510 (pc' := 297) rfl ?_
                  intro T572 X573 K574 V575
                  have KK576 := KK566.trans K574 (allS (Or.inr sz502) (fun x q => nomatch q))
                  have Arv_577 := Arv_567.keep K574 (ninS ne503 nin0)
                  have Exa_578 := Exa_568.keep K574
                  have Fld_579 := Fld_569.keep K574 (ninS ne504 nin0)
                  have Fld_580 := Fld_570.keep K574 (ninS ne504 nin0)
                  have V581 : Arv Z T572.heap b497 k501 .char (7 : Int32) [(.int (bs.getD 0 0)), (.int (bs.getD 1 0)), (.int (bs.getD 2 0)), (.int (bs.getD 3 0)), (.int (bs.getD 4 0)), (.int (bs.getD 5 0)), (.int (bs.getD 6 0))] (.int (0 : Int32)) := V575
                  refine F_special X573 (rm := rm_sinit) (a := b483) d_make_297 rfl rfl (hw _ (List.mem_of_getElem? (i := 8) rfl)) (hw _ (List.mem_of_getElem? (i := 9) rfl)) (hw _ (List.mem_of_getElem? (i := 10) rfl)) (by decide) (hw _ (List.mem_of_getElem? (i := 7) rfl)) (argsL := [(.ref b497)]) (st := [(.ref b483)]) rfl (ct_sinit l Z a0 hw G1 G3 OS hEL hSA b483 b497 k501 [(bs.getD 0 0), (bs.getD 1 0), (bs.getD 2 0), (bs.getD 3 0), (bs.getD 4 0), (bs.getD 5 0), (bs.getD 6 0)] (.int (0 : Int32)) .null (.int (0 : Int32)) X573.old (Nat.le_of_ble_eq_true rfl) (Nat.le_of_ble_eq_true rfl) (allC (hb _ (own_mem (by omega))) (allC (hb _ (own_mem (by omega))) (allC (hb _ (own_mem (by omega))) (allC (hb _ (own_mem (by omega))) (allC (hb _ (own_mem (by omega))) (allC (hb _ (own_mem (by omega))) (allC (hb _ (own_mem (by omega))) allN))))))) Exa_578 Fld_580 Fld_579 g492 V581) (lenOf (pd_5) rfl) rfl (by decide) (by decide) (by decide) (Nat.le_of_ble_eq_true rfl) [b483] (fun _ _ q => q.2.1) (sfS (own_safe X573.al Exa_578 Fld_580 (hw _ (List.mem_of_getElem? (i := 6) rfl))) (sf0))  (pc' := 300) rfl ?_
                  intro T582 _ X583 hQ584
                  obtain ⟨rfl, K585, t586, sz587, S588⟩ := hQ584
                  have ne589 : b ≠ t586 := Nat.ne_of_lt (Nat.lt_of_lt_of_le Arv_577.lt sz587)
                  have ne590 : b483 ≠ t586 := Nat.ne_of_lt (Nat.lt_of_lt_of_le Exa_578.lt sz587)
                  have ne591 : b497 ≠ t586 := Nat.ne_of_lt (Nat.lt_of_lt_of_le V581.lt sz587)
                  have KK592 := KK576.trans K585 (allS (Or.inr sz488) (fun x q => nomatch q))
                  have Arv_593 := Arv_577.keep K585 (ninS ne489 nin0)
                  have Arv_594 := V581.keep K585 (ninS (Ne.symm ne504) nin0)
                  have sz595 : T0.heap.size ≤ t586 := Nat.le_trans KK576.1 sz587
                  show EndW p e below s Z _ _ _ T582 (mkF m 300 #[.val (.ref b), .val (.int n)] [(.ref b483)])
                  exact F_areturn X583 (t := (.object "java/lang/String")) d_make_300 rfl rfl rfl rfl (by decide) (by decide) (⟨b483, t586, _, rfl, KK592, S588⟩)
                · skip
                  refine F_icT X0 d_make_242 (XT.ii_ne_t hc242) (pc' := 301) (by decide) rfl ?_
                  refine F_iloadN X0 d_make_301 rfl (pc' := 302) rfl ?_
                  refine F_bipush X0 (v := (8 : Int32)) d_make_302 rfl (pc' := 304) rfl ?_
                  by_cases hc304 : n = (8 : Int32)
                  · skip
                    refine F_icF X0 d_make_304 (XT.ii_ne_f hc304) (pc' := 307) rfl ?_
                    refine F_new X0 d_make_307 (hw _ (List.mem_of_getElem? (i := 5) rfl)) (hw _ (List.mem_of_getElem? (i := 6) rfl)) (hw _ (List.mem_of_getElem? (i := 7) rfl)) (by decide) (by decide) (pc' := 310) rfl ?_
                    intro T596 b598 X597 hb599 K600 E601 D602
                    have sz603 : T0.heap.size ≤ b598 := Nat.le_trans K00.1 (Nat.le_of_eq hb599.symm)
                    have ne604 : b ≠ b598 := Nat.ne_of_lt (Nat.lt_of_lt_of_eq V0.lt hb599.symm)
                    have KK605 := K00.trans K600 (fun x q => nomatch q)
                    have Arv_606 := V0.keep K600 nin0
                    have g607 : Z.heap.size ≤ b598 := Nat.le_trans X0.le (Nat.le_of_eq hb599.symm)
                    have F608 : Fld Z T596.heap b598 "java/lang/String" "coder" "B" (.int (0 : Int32)) := D602 (Or.inr (hw _ (List.mem_of_getElem? (i := 31) rfl))) (ty := .byte) (by decide)
                    have F609 : Fld Z T596.heap b598 "java/lang/String" "value" "[B" .null := D602 (Or.inr (hw _ (List.mem_of_getElem? (i := 33) rfl))) (ty := (.array .byte)) (by decide)
                    refine F_dup X597 d_make_310 rfl (pc' := 311) rfl ?_
                    refine F_bipush X597 (v := (8 : Int32)) d_make_311 rfl (pc' := 313) rfl ?_
                    refine F_newarray X597 8 d_make_313 (hw _ (List.mem_of_getElem? (i := 0) rfl)) (by decide) (by decide) (by decide) (by decide) (by decide) (pc' := 315) rfl ?_
                    intro T610 b612 k616 X611 hb613 K614 V615
                    have sz617 : T0.heap.size ≤ b612 := Nat.le_trans KK605.1 (Nat.le_of_eq hb613.symm)
                    have ne618 : b ≠ b612 := Nat.ne_of_lt (Nat.lt_of_lt_of_eq Arv_606.lt hb613.symm)
                    have ne619 : b598 ≠ b612 := Nat.ne_of_lt (Nat.lt_of_lt_of_eq E601.lt hb613.symm)
                    have KK620 := KK605.trans K614 (fun x q => nomatch q)
                    have Arv_621 := Arv_606.keep K614 nin0
                    have Exa_622 := E601.keep K614
                    have Fld_623 := F608.keep K614 nin0
                    have Fld_624 := F609.keep K614 nin0
                    have g625 : Z.heap.size ≤ b612 := Nat.le_trans X597.le (Nat.le_of_eq hb613.symm)
                    have V626 : Arv Z T610.heap b612 k616 .char (8 : Int32) [(.int (0 : Int32)), (.int (0 : Int32)), (.int (0 : Int32)), (.int (0 : Int32)), (.int (0 : Int32)), (.int (0 : Int32)), (.int (0 : Int32)), (.int (0 : Int32))] (.int (0 : Int32)) := V615.pad (pad_rep [] (.int (0 : Int32)) 8)
                    refine F_dup X611 d_make_315 rfl (pc' := 316) rfl ?_
                    refine F_iconst X611 (v := (0 : Int32)) d_make_316 rfl (pc' := 317) rfl ?_
                    refine F_aloadN X611 d_make_317 rfl rfl (pc' := 318) rfl ?_
                    refine F_iconst X611 (v := (0 : Int32)) d_make_318 rfl (pc' := 319) rfl ?_
                    refine F_caload X611 (v := (.int (bs.getD 0 0))) d_make_319 Arv_621 ⟨by decide, by decide⟩ (own_gd (i := 0) (by omega)) (pc' := 320) rfl ?_
                    refine F_castore X611 0 (y := (bs.getD 0 0)) d_make_320 (c8_nar (hb _ (own_mem (by omega)))) V626 ⟨by decide, by decide⟩ rfl (Nat.le_of_ble_eq_true rfl) g625 (pc' := 321) rfl ?_
                    intro T627 X628 K629 V630
                    have KK631 := KK620.trans K629 (allS (Or.inr sz617) (fun x q => nomatch q))
                    have Arv_632 := Arv_621.keep K629 (ninS ne618 nin0)
                    have Exa_633 := Exa_622.keep K629
                    have Fld_634 := Fld_623.keep K629 (ninS ne619 nin0)
                    have Fld_635 := Fld_624.keep K629 (ninS ne619 nin0)
                    have V636 : Arv Z T627.heap b612 k616 .char (8 : Int32) [(.int (bs.getD 0 0)), (.int (0 : Int32)), (.int (0 : Int32)), (.int (0 : Int32)), (.int (0 : Int32)), (.int (0 : Int32)), (.int (0 : Int32)), (.int (0 : Int32))] (.int (0 : Int32)) := V630
                    refine F_dup X628 d_make_321 rfl (pc' := 322) rfl ?_
                    refine F_iconst X628 (v := (1 : Int32)) d_make_322 rfl (pc' := 323) rfl ?_
                    refine F_aloadN X628 d_make_323 rfl rfl (pc' := 324) rfl ?_
                    refine F_iconst X628 (v := (1 : Int32)) d_make_324 rfl (pc' := 325) rfl ?_
                    refine F_caload X628 (v := (.int (bs.getD 1 0))) d_make_325 Arv_632 ⟨by decide, by decide⟩ (own_gd (i := 1) (by omega)) (pc' := 326) rfl ?_
                    refine F_castore X628 1 (y := (bs.getD 1 0)) d_make_326 (c8_nar (hb _ (own_mem (by omega)))) V636 ⟨by decide, by decide⟩ rfl (Nat.le_of_ble_eq_true rfl) g625 (pc' := 327) rfl ?_
                    intro T637 X638 K639 V640
                    have KK641 := KK631.trans K639 (allS (Or.inr sz617) (fun x q => nomatch q))
                    have Arv_642 := Arv_632.keep K639 (ninS ne618 nin0)
                    have Exa_643 := Exa_633.keep K639
                    have Fld_644 := Fld_634.keep K639 (ninS ne619 nin0)
                    have Fld_645 := Fld_635.keep K639 (ninS ne619 nin0)
                    have V646 : Arv Z T637.heap b612 k616 .char (8 : Int32) [(.int (bs.getD 0 0)), (.int (bs.getD 1 0)), (.int (0 : Int32)), (.int (0 : Int32)), (.int (0 : Int32)), (.int (0 : Int32)), (.int (0 : Int32)), (.int (0 : Int32))] (.int (0 : Int32)) := V640
                    refine F_dup X638 d_make_327 rfl (pc' := 328) rfl ?_
                    refine F_iconst X638 (v := (2 : Int32)) d_make_328 rfl (pc' := 329) rfl ?_
                    refine F_aloadN X638 d_make_329 rfl rfl (pc' := 330) rfl ?_
                    refine F_iconst X638 (v := (2 : Int32)) d_make_330 rfl (pc' := 331) rfl ?_
                    refine F_caload X638 (v := (.int (bs.getD 2 0))) d_make_331 Arv_642 ⟨by decide, by decide⟩ (own_gd (i := 2) (by omega)) (pc' := 332) rfl ?_
                    refine F_castore X638 2 (y := (bs.getD 2 0)) d_make_332 (c8_nar (hb _ (own_mem (by omega)))) V646 ⟨by decide, by decide⟩ rfl (Nat.le_of_ble_eq_true rfl) g625 (pc' := 333) rfl ?_
                    intro T647 X648 K649 V650
                    have KK651 := KK641.trans K649 (allS (Or.inr sz617) (fun x q => nomatch q))
                    have Arv_652 := Arv_642.keep K649 (ninS ne618 nin0)
                    have Exa_653 := Exa_643.keep K649
                    have Fld_654 := Fld_644.keep K649 (ninS ne619 nin0)
                    have Fld_655 := Fld_645.keep K649 (ninS ne619 nin0)
                    have V656 : Arv Z T647.heap b612 k616 .char (8 : Int32) [(.int (bs.getD 0 0)), (.int (bs.getD 1 0)), (.int (bs.getD 2 0)), (.int (0 : Int32)), (.int (0 : Int32)), (.int (0 : Int32)), (.int (0 : Int32)), (.int (0 : Int32))] (.int (0 : Int32)) := V650
                    refine F_dup X648 d_make_333 rfl (pc' := 334) rfl ?_
                    refine F_iconst X648 (v := (3 : Int32)) d_make_334 rfl (pc' := 335) rfl ?_
                    refine F_aloadN X648 d_make_335 rfl rfl (pc' := 336) rfl ?_
                    refine F_iconst X648 (v := (3 : Int32)) d_make_336 rfl (pc' := 337) rfl ?_
                    refine F_caload X648 (v := (.int (bs.getD 3 0))) d_make_337 Arv_652 ⟨by decide, by decide⟩ (own_gd (i := 3) (by omega)) (pc' := 338) rfl ?_
                    refine F_castore X648 3 (y := (bs.getD 3 0)) d_make_338 (c8_nar (hb _ (own_mem (by omega)))) V656 ⟨by decide, by decide⟩ rfl (Nat.le_of_ble_eq_true rfl) g625 (pc' := 339) rfl ?_
                    intro T657 X658 K659 V660
                    have KK661 := KK651.trans K659 (allS (Or.inr sz617) (fun x q => nomatch q))
                    have Arv_662 := Arv_652.keep K659 (ninS ne618 nin0)
                    have Exa_663 := Exa_653.keep K659
                    have Fld_664 := Fld_654.keep K659 (ninS ne619 nin0)
                    have Fld_665 := Fld_655.keep K659 (ninS ne619 nin0)
                    have V666 : Arv Z T657.heap b612 k616 .char (8 : Int32) [(.int (bs.getD 0 0)), (.int (bs.getD 1 0)), (.int (bs.getD 2 0)), (.int (bs.getD 3 0)), (.int (0 : Int32)), (.int (0 : Int32)), (.int (0 : Int32)), (.int (0 : Int32))] (.int (0 : Int32)) := V660
                    refine F_dup X658 d_make_339 rfl (pc' := 340) rfl ?_
                    refine F_iconst X658 (v := (4 : Int32)) d_make_340 rfl (pc' := 341) rfl ?_
                    refine F_aloadN X658 d_make_341 rfl rfl (pc' := 342) rfl ?_
                    refine F_iconst X658 (v := (4 : Int32)) d_make_342 rfl (pc' := 343) rfl ?_
                    refine F_caload X658 (v := (.int (bs.getD 4 0))) d_make_343 Arv_662 ⟨by decide, by decide⟩ (own_gd (i := 4) (by omega)) (pc' := 344) rfl ?_
                    refine F_castore X658 4 (y := (bs.getD 4 0)) d_make_344 (c8_nar (hb _ (own_mem (by omega)))) V666 ⟨by decide, by decide⟩ rfl (Nat.le_of_ble_eq_true rfl) g625 (pc' := 345) rfl ?_
                    intro T667 X668 K669 V670
                    have KK671 := KK661.trans K669 (allS (Or.inr sz617) (fun x q => nomatch q))
                    have Arv_672 := Arv_662.keep K669 (ninS ne618 nin0)
                    have Exa_673 := Exa_663.keep K669
                    have Fld_674 := Fld_664.keep K669 (ninS ne619 nin0)
                    have Fld_675 := Fld_665.keep K669 (ninS ne619 nin0)
                    have V676 : Arv Z T667.heap b612 k616 .char (8 : Int32) [(.int (bs.getD 0 0)), (.int (bs.getD 1 0)), (.int (bs.getD 2 0)), (.int (bs.getD 3 0)), (.int (bs.getD 4 0)), (.int (0 : Int32)), (.int (0 : Int32)), (.int (0 : Int32))] (.int (0 : Int32)) := V670
                    refine F_dup X668 d_make_345 rfl (pc' := 346) rfl ?_
                    refine F_iconst X668 (v := (5 : Int32)) d_make_346 rfl (pc' := 347) rfl ?_
                    refine F_aloadN X668 d_make_347 rfl rfl (pc' := 348) rfl ?_
                    refine F_iconst X668 (v := (5 : Int32)) d_make_348 rfl (pc' := 349) rfl ?_
                    refine F_caload X668 (v := (.int (bs.getD 5 0))) d_make_349 Arv_672 ⟨by decide, by decide⟩ (own_gd (i := 5) (by omega)) (pc' := 350) rfl ?_
                    refine F_castore X668 5 (y := (bs.getD 5 0)) d_make_350 (c8_nar (hb _ (own_mem (by omega)))) V676 ⟨by decide, by decide⟩ rfl (Nat.le_of_ble_eq_true rfl) g625 (pc' := 351) rfl ?_
                    intro T677 X678 K679 V680
                    have KK681 := KK671.trans K679 (allS (Or.inr sz617) (fun x q => nomatch q))
                    have Arv_682 := Arv_672.keep K679 (ninS ne618 nin0)
                    have Exa_683 := Exa_673.keep K679
                    have Fld_684 := Fld_674.keep K679 (ninS ne619 nin0)
                    have Fld_685 := Fld_675.keep K679 (ninS ne619 nin0)
                    have V686 : Arv Z T677.heap b612 k616 .char (8 : Int32) [(.int (bs.getD 0 0)), (.int (bs.getD 1 0)), (.int (bs.getD 2 0)), (.int (bs.getD 3 0)), (.int (bs.getD 4 0)), (.int (bs.getD 5 0)), (.int (0 : Int32)), (.int (0 : Int32))] (.int (0 : Int32)) := V680
                    refine F_dup X678 d_make_351 rfl (pc' := 352) rfl ?_
                    refine F_bipush X678 (v := (6 : Int32)) d_make_352 rfl (pc' := 354) rfl ?_
                    refine F_aloadN X678 d_make_354 rfl rfl (pc' := 355) rfl ?_
                    refine F_bipush X678 (v := (6 : Int32)) d_make_355 rfl (pc' := 357) rfl ?_
                    refine F_caload X678 (v := (.int (bs.getD 6 0))) d_make_357 Arv_682 ⟨by decide, by decide⟩ (own_gd (i := 6) (by omega)) (pc' := 358) rfl ?_
                    refine F_castore X678 6 (y := (bs.getD 6 0)) d_make_358 (c8_nar (hb _ (own_mem (by omega)))) V686 ⟨by decide, by decide⟩ rfl (Nat.le_of_ble_eq_true rfl) g625 (pc' := 359) rfl ?_
                    intro T687 X688 K689 V690
                    have KK691 := KK681.trans K689 (allS (Or.inr sz617) (fun x q => nomatch q))
                    have Arv_692 := Arv_682.keep K689 (ninS ne618 nin0)
                    have Exa_693 := Exa_683.keep K689
                    have Fld_694 := Fld_684.keep K689 (ninS ne619 nin0)
                    have Fld_695 := Fld_685.keep K689 (ninS ne619 nin0)
                    have V696 : Arv Z T687.heap b612 k616 .char (8 : Int32) [(.int (bs.getD 0 0)), (.int (bs.getD 1 0)), (.int (bs.getD 2 0)), (.int (bs.getD 3 0)), (.int (bs.getD 4 0)), (.int (bs.getD 5 0)), (.int (bs.getD 6 0)), (.int (0 : Int32))] (.int (0 : Int32)) := V690
                    refine F_dup X688 d_make_359 rfl (pc' := 360) rfl ?_
                    refine F_bipush X688 (v := (7 : Int32)) d_make_360 rfl (pc' := 362) rfl ?_
                    refine F_aloadN X688 d_make_362 rfl rfl (pc' := 363) rfl ?_
                    refine F_bipush X688 (v := (7 : Int32)) d_make_363 rfl (pc' := 365) rfl ?_
                    refine F_caload X688 (v := (.int (bs.getD 7 0))) d_make_365 Arv_692 ⟨by decide, by decide⟩ (own_gd (i := 7) (by omega)) (pc' := 366) rfl ?_
                    refine F_castore X688 7 (y := (bs.getD 7 0)) d_make_366 (c8_nar (hb _ (own_mem (by omega)))) V696 ⟨by decide, by decide⟩ rfl (Nat.le_of_ble_eq_true rfl) g625 (pc' := 367) rfl ?_
                    intro T697 X698 K699 V700
                    have KK701 := KK691.trans K699 (allS (Or.inr sz617) (fun x q => nomatch q))
                    have Arv_702 := Arv_692.keep K699 (ninS ne618 nin0)
                    have Exa_703 := Exa_693.keep K699
                    have Fld_704 := Fld_694.keep K699 (ninS ne619 nin0)
                    have Fld_705 := Fld_695.keep K699 (ninS ne619 nin0)
                    have V706 : Arv Z T697.heap b612 k616 .char (8 : Int32) [(.int (bs.getD 0 0)), (.int (bs.getD 1 0)), (.int (bs.getD 2 0)), (.int (bs.getD 3 0)), (.int (bs.getD 4 0)), (.int (bs.getD 5 0)), (.int (bs.getD 6 0)), (.int (bs.getD 7 0))] (.int (0 : Int32)) := V700
                    refine F_special X698 (rm := rm_sinit) (a := b598) d_make_367 rfl rfl (hw _ (List.mem_of_getElem? (i := 8) rfl)) (hw _ (List.mem_of_getElem? (i := 9) rfl)) (hw _ (List.mem_of_getElem? (i := 10) rfl)) (by decide) (hw _ (List.mem_of_getElem? (i := 7) rfl)) (argsL := [(.ref b612)]) (st := [(.ref b598)]) rfl (ct_sinit l Z a0 hw G1 G3 OS hEL hSA b598 b612 k616 [(bs.getD 0 0), (bs.getD 1 0), (bs.getD 2 0), (bs.getD 3 0), (bs.getD 4 0), (bs.getD 5 0), (bs.getD 6 0), (bs.getD 7 0)] (.int (0 : Int32)) .null (.int (0 : Int32)) X698.old (Nat.le_of_ble_eq_true rfl) (Nat.le_of_ble_eq_true rfl) (allC (hb _ (own_mem (by omega))) (allC (hb _ (own_mem (by omega))) (allC (hb _ (own_mem (by omega))) (allC (hb _ (own_mem (by omega))) (allC (hb _ (own_mem (by omega))) (allC (hb _ (own_mem (by omega))) (allC (hb _ (own_mem (by omega))) (allC (hb _ (own_mem (by omega))) allN)))))))) Exa_703 Fld_705 Fld_704 g607 V706) (lenOf (pd_5) rfl) rfl (by decide) (by decide) (by decide) (Nat.le_of_ble_eq_true rfl) [b598] (fun _ _ q => q.2.1) (sfS (own_safe X698.al Exa_703 Fld_705 (hw _ (List.mem_of_getElem? (i := 6) rfl))) (sf0))  (pc' := 370) rfl ?_
                    intro T707 _ X708 hQ709
                    obtain ⟨rfl, K710, t711, sz712, S713⟩ := hQ709
                    have ne714 : b ≠ t711 := Nat.ne_of_lt (Nat.lt_of_lt_of_le Arv_702.lt sz712)
                    have ne715 : b598 ≠ t711 := Nat.ne_of_lt (Nat.lt_of_lt_of_le Exa_703.lt sz712)
                    have ne716 : b612 ≠ t711 := Nat.ne_of_lt (Nat.lt_of_lt_of_le V706.lt sz712)
                    have KK717 := KK701.trans K710 (allS (Or.inr sz603) (fun x q => nomatch q))
                    have Arv_718 := Arv_702.keep K710 (ninS ne604 nin0)
                    have Arv_719 := V706.keep K710 (ninS (Ne.symm ne619) nin0)
                    have sz720 : T0.heap.size ≤ t711 := Nat.le_trans KK701.1 sz712
                    show EndW p e below s Z _ _ _ T707 (mkF m 370 #[.val (.ref b), .val (.int n)] [(.ref b598)])
                    exact F_areturn X708 (t := (.object "java/lang/String")) d_make_370 rfl rfl rfl rfl (by decide) (by decide) (⟨b598, t711, _, rfl, KK717, S713⟩)
                  · skip
                    refine F_icT X0 d_make_304 (XT.ii_ne_t hc304) (pc' := 371) (by decide) rfl ?_
                    refine F_new X0 d_make_371 (hw _ (List.mem_of_getElem? (i := 5) rfl)) (hw _ (List.mem_of_getElem? (i := 6) rfl)) (hw _ (List.mem_of_getElem? (i := 7) rfl)) (by decide) (by decide) (pc' := 374) rfl ?_
                    intro T721 b723 X722 hb724 K725 E726 D727
                    have sz728 : T0.heap.size ≤ b723 := Nat.le_trans K00.1 (Nat.le_of_eq hb724.symm)
                    have ne729 : b ≠ b723 := Nat.ne_of_lt (Nat.lt_of_lt_of_eq V0.lt hb724.symm)
                    have KK730 := K00.trans K725 (fun x q => nomatch q)
                    have Arv_731 := V0.keep K725 nin0
                    have g732 : Z.heap.size ≤ b723 := Nat.le_trans X0.le (Nat.le_of_eq hb724.symm)
                    have F733 : Fld Z T721.heap b723 "java/lang/String" "coder" "B" (.int (0 : Int32)) := D727 (Or.inr (hw _ (List.mem_of_getElem? (i := 31) rfl))) (ty := .byte) (by decide)
                    have F734 : Fld Z T721.heap b723 "java/lang/String" "value" "[B" .null := D727 (Or.inr (hw _ (List.mem_of_getElem? (i := 33) rfl))) (ty := (.array .byte)) (by decide)
                    refine F_dup X722 d_make_374 rfl (pc' := 375) rfl ?_
                    refine F_bipush X722 (v := (9 : Int32)) d_make_375 rfl (pc' := 377) rfl ?_
                    refine F_newarray X722 9 d_make_377 (hw _ (List.mem_of_getElem? (i := 0) rfl)) (by decide) (by decide) (by decide) (by decide) (by decide) (pc' := 379) rfl ?_
                    intro T735 b737 k741 X736 hb738 K739 V740
                    have sz742 : T0.heap.size ≤ b737 := Nat.le_trans KK730.1 (Nat.le_of_eq hb738.symm)
                    have ne743 : b ≠ b737 := Nat.ne_of_lt (Nat.lt_of_lt_of_eq Arv_731.lt hb738.symm)
                    have ne744 : b723 ≠ b737 := Nat.ne_of_lt (Nat.lt_of_lt_of_eq E726.lt hb738.symm)
                    have KK745 := KK730.trans K739 (fun x q => nomatch q)
                    have Arv_746 := Arv_731.keep K739 nin0
                    have Exa_747 := E726.keep K739
                    have Fld_748 := F733.keep K739 nin0
                    have Fld_749 := F734.keep K739 nin0
                    have g750 : Z.heap.size ≤ b737 := Nat.le_trans X722.le (Nat.le_of_eq hb738.symm)
                    have V751 : Arv Z T735.heap b737 k741 .char (9 : Int32) [(.int (0 : Int32)), (.int (0 : Int32)), (.int (0 : Int32)), (.int (0 : Int32)), (.int (0 : Int32)), (.int (0 : Int32)), (.int (0 : Int32)), (.int (0 : Int32)), (.int (0 : Int32))] (.int (0 : Int32)) := V740.pad (pad_rep [] (.int (0 : Int32)) 9)
                    refine F_dup X736 d_make_379 rfl (pc' := 380) rfl ?_
                    refine F_iconst X736 (v := (0 : Int32)) d_make_380 rfl (pc' := 381) rfl ?_
                    refine F_aloadN X736 d_make_381 rfl rfl (pc' := 382) rfl ?_
                    refine F_iconst X736 (v := (0 : Int32)) d_make_382 rfl (pc' := 383) rfl ?_
                    refine F_caload X736 (v := (.int (bs.getD 0 0))) d_make_383 Arv_746 ⟨by decide, by decide⟩ (own_gd (i := 0) (by omega)) (pc' := 384) rfl ?_
                    refine F_castore X736 0 (y := (bs.getD 0 0)) d_make_384 (c8_nar (hb _ (own_mem (by omega)))) V751 ⟨by decide, by decide⟩ rfl (Nat.le_of_ble_eq_true rfl) g750 (pc' := 385) rfl ?_
                    intro T752 X753 K754 V755
                    have KK756 := KK745.trans K754 (allS (Or.inr sz742) (fun x q => nomatch q))
                    have Arv_757 := Arv_746.keep K754 (ninS ne743 nin0)
                    have Exa_758 := Exa_747.keep K754
                    have Fld_759 := Fld_748.keep K754 (ninS ne744 nin0)
                    have Fld_760 := Fld_749.keep K754 (ninS ne744 nin0)
                    have V761 : Arv Z T752.heap b737 k741 .char (9 : Int32) [(.int (bs.getD 0 0)), (.int (0 : Int32)), (.int (0 : Int32)), (.int (0 : Int32)), (.int (0 : Int32)), (.int (0 : Int32)), (.int (0 : Int32)), (.int (0 : Int32)), (.int (0 : Int32))] (.int (0 : Int32)) := V755
                    refine F_dup X753 d_make_385 rfl (pc' := 386) rfl ?_
                    refine F_iconst X753 (v := (1 : Int32)) d_make_386 rfl (pc' := 387) rfl ?_
                    refine F_aloadN X753 d_make_387 rfl rfl (pc' := 388) rfl ?_
                    refine F_iconst X753 (v := (1 : Int32)) d_make_388 rfl (pc' := 389) rfl ?_
                    refine F_caload X753 (v := (.int (bs.getD 1 0))) d_make_389 Arv_757 ⟨by decide, by decide⟩ (own_gd (i := 1) (by omega)) (pc' := 390) rfl ?_
                    refine F_castore X753 1 (y := (bs.getD 1 0)) d_make_390 (c8_nar (hb _ (own_mem (by omega)))) V761 ⟨by decide, by decide⟩ rfl (Nat.le_of_ble_eq_true rfl) g750 (pc' := 391) rfl ?_
                    intro T762 X763 K764 V765
                    have KK766 := KK756.trans K764 (allS (Or.inr sz742) (fun x q => nomatch q))
                    have Arv_767 := Arv_757.keep K764 (ninS ne743 nin0)
                    have Exa_768 := Exa_758.keep K764
                    have Fld_769 := Fld_759.keep K764 (ninS ne744 nin0)
                    have Fld_770 := Fld_760.keep K764 (ninS ne744 nin0)
                    have V771 : Arv Z T762.heap b737 k741 .char (9 : Int32) [(.int (bs.getD 0 0)), (.int (bs.getD 1 0)), (.int (0 : Int32)), (.int (0 : Int32)), (.int (0 : Int32)), (.int (0 : Int32)), (.int (0 : Int32)), (.int (0 : Int32)), (.int (0 : Int32))] (.int (0 : Int32)) := V765
                    refine F_dup X763 d_make_391 rfl (pc' := 392) rfl ?_
                    refine F_iconst X763 (v := (2 : Int32)) d_make_392 rfl (pc' := 393) rfl ?_
                    refine F_aloadN X763 d_make_393 rfl rfl (pc' := 394) rfl ?_
                    refine F_iconst X763 (v := (2 : Int32)) d_make_394 rfl (pc' := 395) rfl ?_
                    refine F_caload X763 (v := (.int (bs.getD 2 0))) d_make_395 Arv_767 ⟨by decide, by decide⟩ (own_gd (i := 2) (by omega)) (pc' := 396) rfl ?_
                    refine F_castore X763 2 (y := (bs.getD 2 0)) d_make_396 (c8_nar (hb _ (own_mem (by omega)))) V771 ⟨by decide, by decide⟩ rfl (Nat.le_of_ble_eq_true rfl) g750 (pc' := 397) rfl ?_
                    intro T772 X773 K774 V775
                    have KK776 := KK766.trans K774 (allS (Or.inr sz742) (fun x q => nomatch q))
                    have Arv_777 := Arv_767.keep K774 (ninS ne743 nin0)
                    have Exa_778 := Exa_768.keep K774
                    have Fld_779 := Fld_769.keep K774 (ninS ne744 nin0)
                    have Fld_780 := Fld_770.keep K774 (ninS ne744 nin0)
                    have V781 : Arv Z T772.heap b737 k741 .char (9 : Int32) [(.int (bs.getD 0 0)), (.int (bs.getD 1 0)), (.int (bs.getD 2 0)), (.int (0 : Int32)), (.int (0 : Int32)), (.int (0 : Int32)), (.int (0 : Int32)), (.int (0 : Int32)), (.int (0 : Int32))] (.int (0 : Int32)) := V775
                    refine F_dup X773 d_make_397 rfl (pc' := 398) rfl ?_
                    refine F_iconst X773 (v := (3 : Int32)) d_make_398 rfl (pc' := 399) rfl ?_
                    refine F_aloadN X773 d_make_399 rfl rfl (pc' := 400) rfl ?_
                    refine F_iconst X773 (v := (3 : Int32)) d_make_400 rfl (pc' := 401) rfl ?_
                    refine F_caload X773 (v := (.int (bs.getD 3 0))) d_make_401 Arv_777 ⟨by decide, by decide⟩ (own_gd (i := 3) (by omega)) (pc' := 402) rfl ?_
                    refine F_castore X773 3 (y := (bs.getD 3 0)) d_make_402 (c8_nar (hb _ (own_mem (by omega)))) V781 ⟨by decide, by decide⟩ rfl (Nat.le_of_ble_eq_true rfl) g750 (pc' := 403) rfl ?_
                    intro T782 X783 K784 V785
                    have KK786 := KK776.trans K784 (allS (Or.inr sz742) (fun x q => nomatch q))
                    have Arv_787 := Arv_777.keep K784 (ninS ne743 nin0)
                    have Exa_788 := Exa_778.keep K784
                    have Fld_789 := Fld_779.keep K784 (ninS ne744 nin0)
                    have Fld_790 := Fld_780.keep K784 (ninS ne744 nin0)
                    have V791 : Arv Z T782.heap b737 k741 .char (9 : Int32) [(.int (bs.getD 0 0)), (.int (bs.getD 1 0)), (.int (bs.getD 2 0)), (.int (bs.getD 3 0)), (.int (0 : Int32)), (.int (0 : Int32)), (.int (0 : Int32)), (.int (0 : Int32)), (.int (0 : Int32))] (.int (0 : Int32)) := V785
                    refine F_dup X783 d_make_403 rfl (pc' := 404) rfl ?_
                    refine F_iconst X783 (v := (4 : Int32)) d_make_404 rfl (pc' := 405) rfl ?_
                    refine F_aloadN X783 d_make_405 rfl rfl (pc' := 406) rfl ?_
                    refine F_iconst X783 (v := (4 : Int32)) d_make_406 rfl (pc' := 407) rfl ?_
                    refine F_caload X783 (v := (.int (bs.getD 4 0))) d_make_407 Arv_787 ⟨by decide, by decide⟩ (own_gd (i := 4) (by omega)) (pc' := 408) rfl ?_
                    refine F_castore X783 4 (y := (bs.getD 4 0)) d_make_408 (c8_nar (hb _ (own_mem (by omega)))) V791 ⟨by decide, by decide⟩ rfl (Nat.le_of_ble_eq_true rfl) g750 (pc' := 409) rfl ?_
                    intro T792 X793 K794 V795
                    have KK796 := KK786.trans K794 (allS (Or.inr sz742) (fun x q => nomatch q))
                    have Arv_797 := Arv_787.keep K794 (ninS ne743 nin0)
                    have Exa_798 := Exa_788.keep K794
                    have Fld_799 := Fld_789.keep K794 (ninS ne744 nin0)
                    have Fld_800 := Fld_790.keep K794 (ninS ne744 nin0)
                    have V801 : Arv Z T792.heap b737 k741 .char (9 : Int32) [(.int (bs.getD 0 0)), (.int (bs.getD 1 0)), (.int (bs.getD 2 0)), (.int (bs.getD 3 0)), (.int (bs.getD 4 0)), (.int (0 : Int32)), (.int (0 : Int32)), (.int (0 : Int32)), (.int (0 : Int32))] (.int (0 : Int32)) := V795
                    refine F_dup X793 d_make_409 rfl (pc' := 410) rfl ?_
                    refine F_iconst X793 (v := (5 : Int32)) d_make_410 rfl (pc' := 411) rfl ?_
                    refine F_aloadN X793 d_make_411 rfl rfl (pc' := 412) rfl ?_
                    refine F_iconst X793 (v := (5 : Int32)) d_make_412 rfl (pc' := 413) rfl ?_
                    refine F_caload X793 (v := (.int (bs.getD 5 0))) d_make_413 Arv_797 ⟨by decide, by decide⟩ (own_gd (i := 5) (by omega)) (pc' := 414) rfl ?_
                    refine F_castore X793 5 (y := (bs.getD 5 0)) d_make_414 (c8_nar (hb _ (own_mem (by omega)))) V801 ⟨by decide, by decide⟩ rfl (Nat.le_of_ble_eq_true rfl) g750 (pc' := 415) rfl ?_
                    intro T802 X803 K804 V805
                    have KK806 := KK796.trans K804 (allS (Or.inr sz742) (fun x q => nomatch q))
                    have Arv_807 := Arv_797.keep K804 (ninS ne743 nin0)
                    have Exa_808 := Exa_798.keep K804
                    have Fld_809 := Fld_799.keep K804 (ninS ne744 nin0)
                    have Fld_810 := Fld_800.keep K804 (ninS ne744 nin0)
                    have V811 : Arv Z T802.heap b737 k741 .char (9 : Int32) [(.int (bs.getD 0 0)), (.int (bs.getD 1 0)), (.int (bs.getD 2 0)), (.int (bs.getD 3 0)), (.int (bs.getD 4 0)), (.int (bs.getD 5 0)), (.int (0 : Int32)), (.int (0 : Int32)), (.int (0 : Int32))] (.int (0 : Int32)) := V805
                    refine F_dup X803 d_make_415 rfl (pc' := 416) rfl ?_
                    refine F_bipush X803 (v := (6 : Int32)) d_make_416 rfl (pc' := 418) rfl ?_
                    refine F_aloadN X803 d_make_418 rfl rfl (pc' := 419) rfl ?_
                    refine F_bipush X803 (v := (6 : Int32)) d_make_419 rfl (pc' := 421) rfl ?_
                    refine F_caload X803 (v := (.int (bs.getD 6 0))) d_make_421 Arv_807 ⟨by decide, by decide⟩ (own_gd (i := 6) (by omega)) (pc' := 422) rfl ?_
                    refine F_castore X803 6 (y := (bs.getD 6 0)) d_make_422 (c8_nar (hb _ (own_mem (by omega)))) V811 ⟨by decide, by decide⟩ rfl (Nat.le_of_ble_eq_true rfl) g750 (pc' := 423) rfl ?_
                    intro T812 X813 K814 V815
                    have KK816 := KK806.trans K814 (allS (Or.inr sz742) (fun x q => nomatch q))
                    have Arv_817 := Arv_807.keep K814 (ninS ne743 nin0)
                    have Exa_818 := Exa_808.keep K814
                    have Fld_819 := Fld_809.keep K814 (ninS ne744 nin0)
                    have Fld_820 := Fld_810.keep K814 (ninS ne744 nin0)
                    have V821 : Arv Z T812.heap b737 k741 .char (9 : Int32) [(.int (bs.getD 0 0)), (.int (bs.getD 1 0)), (.int (bs.getD 2 0)), (.int (bs.getD 3 0)), (.int (bs.getD 4 0)), (.int (bs.getD 5 0)), (.int (bs.getD 6 0)), (.int (0 : Int32)), (.int (0 : Int32))] (.int (0 : Int32)) := V815
                    refine F_dup X813 d_make_423 rfl (pc' := 424) rfl ?_
                    refine F_bipush X813 (v := (7 : Int32)) d_make_424 rfl (pc' := 426) rfl ?_
                    refine F_aloadN X813 d_make_426 rfl rfl (pc' := 427) rfl ?_
                    refine F_bipush X813 (v := (7 : Int32)) d_make_427 rfl (pc' := 429) rfl ?_
                    refine F_caload X813 (v := (.int (bs.getD 7 0))) d_make_429 Arv_817 ⟨by decide, by decide⟩ (own_gd (i := 7) (by omega)) (pc' := 430) rfl ?_
                    refine F_castore X813 7 (y := (bs.getD 7 0)) d_make_430 (c8_nar (hb _ (own_mem (by omega)))) V821 ⟨by decide, by decide⟩ rfl (Nat.le_of_ble_eq_true rfl) g750 (pc' := 431) rfl ?_
                    intro T822 X823 K824 V825
                    have KK826 := KK816.trans K824 (allS (Or.inr sz742) (fun x q => nomatch q))
                    have Arv_827 := Arv_817.keep K824 (ninS ne743 nin0)
                    have Exa_828 := Exa_818.keep K824
                    have Fld_829 := Fld_819.keep K824 (ninS ne744 nin0)
                    have Fld_830 := Fld_820.keep K824 (ninS ne744 nin0)
                    have V831 : Arv Z T822.heap b737 k741 .char (9 : Int32) [(.int (bs.getD 0 0)), (.int (bs.getD 1 0)), (.int (bs.getD 2 0)), (.int (bs.getD 3 0)), (.int (bs.getD 4 0)), (.int (bs.getD 5 0)), (.int (bs.getD 6 0)), (.int (bs.getD 7 0)), (.int (0 : Int32))] (.int (0 : Int32)) := V825
                    refine F_dup X823 d_make_431 rfl (pc' := 432) rfl ?_
                    refine F_bipush X823 (v := (8 : Int32)) d_make_432 rfl (pc' := 434) rfl ?_
                    refine F_aloadN X823 d_make_434 rfl rfl (pc' := 435) rfl ?_
                    refine F_bipush X823 (v := (8 : Int32)) d_make_435 rfl (pc' := 437) rfl ?_
                    refine F_caload X823 (v := (.int (bs.getD 8 0))) d_make_437 Arv_827 ⟨by decide, by decide⟩ (own_gd (i := 8) (by omega)) (pc' := 438) rfl ?_
                    refine F_castore X823 8 (y := (bs.getD 8 0)) d_make_438 (c8_nar (hb _ (own_mem (by omega)))) V831 ⟨by decide, by decide⟩ rfl (Nat.le_of_ble_eq_true rfl) g750 (pc' := 439) rfl ?_
                    intro T832 X833 K834 V835
                    have KK836 := KK826.trans K834 (allS (Or.inr sz742) (fun x q => nomatch q))
                    have Arv_837 := Arv_827.keep K834 (ninS ne743 nin0)
                    have Exa_838 := Exa_828.keep K834
                    have Fld_839 := Fld_829.keep K834 (ninS ne744 nin0)
                    have Fld_840 := Fld_830.keep K834 (ninS ne744 nin0)
                    have V841 : Arv Z T832.heap b737 k741 .char (9 : Int32) [(.int (bs.getD 0 0)), (.int (bs.getD 1 0)), (.int (bs.getD 2 0)), (.int (bs.getD 3 0)), (.int (bs.getD 4 0)), (.int (bs.getD 5 0)), (.int (bs.getD 6 0)), (.int (bs.getD 7 0)), (.int (bs.getD 8 0))] (.int (0 : Int32)) := V835
                    refine F_special X833 (rm := rm_sinit) (a := b723) d_make_439 rfl rfl (hw _ (List.mem_of_getElem? (i := 8) rfl)) (hw _ (List.mem_of_getElem? (i := 9) rfl)) (hw _ (List.mem_of_getElem? (i := 10) rfl)) (by decide) (hw _ (List.mem_of_getElem? (i := 7) rfl)) (argsL := [(.ref b737)]) (st := [(.ref b723)]) rfl (ct_sinit l Z a0 hw G1 G3 OS hEL hSA b723 b737 k741 [(bs.getD 0 0), (bs.getD 1 0), (bs.getD 2 0), (bs.getD 3 0), (bs.getD 4 0), (bs.getD 5 0), (bs.getD 6 0), (bs.getD 7 0), (bs.getD 8 0)] (.int (0 : Int32)) .null (.int (0 : Int32)) X833.old (Nat.le_of_ble_eq_true rfl) (Nat.le_of_ble_eq_true rfl) (allC (hb _ (own_mem (by omega))) (allC (hb _ (own_mem (by omega))) (allC (hb _ (own_mem (by omega))) (allC (hb _ (own_mem (by omega))) (allC (hb _ (own_mem (by omega))) (allC (hb _ (own_mem (by omega))) (allC (hb _ (own_mem (by omega))) (allC (hb _ (own_mem (by omega))) (allC (hb _ (own_mem (by omega))) allN))))))))) Exa_838 Fld_840 Fld_839 g732 V841) (lenOf (pd_5) rfl) rfl (by decide) (by decide) (by decide) (Nat.le_of_ble_eq_true rfl) [b723] (fun _ _ q => q.2.1) (sfS (own_safe X833.al Exa_838 Fld_840 (hw _ (List.mem_of_getElem? (i := 6) rfl))) (sf0))  (pc' := 442) rfl ?_
                    intro T842 _ X843 hQ844
                    obtain ⟨rfl, K845, t846, sz847, S848⟩ := hQ844
                    have ne849 : b ≠ t846 := Nat.ne_of_lt (Nat.lt_of_lt_of_le Arv_837.lt sz847)
                    have ne850 : b723 ≠ t846 := Nat.ne_of_lt (Nat.lt_of_lt_of_le Exa_838.lt sz847)
                    have ne851 : b737 ≠ t846 := Nat.ne_of_lt (Nat.lt_of_lt_of_le V841.lt sz847)
                    have KK852 := KK836.trans K845 (allS (Or.inr sz728) (fun x q => nomatch q))
                    have Arv_853 := Arv_837.keep K845 (ninS ne729 nin0)
                    have Arv_854 := V841.keep K845 (ninS (Ne.symm ne744) nin0)
                    have sz855 : T0.heap.size ≤ t846 := Nat.le_trans KK836.1 sz847
                    show EndW p e below s Z _ _ _ T842 (mkF m 442 #[.val (.ref b), .val (.int n)] [(.ref b723)])
                    exact F_areturn X843 (t := (.object "java/lang/String")) d_make_442 rfl rfl rfl rfl (by decide) (by decide) (⟨b723, t846, _, rfl, KK852, S848⟩)
  · skip
    refine F_ifF X0 d_make_1 (XT.i0_gt_f hc1) (pc' := 4) rfl ?_
    refine F_new X0 d_make_4 (hw _ (List.mem_of_getElem? (i := 5) rfl)) (hw _ (List.mem_of_getElem? (i := 6) rfl)) (hw _ (List.mem_of_getElem? (i := 7) rfl)) (by decide) (by decide) (pc' := 7) rfl ?_
    intro T856 b858 X857 hb859 K860 E861 D862
    have sz863 : T0.heap.size ≤ b858 := Nat.le_trans K00.1 (Nat.le_of_eq hb859.symm)
    have ne864 : b ≠ b858 := Nat.ne_of_lt (Nat.lt_of_lt_of_eq V0.lt hb859.symm)
    have KK865 := K00.trans K860 (fun x q => nomatch q)
    have Arv_866 := V0.keep K860 nin0
    have g867 : Z.heap.size ≤ b858 := Nat.le_trans X0.le (Nat.le_of_eq hb859.symm)
    have F868 : Fld Z T856.heap b858 "java/lang/String" "coder" "B" (.int (0 : Int32)) := D862 (Or.inr (hw _ (List.mem_of_getElem? (i := 31) rfl))) (ty := .byte) (by decide)
    have F869 : Fld Z T856.heap b858 "java/lang/String" "value" "[B" .null := D862 (Or.inr (hw _ (List.mem_of_getElem? (i := 33) rfl))) (ty := (.array .byte)) (by decide)
    refine F_dup X857 d_make_7 rfl (pc' := 8) rfl ?_
    refine F_iconst X857 (v := (0 : Int32)) d_make_8 rfl (pc' := 9) rfl ?_
    refine F_newarray X857 0 d_make_9 (hw _ (List.mem_of_getElem? (i := 0) rfl)) (by decide) (by decide) (by decide) (by decide) (by decide) (pc' := 11) rfl ?_
    intro T870 b872 k876 X871 hb873 K874 V875
    have sz877 : T0.heap.size ≤ b872 := Nat.le_trans KK865.1 (Nat.le_of_eq hb873.symm)
    have ne878 : b ≠ b872 := Nat.ne_of_lt (Nat.lt_of_lt_of_eq Arv_866.lt hb873.symm)
    have ne879 : b858 ≠ b872 := Nat.ne_of_lt (Nat.lt_of_lt_of_eq E861.lt hb873.symm)
    have KK880 := KK865.trans K874 (fun x q => nomatch q)
    have Arv_881 := Arv_866.keep K874 nin0
    have Exa_882 := E861.keep K874
    have Fld_883 := F868.keep K874 nin0
    have Fld_884 := F869.keep K874 nin0
    have g885 : Z.heap.size ≤ b872 := Nat.le_trans X857.le (Nat.le_of_eq hb873.symm)
    have V886 : Arv Z T870.heap b872 k876 .char (0 : Int32) [] (.int (0 : Int32)) := V875.pad (pad_rep [] (.int (0 : Int32)) 0)
    refine G_special X871 (rm := rm_sinit0) (a := b858) d_make_11 rfl rfl (hw _ (List.mem_of_getElem? (i := 8) rfl)) (hw _ (List.mem_of_getElem? (i := 9) rfl)) (hw _ (List.mem_of_getElem? (i := 10) rfl)) (by decide) (hw _ (List.mem_of_getElem? (i := 7) rfl)) (argsL := [(.ref b872)]) (st := [(.ref b858)]) rfl (ct_sinit0 l Z a0 hw G1 G3 OS hEL hSA b858 b872 k876 (.int (0 : Int32)) X871.old Exa_882 Fld_884 Fld_883 g867 V886) (lenOf (pd_5) rfl) rfl (by decide) (by decide) (by decide) (Nat.le_of_ble_eq_true rfl)  (pc' := 14) rfl ?_
    intro T887 _ X888 hQ889 hsf890
    obtain ⟨rfl, K891, t892, S893⟩ := hQ889
    have KK894 := KK880.trans K891 (allS (Or.inr sz863) (fun x q => nomatch q))
    have Arv_895 := Arv_881.keep K891 (ninS ne864 nin0)
    have Arv_896 := V886.keep K891 (ninS (Ne.symm ne879) nin0)
    show EndW p e below s Z _ _ _ T887 (mkF m 14 #[.val (.ref b), .val (.int n)] [(.ref b858)])
    exact F_areturn X888 (t := (.object "java/lang/String")) d_make_14 rfl rfl rfl rfl (by decide) (by decide) (⟨b858, t892, _, rfl, KK894, S893⟩)
theorem d_vals_0 : decode prog_4_method_1_code 0 = .ok (.getstatic 10, 3) := by decide +kernel
theorem d_vals_3 : decode prog_4_method_1_code 3 = .ok (.invokevirtual 14, 3) := by decide +kernel
theorem d_vals_6 : decode prog_4_method_1_code 6 = .ok (.checkcast 15, 3) := by decide +kernel
theorem d_vals_9 : decode prog_4_method_1_code 9 = .ok (.areturn, 1) := by decide +kernel
abbrev rm_vals : Room := ({ frames := 1, cells := 1, slots := 2, locals := 14 } : Room)
def Q_vals (Z : State) (A B sa sb va vb vv oe : Addr) (kv : ClassId) (PN : Pin Z A B sa sb va vb vv oe kv) (h0 : Heap) (v : Option Value) (h : Heap) : Prop := ∃ d, v = some (.ref d) ∧ Keep h0 h [] ∧ h0.size ≤ d ∧ Arv Z h d kv (.object "com/example/panoptes/panoptes/Caller$Role") (2 : Int32) [.ref A, .ref B] .null
set_option maxRecDepth 65536 in
set_option maxHeartbeats 40000000 in
theorem ct_vals (l : Launch) (Z : State) (a0 : Array Value) (hw : ∀ d ∈ tables_1, d.before a0 Z = true) (G1 : Int32) (G3 : Value) (OS : Sts Z G1 G3) (hEL : EW Z a0 EL) (hSA : ∀ a ∈ Bundle.stringAtoms, a.before a0 Z = true) (A B sa sb va vb vv oe : Addr) (kv : ClassId) (PN : Pin Z A B sa sb va vb vv oe kv) {h0 : Heap} (O : Ext Z.heap h0)  : Ct l Z (⟨"com/example/panoptes/panoptes/Caller$Role", "values", "()[Lcom/example/panoptes/panoptes/Caller$Role;"⟩ : MethodName) prog_4_method_1_code 0 (some (.array (.object "com/example/panoptes/panoptes/Caller$Role"))) rm_vals #[] h0 (Q_vals Z A B sa sb va vb vv oe kv PN h0) := by
  refine Ct.of_body (Ls := #[]) (by decide +kernel) O (fun m => by first | rfl | (simp [entryFrame, mkF, argsToLocals, Value.category]; done) | (rcases ref_cases (Sts.ref OS) with rfl | ⟨r, rfl⟩ <;> rfl)) ?_
  intro p e s m below meth c T0 X0 e0
  subst e0
  have K00 := Keep.refl T0.heap []
  have VV0 := (PN.2.2.2.2.2.2.2.2.2.1.keep (Keep.of_ext O) nin0)
  have EV0 := (PN.2.2.2.2.2.2.2.2.2.2.1.keep (Keep.of_ext O))
  refine E_getstatic X0 d_vals_0 (hw _ (List.mem_of_getElem? (i := 56) rfl)) Via.refl PN.2.2.1 (pc' := 3) rfl ?_
  intro T1 X2 e3
  have KK4 := own_keq K00 e3
  rw [← e3] at VV0 EV0
  refine E_clone X2 2 d_vals_3 (hw _ (List.mem_of_getElem? (i := 58) rfl)) (hw _ (List.mem_of_getElem? (i := 59) rfl)) (hw _ (List.mem_of_getElem? (i := 63) rfl)) (hw _ (List.mem_of_getElem? (i := 61) rfl)) (hw _ (List.mem_of_getElem? (i := 62) rfl)) (hw _ (List.mem_of_getElem? (i := 64) rfl)) VV0 EV0 rfl (by decide) (Nat.le_of_ble_eq_true rfl) (by decide) (by decide) (by decide) (pc' := 6) rfl ?_
  intro T5 b7 X6 hb8 K9 V10 E11
  have sz12 : T0.heap.size ≤ b7 := Nat.le_trans KK4.1 (Nat.le_of_eq hb8.symm)
  have ne13 : vv ≠ b7 := Nat.ne_of_lt (Nat.lt_of_lt_of_eq VV0.lt hb8.symm)
  have KK14 := KK4.trans K9 (fun x q => nomatch q)
  have Arv_15 := VV0.keep K9 nin0
  have Exa_16 := EV0.keep K9
  have g17 : Z.heap.size ≤ b7 := Nat.le_trans X2.le (Nat.le_of_eq hb8.symm)
  refine E_checkcast X6 d_vals_6 (hw _ (List.mem_of_getElem? (i := 67) rfl)) (Ins.self E11) (pc' := 9) rfl ?_
  intro T18 X19 e20
  have KK21 := own_keq KK14 e20
  rw [← e20] at Arv_15 Exa_16 V10 E11
  exact E_areturn X19 (t := (.array (.object "com/example/panoptes/panoptes/Caller$Role"))) d_vals_9 rfl rfl rfl rfl (by decide) (by decide) (⟨b7, rfl, KK21, sz12, V10⟩)
theorem d_rnn_0 : decode jdk_31_method_10_code 0 = .ok (.aload_n 0, 1) := by decide +kernel
theorem d_rnn_1 : decode jdk_31_method_10_code 1 = .ok (.ifnonnull 11, 3) := by decide +kernel
theorem d_rnn_12 : decode jdk_31_method_10_code 12 = .ok (.aload_n 0, 1) := by decide +kernel
theorem d_rnn_13 : decode jdk_31_method_10_code 13 = .ok (.areturn, 1) := by decide +kernel
abbrev rm_rnn : Room := ({ frames := 0, cells := 0, slots := 0, locals := 0 } : Room)
def Q_rnn (Z : State) (y : Addr) (h0 : Heap) (v : Option Value) (h : Heap) : Prop := v = some (.ref y) ∧ h = h0
set_option maxRecDepth 65536 in
set_option maxHeartbeats 40000000 in
theorem ct_rnn (l : Launch) (Z : State) (a0 : Array Value) (hw : ∀ d ∈ tables_1, d.before a0 Z = true) (G1 : Int32) (G3 : Value) (OS : Sts Z G1 G3) (hEL : EW Z a0 EL) (hSA : ∀ a ∈ Bundle.stringAtoms, a.before a0 Z = true) (y : Addr) {h0 : Heap} (O : Ext Z.heap h0)  : Ct l Z (⟨"java/util/Objects", "requireNonNull", "(Ljava/lang/Object;)Ljava/lang/Object;"⟩ : MethodName) jdk_31_method_10_code 1 (some (.object "java/lang/Object")) rm_rnn #[(.ref y)] h0 (Q_rnn Z y h0) := by
  refine Ct.of_body (Ls := #[.val (.ref y)]) (by decide +kernel) O (fun m => by first | rfl | (simp [entryFrame, mkF, argsToLocals, Value.category]; done) | (rcases ref_cases (Sts.ref OS) with rfl | ⟨r, rfl⟩ <;> rfl)) ?_
  intro p e s m below meth c T0 X0 e0
  subst e0
  refine E_aloadN X0 d_rnn_0 rfl rfl (pc' := 1) rfl ?_
  refine E_nonnullT X0 d_rnn_1 (pc' := 12) (by decide) rfl ?_
  refine E_aloadN X0 d_rnn_12 rfl rfl (pc' := 13) rfl ?_
  exact E_areturn X0 (t := (.object "java/lang/Object")) d_rnn_13 rfl rfl rfl rfl (by decide) (by decide) (⟨rfl, rfl⟩)
theorem d_oinit_0 : decode jdk_32_method_2_code 0 = .ok (.aload_n 0, 1) := by decide +kernel
theorem d_oinit_1 : decode jdk_32_method_2_code 1 = .ok (.invokespecial 7, 3) := by decide +kernel
theorem d_oinit_4 : decode jdk_32_method_2_code 4 = .ok (.aload_n 0, 1) := by decide +kernel
theorem d_oinit_5 : decode jdk_32_method_2_code 5 = .ok (.aload_n 1, 1) := by decide +kernel
theorem d_oinit_6 : decode jdk_32_method_2_code 6 = .ok (.putfield 13, 3) := by decide +kernel
theorem d_oinit_9 : decode jdk_32_method_2_code 9 = .ok (.return_, 1) := by decide +kernel
abbrev rm_oinit : Room := ({ frames := 1, cells := 0, slots := 0, locals := 12 } : Room)
def Q_oinit (Z : State) (x y : Addr) (h0 : Heap) (v : Option Value) (h : Heap) : Prop := v = none ∧ Keep h0 h [x] ∧ Fld Z h x "java/util/Optional" "value" "Ljava/lang/Object;" (.ref y)
set_option maxRecDepth 65536 in
set_option maxHeartbeats 40000000 in
theorem ct_oinit (l : Launch) (Z : State) (a0 : Array Value) (hw : ∀ d ∈ tables_1, d.before a0 Z = true) (G1 : Int32) (G3 : Value) (OS : Sts Z G1 G3) (hEL : EW Z a0 EL) (hSA : ∀ a ∈ Bundle.stringAtoms, a.before a0 Z = true) (x y : Addr) {h0 : Heap} (O : Ext Z.heap h0) (E0 : Exa Z h0 x "java/util/Optional") (F0 : Fld Z h0 x "java/util/Optional" "value" "Ljava/lang/Object;" .null) (gx : Z.heap.size ≤ x) : Ct l Z (⟨"java/util/Optional", "<init>", "(Ljava/lang/Object;)V"⟩ : MethodName) jdk_32_method_2_code 2 none rm_oinit #[(.ref x), (.ref y)] h0 (Q_oinit Z x y h0) := by
  refine Ct.of_body (Ls := #[.val (.ref x), .val (.ref y)]) (by decide +kernel) O (fun m => by first | rfl | (simp [entryFrame, mkF, argsToLocals, Value.category]; done) | (rcases ref_cases (Sts.ref OS) with rfl | ⟨r, rfl⟩ <;> rfl)) ?_
  intro p e s m below meth c T0 X0 e0
  subst e0
  have K00 := Keep.refl T0.heap [x]
  refine E_aloadN X0 d_oinit_0 rfl rfl (pc' := 1) rfl ?_
  refine E_initO X0 d_oinit_1 (hw _ (List.mem_of_getElem? (i := 86) rfl)) (hw _ (List.mem_of_getElem? (i := 16) rfl)) (hw _ (List.mem_of_getElem? (i := 17) rfl)) rfl (by decide) (Nat.le_of_ble_eq_true rfl) (pc' := 4) rfl ?_
  intro T1 X2 e3
  have KK4 := own_keq K00 e3
  rw [← e3] at E0 F0
  refine E_aloadN X2 d_oinit_4 rfl rfl (pc' := 5) rfl ?_
  refine E_aloadN X2 d_oinit_5 rfl rfl (pc' := 6) rfl ?_
  refine E_putfield X2 (ty := (.object "java/lang/Object")) d_oinit_6 (hw _ (List.mem_of_getElem? (i := 87) rfl)) Via.refl F0 E0 (Or.inr ⟨(hw _ (List.mem_of_getElem? (i := 88) rfl)), rfl, rfl⟩) (hw _ (List.mem_of_getElem? (i := 77) rfl)) (by decide) rfl rfl gx  (pc' := 9) rfl ?_
  intro T5 X6 W7
  have K8 := Keep.of_wr W7
  have KK9 := KK4.trans K8 (allS (Or.inl (by simp)) (fun x q => nomatch q))
  have Exa_10 := E0.keep K8
  have F11 := F0.same W7
  exact E_return X6 d_oinit_9 rfl (by decide) (by decide) (⟨rfl, KK9, F11⟩)
theorem d_oof_0 : decode jdk_32_method_3_code 0 = .ok (.new 2, 3) := by decide +kernel
theorem d_oof_3 : decode jdk_32_method_3_code 3 = .ok (.dup, 1) := by decide +kernel
theorem d_oof_4 : decode jdk_32_method_3_code 4 = .ok (.aload_n 0, 1) := by decide +kernel
theorem d_oof_5 : decode jdk_32_method_3_code 5 = .ok (.invokestatic 17, 3) := by decide +kernel
theorem d_oof_8 : decode jdk_32_method_3_code 8 = .ok (.invokespecial 23, 3) := by decide +kernel
theorem d_oof_11 : decode jdk_32_method_3_code 11 = .ok (.areturn, 1) := by decide +kernel
abbrev rm_oof : Room := ({ frames := 2, cells := 1, slots := 1, locals := 26 } : Room)
def Q_oof (Z : State) (y : Addr) (h0 : Heap) (v : Option Value) (h : Heap) : Prop := ∃ o, v = some (.ref o) ∧ Keep h0 h [] ∧ Exa Z h o "java/util/Optional" ∧ Fld Z h o "java/util/Optional" "value" "Ljava/lang/Object;" (.ref y)
set_option maxRecDepth 65536 in
set_option maxHeartbeats 40000000 in
theorem ct_oof (l : Launch) (Z : State) (a0 : Array Value) (hw : ∀ d ∈ tables_1, d.before a0 Z = true) (G1 : Int32) (G3 : Value) (OS : Sts Z G1 G3) (hEL : EW Z a0 EL) (hSA : ∀ a ∈ Bundle.stringAtoms, a.before a0 Z = true) (y : Addr) {h0 : Heap} (O : Ext Z.heap h0)  : Ct l Z (⟨"java/util/Optional", "of", "(Ljava/lang/Object;)Ljava/util/Optional;"⟩ : MethodName) jdk_32_method_3_code 1 (some (.object "java/util/Optional")) rm_oof #[(.ref y)] h0 (Q_oof Z y h0) := by
  refine Ct.of_body (Ls := #[.val (.ref y)]) (by decide +kernel) O (fun m => by first | rfl | (simp [entryFrame, mkF, argsToLocals, Value.category]; done) | (rcases ref_cases (Sts.ref OS) with rfl | ⟨r, rfl⟩ <;> rfl)) ?_
  intro p e s m below meth c T0 X0 e0
  subst e0
  have K00 := Keep.refl T0.heap []
  refine E_new X0 d_oof_0 (hw _ (List.mem_of_getElem? (i := 76) rfl)) (hw _ (List.mem_of_getElem? (i := 77) rfl)) (hw _ (List.mem_of_getElem? (i := 74) rfl)) (by decide) (by decide) (pc' := 3) rfl ?_
  intro T1 b3 X2 hb4 K5 E6 D7
  have sz8 : T0.heap.size ≤ b3 := Nat.le_trans K00.1 (Nat.le_of_eq hb4.symm)
  have KK9 := K00.trans K5 (fun x q => nomatch q)
  have g10 : Z.heap.size ≤ b3 := Nat.le_trans X0.le (Nat.le_of_eq hb4.symm)
  have F11 : Fld Z T1.heap b3 "java/util/Optional" "value" "Ljava/lang/Object;" .null := D7 (Or.inr (hw _ (List.mem_of_getElem? (i := 88) rfl))) (ty := (.object "java/lang/Object")) (by decide)
  refine E_dup X2 d_oof_3 rfl (pc' := 4) rfl ?_
  refine E_aloadN X2 d_oof_4 rfl rfl (pc' := 5) rfl ?_
  refine E_static X2 (rm := rm_rnn) d_oof_5 (hw _ (List.mem_of_getElem? (i := 78) rfl)) (hw _ (List.mem_of_getElem? (i := 79) rfl)) (hw _ (List.mem_of_getElem? (i := 80) rfl)) (hw _ (List.mem_of_getElem? (i := 81) rfl)) (by decide) (argsL := [(.ref y)]) (st := [(.ref b3), (.ref b3)]) rfl (ct_rnn l Z a0 hw G1 G3 OS hEL hSA y X2.old) (lenOf (pd_6) rfl) rfl (by decide) (by decide) (by decide) (Nat.le_of_ble_eq_true rfl)  (pc' := 8) rfl ?_
  intro T12 _ X13 hQ14
  obtain ⟨rfl, e15⟩ := hQ14
  have KK16 := own_keq KK9 e15
  rw [← e15] at E6 F11
  show Ends p e below s Z _ _ _ T12 (mkF m 8 #[.val (.ref y)] [(.ref y), (.ref b3), (.ref b3)])
  refine E_special X13 (rm := rm_oinit) (a := b3) d_oof_8 rfl rfl (hw _ (List.mem_of_getElem? (i := 82) rfl)) (hw _ (List.mem_of_getElem? (i := 83) rfl)) (hw _ (List.mem_of_getElem? (i := 85) rfl)) (by decide) (hw _ (List.mem_of_getElem? (i := 74) rfl)) (argsL := [(.ref y)]) (st := [(.ref b3)]) rfl (ct_oinit l Z a0 hw G1 G3 OS hEL hSA b3 y X13.old E6 F11 g10) (lenOf (pd_7) rfl) rfl (by decide) (by decide) (by decide) (Nat.le_of_ble_eq_true rfl)  (pc' := 11) rfl ?_
  intro T17 _ X18 hQ19
  obtain ⟨rfl, K20, G21⟩ := hQ19
  have KK22 := KK16.trans K20 (allS (Or.inr sz8) (fun x q => nomatch q))
  have Exa_23 := E6.keep K20
  show Ends p e below s Z _ _ _ T17 (mkF m 11 #[.val (.ref y)] [(.ref b3)])
  exact E_areturn X18 (t := (.object "java/util/Optional")) d_oof_11 rfl rfl rfl rfl (by decide) (by decide) (⟨b3, rfl, KK22, Exa_23, G21⟩)
theorem d_oemp_0 : decode jdk_32_method_1_code 0 = .ok (.getstatic 1, 3) := by decide +kernel
theorem d_oemp_3 : decode jdk_32_method_1_code 3 = .ok (.astore_n 0, 1) := by decide +kernel
theorem d_oemp_4 : decode jdk_32_method_1_code 4 = .ok (.aload_n 0, 1) := by decide +kernel
theorem d_oemp_5 : decode jdk_32_method_1_code 5 = .ok (.areturn, 1) := by decide +kernel
abbrev rm_oemp : Room := ({ frames := 0, cells := 0, slots := 0, locals := 0 } : Room)
def Q_oemp (Z : State) (A B sa sb va vb vv oe : Addr) (kv : ClassId) (PN : Pin Z A B sa sb va vb vv oe kv) (h0 : Heap) (v : Option Value) (h : Heap) : Prop := v = some (.ref oe) ∧ h = h0
set_option maxRecDepth 65536 in
set_option maxHeartbeats 40000000 in
theorem ct_oemp (l : Launch) (Z : State) (a0 : Array Value) (hw : ∀ d ∈ tables_1, d.before a0 Z = true) (G1 : Int32) (G3 : Value) (OS : Sts Z G1 G3) (hEL : EW Z a0 EL) (hSA : ∀ a ∈ Bundle.stringAtoms, a.before a0 Z = true) (A B sa sb va vb vv oe : Addr) (kv : ClassId) (PN : Pin Z A B sa sb va vb vv oe kv) {h0 : Heap} (O : Ext Z.heap h0)  : Ct l Z (⟨"java/util/Optional", "empty", "()Ljava/util/Optional;"⟩ : MethodName) jdk_32_method_1_code 1 (some (.object "java/util/Optional")) rm_oemp #[] h0 (Q_oemp Z A B sa sb va vb vv oe kv PN h0) := by
  refine Ct.of_body (Ls := #[.unset]) (by decide +kernel) O (fun m => by first | rfl | (simp [entryFrame, mkF, argsToLocals, Value.category]; done) | (rcases ref_cases (Sts.ref OS) with rfl | ⟨r, rfl⟩ <;> rfl)) ?_
  intro p e s m below meth c T0 X0 e0
  subst e0
  refine E_getstatic X0 d_oemp_0 (hw _ (List.mem_of_getElem? (i := 97) rfl)) Via.refl PN.2.2.2.2.2.2.2.2.2.2.2.1 (pc' := 3) rfl ?_
  intro T1 X2 e3
  refine E_astoreN X2 d_oemp_3 rfl (l' := #[.val (.ref oe)]) rfl (pc' := 4) rfl ?_
  refine E_aloadN X2 d_oemp_4 rfl rfl (pc' := 5) rfl ?_
  exact E_areturn X2 (t := (.object "java/util/Optional")) d_oemp_5 rfl rfl rfl rfl (by decide) (by decide) (⟨rfl, e3⟩)
theorem d_oreR_0 : decode jdk_32_method_15_code 0 = .ok (.aload_n 0, 1) := by decide +kernel
theorem d_oreR_1 : decode jdk_32_method_15_code 1 = .ok (.getfield 13, 3) := by decide +kernel
theorem d_oreR_4 : decode jdk_32_method_15_code 4 = .ok (.ifnull 10, 3) := by decide +kernel
theorem d_oreR_7 : decode jdk_32_method_15_code 7 = .ok (.aload_n 0, 1) := by decide +kernel
theorem d_oreR_8 : decode jdk_32_method_15_code 8 = .ok (.getfield 13, 3) := by decide +kernel
theorem d_oreR_11 : decode jdk_32_method_15_code 11 = .ok (.goto 4, 3) := by decide +kernel
theorem d_oreR_15 : decode jdk_32_method_15_code 15 = .ok (.areturn, 1) := by decide +kernel
abbrev rm_oreR : Room := ({ frames := 0, cells := 0, slots := 0, locals := 0 } : Room)
def Q_oreR (Z : State) (x y : Addr) (h0 : Heap) (v : Option Value) (h : Heap) : Prop := v = some (.ref y) ∧ h = h0
set_option maxRecDepth 65536 in
set_option maxHeartbeats 40000000 in
theorem ct_oreR (l : Launch) (Z : State) (a0 : Array Value) (hw : ∀ d ∈ tables_1, d.before a0 Z = true) (G1 : Int32) (G3 : Value) (OS : Sts Z G1 G3) (hEL : EW Z a0 EL) (hSA : ∀ a ∈ Bundle.stringAtoms, a.before a0 Z = true) (x y : Addr) {h0 : Heap} (O : Ext Z.heap h0) (F0 : Fld Z h0 x "java/util/Optional" "value" "Ljava/lang/Object;" (.ref y)) : Ct l Z (⟨"java/util/Optional", "orElse", "(Ljava/lang/Object;)Ljava/lang/Object;"⟩ : MethodName) jdk_32_method_15_code 2 (some (.object "java/lang/Object")) rm_oreR #[(.ref x), .null] h0 (Q_oreR Z x y h0) := by
  refine Ct.of_body (Ls := #[.val (.ref x), .val .null]) (by decide +kernel) O (fun m => by first | rfl | (simp [entryFrame, mkF, argsToLocals, Value.category]; done) | (rcases ref_cases (Sts.ref OS) with rfl | ⟨r, rfl⟩ <;> rfl)) ?_
  intro p e s m below meth c T0 X0 e0
  subst e0
  refine E_aloadN X0 d_oreR_0 rfl rfl (pc' := 1) rfl ?_
  refine E_getfield X0 d_oreR_1 (hw _ (List.mem_of_getElem? (i := 87) rfl)) Via.refl F0 (pc' := 4) rfl ?_
  intro T1 X2 e3
  rw [← e3] at F0
  refine E_nullF X2 d_oreR_4 (pc' := 7) rfl ?_
  refine E_aloadN X2 d_oreR_7 rfl rfl (pc' := 8) rfl ?_
  refine E_getfield X2 d_oreR_8 (hw _ (List.mem_of_getElem? (i := 87) rfl)) Via.refl F0 (pc' := 11) rfl ?_
  intro T4 X5 e6
  rw [← e6] at F0
  refine E_goto X5 d_oreR_11 (pc' := 15) (by decide) rfl ?_
  exact E_areturn X5 (t := (.object "java/lang/Object")) d_oreR_15 rfl rfl rfl rfl (by decide) (by decide) (⟨rfl, (e6.trans e3)⟩)
theorem d_oreN_0 : decode jdk_32_method_15_code 0 = .ok (.aload_n 0, 1) := by decide +kernel
theorem d_oreN_1 : decode jdk_32_method_15_code 1 = .ok (.getfield 13, 3) := by decide +kernel
theorem d_oreN_4 : decode jdk_32_method_15_code 4 = .ok (.ifnull 10, 3) := by decide +kernel
theorem d_oreN_14 : decode jdk_32_method_15_code 14 = .ok (.aload_n 1, 1) := by decide +kernel
theorem d_oreN_15 : decode jdk_32_method_15_code 15 = .ok (.areturn, 1) := by decide +kernel
abbrev rm_oreN : Room := ({ frames := 0, cells := 0, slots := 0, locals := 0 } : Room)
def Q_oreN (Z : State) (x y : Addr) (h0 : Heap) (v : Option Value) (h : Heap) : Prop := v = some .null ∧ h = h0
set_option maxRecDepth 65536 in
set_option maxHeartbeats 40000000 in
theorem ct_oreN (l : Launch) (Z : State) (a0 : Array Value) (hw : ∀ d ∈ tables_1, d.before a0 Z = true) (G1 : Int32) (G3 : Value) (OS : Sts Z G1 G3) (hEL : EW Z a0 EL) (hSA : ∀ a ∈ Bundle.stringAtoms, a.before a0 Z = true) (x y : Addr) {h0 : Heap} (O : Ext Z.heap h0) (F0 : Fld Z h0 x "java/util/Optional" "value" "Ljava/lang/Object;" .null) : Ct l Z (⟨"java/util/Optional", "orElse", "(Ljava/lang/Object;)Ljava/lang/Object;"⟩ : MethodName) jdk_32_method_15_code 2 (some (.object "java/lang/Object")) rm_oreN #[(.ref x), .null] h0 (Q_oreN Z x y h0) := by
  refine Ct.of_body (Ls := #[.val (.ref x), .val .null]) (by decide +kernel) O (fun m => by first | rfl | (simp [entryFrame, mkF, argsToLocals, Value.category]; done) | (rcases ref_cases (Sts.ref OS) with rfl | ⟨r, rfl⟩ <;> rfl)) ?_
  intro p e s m below meth c T0 X0 e0
  subst e0
  refine E_aloadN X0 d_oreN_0 rfl rfl (pc' := 1) rfl ?_
  refine E_getfield X0 d_oreN_1 (hw _ (List.mem_of_getElem? (i := 87) rfl)) Via.refl F0 (pc' := 4) rfl ?_
  intro T1 X2 e3
  rw [← e3] at F0
  refine E_nullT X2 d_oreN_4 (pc' := 14) (by decide) rfl ?_
  refine E_aloadN X2 d_oreN_14 rfl rfl (pc' := 15) rfl ?_
  exact E_areturn X2 (t := (.object "java/lang/Object")) d_oreN_15 rfl rfl rfl rfl (by decide) (by decide) (⟨rfl, e3⟩)
theorem d_fln_0 : decode prog_4_method_5_code 0 = .ok (.invokestatic 33, 3) := by decide +kernel
theorem d_fln_3 : decode prog_4_method_5_code 3 = .ok (.astore_n 1, 1) := by decide +kernel
theorem d_fln_4 : decode prog_4_method_5_code 4 = .ok (.aload_n 1, 1) := by decide +kernel
theorem d_fln_5 : decode prog_4_method_5_code 5 = .ok (.arraylength, 1) := by decide +kernel
theorem d_fln_6 : decode prog_4_method_5_code 6 = .ok (.istore_n 2, 1) := by decide +kernel
theorem d_fln_7 : decode prog_4_method_5_code 7 = .ok (.iconst 0, 1) := by decide +kernel
theorem d_fln_8 : decode prog_4_method_5_code 8 = .ok (.istore_n 3, 1) := by decide +kernel
theorem d_fln_9 : decode prog_4_method_5_code 9 = .ok (.iload_n 3, 1) := by decide +kernel
theorem d_fln_10 : decode prog_4_method_5_code 10 = .ok (.iload_n 2, 1) := by decide +kernel
theorem d_fln_11 : decode prog_4_method_5_code 11 = .ok (.if_icmp .ge 32, 3) := by decide +kernel
theorem d_fln_14 : decode prog_4_method_5_code 14 = .ok (.aload_n 1, 1) := by decide +kernel
theorem d_fln_15 : decode prog_4_method_5_code 15 = .ok (.iload_n 3, 1) := by decide +kernel
theorem d_fln_16 : decode prog_4_method_5_code 16 = .ok (.aaload, 1) := by decide +kernel
theorem d_fln_17 : decode prog_4_method_5_code 17 = .ok (.astore 4, 2) := by decide +kernel
theorem d_fln_19 : decode prog_4_method_5_code 19 = .ok (.aload 4, 2) := by decide +kernel
theorem d_fln_21 : decode prog_4_method_5_code 21 = .ok (.getfield 29, 3) := by decide +kernel
theorem d_fln_24 : decode prog_4_method_5_code 24 = .ok (.aload_n 0, 1) := by decide +kernel
theorem d_fln_25 : decode prog_4_method_5_code 25 = .ok (.invokevirtual 37, 3) := by decide +kernel
theorem d_fln_28 : decode prog_4_method_5_code 28 = .ok (.ifCond .eq 9, 3) := by decide +kernel
theorem d_fln_37 : decode prog_4_method_5_code 37 = .ok (.iinc 3 1, 3) := by decide +kernel
theorem d_fln_40 : decode prog_4_method_5_code 40 = .ok (.goto (-31), 3) := by decide +kernel
theorem d_fln_43 : decode prog_4_method_5_code 43 = .ok (.invokestatic 49, 3) := by decide +kernel
theorem d_fln_46 : decode prog_4_method_5_code 46 = .ok (.areturn, 1) := by decide +kernel
abbrev rm_fln : Room := ({ frames := 2, cells := 1, slots := 2, locals := 25 } : Room)
def Q_fln (Z : State) (A B sa sb va vb vv oe : Addr) (kv : ClassId) (PN : Pin Z A B sa sb va vb vv oe kv) (h0 : Heap) (v : Option Value) (h : Heap) : Prop := v = some (.ref oe) ∧ Keep h0 h []
set_option maxRecDepth 65536 in
set_option maxHeartbeats 40000000 in
theorem ct_fln (l : Launch) (Z : State) (a0 : Array Value) (hw : ∀ d ∈ tables_1, d.before a0 Z = true) (G1 : Int32) (G3 : Value) (OS : Sts Z G1 G3) (hEL : EW Z a0 EL) (hSA : ∀ a ∈ Bundle.stringAtoms, a.before a0 Z = true) (A B sa sb va vb vv oe : Addr) (kv : ClassId) (PN : Pin Z A B sa sb va vb vv oe kv) {h0 : Heap} (O : Ext Z.heap h0)  : Ct l Z (⟨"com/example/panoptes/panoptes/Caller$Role", "fromListedName", "(Ljava/lang/String;)Ljava/util/Optional;"⟩ : MethodName) prog_4_method_5_code 5 (some (.object "java/util/Optional")) rm_fln #[.null] h0 (Q_fln Z A B sa sb va vb vv oe kv PN h0) := by
  refine Ct.of_body (Ls := #[.val .null, .unset, .unset, .unset, .unset]) (by decide +kernel) O (fun m => by first | rfl | (simp [entryFrame, mkF, argsToLocals, Value.category]; done) | (rcases ref_cases (Sts.ref OS) with rfl | ⟨r, rfl⟩ <;> rfl)) ?_
  intro p e s m below meth c T0 X0 e0
  subst e0
  have K00 := Keep.refl T0.heap []
  have FA0 := (PN.2.2.2.2.2.1.keep (Keep.of_ext O) nin0)
  have FB0 := (PN.2.2.2.2.2.2.1.keep (Keep.of_ext O) nin0)
  have SA0 := (PN.2.2.2.2.2.2.2.1.keep (Keep.of_ext O) nin0 nin0)
  have SB0 := (PN.2.2.2.2.2.2.2.2.1.keep (Keep.of_ext O) nin0 nin0)
  refine E_static X0 (rm := rm_vals) d_fln_0 (hw _ (List.mem_of_getElem? (i := 53) rfl)) (hw _ (List.mem_of_getElem? (i := 54) rfl)) (hw _ (List.mem_of_getElem? (i := 48) rfl)) (hw _ (List.mem_of_getElem? (i := 55) rfl)) (by decide) (argsL := []) (st := []) rfl (ct_vals l Z a0 hw G1 G3 OS hEL hSA A B sa sb va vb vv oe kv PN X0.old) (lenOf (pd_8) rfl) rfl (by decide) (by decide) (by decide) (Nat.le_of_ble_eq_true rfl)  (pc' := 3) rfl ?_
  intro T1 _ X2 hQ3
  obtain ⟨d, rfl, K4, sz6, V5⟩ := hQ3
  have KK7 := K00.trans K4 (fun x q => nomatch q)
  have Fld_8 := FA0.keep K4 nin0
  have Fld_9 := FB0.keep K4 nin0
  have Str_10 := OStr.keep SA0 K4 nin0 nin0
  have Str_11 := OStr.keep SB0 K4 nin0 nin0
  show Ends p e below s Z _ _ _ T1 (mkF m 3 #[.val .null, .unset, .unset, .unset, .unset] [(.ref d)])
  refine E_astoreN X2 d_fln_3 rfl (l' := #[.val .null, .val (.ref d), .unset, .unset, .unset]) rfl (pc' := 4) rfl ?_
  refine E_aloadN X2 d_fln_4 rfl rfl (pc' := 5) rfl ?_
  refine E_arraylength X2 d_fln_5 V5 (pc' := 6) rfl ?_
  refine E_istoreN X2 d_fln_6 (l' := #[.val .null, .val (.ref d), .val (.int (2 : Int32)), .unset, .unset]) rfl (pc' := 7) rfl ?_
  refine E_iconst X2 (v := (0 : Int32)) d_fln_7 rfl (pc' := 8) rfl ?_
  refine E_istoreN X2 d_fln_8 (l' := #[.val .null, .val (.ref d), .val (.int (2 : Int32)), .val (.int (0 : Int32)), .unset]) rfl (pc' := 9) rfl ?_
  refine E_iloadN X2 d_fln_9 rfl (pc' := 10) rfl ?_
  refine E_iloadN X2 d_fln_10 rfl (pc' := 11) rfl ?_
  refine E_icF X2 d_fln_11 (XT.ii_ge_f (by decide)) (pc' := 14) rfl ?_
  refine E_aloadN X2 d_fln_14 rfl rfl (pc' := 15) rfl ?_
  refine E_iloadN X2 d_fln_15 rfl (pc' := 16) rfl ?_
  refine E_aaload X2 (v := (.ref A)) d_fln_16 V5 rfl ⟨by decide, by decide⟩ rfl (pc' := 17) rfl ?_
  refine E_astore X2 d_fln_17 rfl (l' := #[.val .null, .val (.ref d), .val (.int (2 : Int32)), .val (.int (0 : Int32)), .val (.ref A)]) rfl (pc' := 19) rfl ?_
  refine E_aload X2 d_fln_19 rfl rfl (pc' := 21) rfl ?_
  refine E_getfield X2 d_fln_21 (hw _ (List.mem_of_getElem? (i := 69) rfl)) Via.refl Fld_8 (pc' := 24) rfl ?_
  intro T12 X13 e14
  have KK15 := own_keq KK7 e14
  rw [← e14] at Fld_8 Fld_9 Str_10 Str_11 V5
  refine E_aloadN X13 d_fln_24 rfl rfl (pc' := 25) rfl ?_
  refine E_virtual X13 (rm := rm_seqn) (a := sa) (D := "java/lang/String") d_fln_25 (hw _ (List.mem_of_getElem? (i := 71) rfl)) (hw _ (List.mem_of_getElem? (i := 38) rfl)) (hw _ (List.mem_of_getElem? (i := 40) rfl)) (hw _ (List.mem_of_getElem? (i := 39) rfl)) (notFace_of_selects (args := #[]) (mvT X13.hZ (hw _ (List.mem_of_getElem? (i := 40) rfl)))) (by decide) (OStr.exa Str_10) (hw _ (List.mem_of_getElem? (i := 7) rfl)) (hw _ (List.mem_of_getElem? (i := 41) rfl)) (argsL := [.null]) (st := []) rfl (ct_seqn l Z a0 hw G1 G3 OS hEL hSA sa X13.old) (lenOf (pd_9) rfl) rfl (by decide) (by decide) (by decide) (Nat.le_of_ble_eq_true rfl)  (pc' := 28) rfl ?_
  intro T16 _ X17 hQ18
  obtain ⟨rfl, e19⟩ := hQ18
  have KK20 := own_keq KK15 e19
  rw [← e19] at Fld_8 Fld_9 Str_10 Str_11 V5
  show Ends p e below s Z _ _ _ T16 (mkF m 28 #[.val .null, .val (.ref d), .val (.int (2 : Int32)), .val (.int (0 : Int32)), .val (.ref A)] [(.int (0 : Int32))])
  refine E_ifT X17 d_fln_28 (XT.i0_eq_t (by decide)) (pc' := 37) (by decide) rfl ?_
  refine E_iinc X17 (y := (1 : Int32)) d_fln_37 (by decide) rfl (l' := #[.val .null, .val (.ref d), .val (.int (2 : Int32)), .val (.int (1 : Int32)), .val (.ref A)]) rfl (pc' := 40) rfl ?_
  refine E_goto X17 d_fln_40 (pc' := 9) (by decide) rfl ?_
  refine E_iloadN X17 d_fln_9 rfl (pc' := 10) rfl ?_
  refine E_iloadN X17 d_fln_10 rfl (pc' := 11) rfl ?_
  refine E_icF X17 d_fln_11 (XT.ii_ge_f (by decide)) (pc' := 14) rfl ?_
  refine E_aloadN X17 d_fln_14 rfl rfl (pc' := 15) rfl ?_
  refine E_iloadN X17 d_fln_15 rfl (pc' := 16) rfl ?_
  refine E_aaload X17 (v := (.ref B)) d_fln_16 V5 rfl ⟨by decide, by decide⟩ rfl (pc' := 17) rfl ?_
  refine E_astore X17 d_fln_17 rfl (l' := #[.val .null, .val (.ref d), .val (.int (2 : Int32)), .val (.int (1 : Int32)), .val (.ref B)]) rfl (pc' := 19) rfl ?_
  refine E_aload X17 d_fln_19 rfl rfl (pc' := 21) rfl ?_
  refine E_getfield X17 d_fln_21 (hw _ (List.mem_of_getElem? (i := 69) rfl)) Via.refl Fld_9 (pc' := 24) rfl ?_
  intro T21 X22 e23
  have KK24 := own_keq KK20 e23
  rw [← e23] at Fld_8 Fld_9 Str_10 Str_11 V5
  refine E_aloadN X22 d_fln_24 rfl rfl (pc' := 25) rfl ?_
  refine E_virtual X22 (rm := rm_seqn) (a := sb) (D := "java/lang/String") d_fln_25 (hw _ (List.mem_of_getElem? (i := 71) rfl)) (hw _ (List.mem_of_getElem? (i := 38) rfl)) (hw _ (List.mem_of_getElem? (i := 40) rfl)) (hw _ (List.mem_of_getElem? (i := 39) rfl)) (notFace_of_selects (args := #[]) (mvT X22.hZ (hw _ (List.mem_of_getElem? (i := 40) rfl)))) (by decide) (OStr.exa Str_11) (hw _ (List.mem_of_getElem? (i := 7) rfl)) (hw _ (List.mem_of_getElem? (i := 41) rfl)) (argsL := [.null]) (st := []) rfl (ct_seqn l Z a0 hw G1 G3 OS hEL hSA sb X22.old) (lenOf (pd_9) rfl) rfl (by decide) (by decide) (by decide) (Nat.le_of_ble_eq_true rfl)  (pc' := 28) rfl ?_
  intro T25 _ X26 hQ27
  obtain ⟨rfl, e28⟩ := hQ27
  have KK29 := own_keq KK24 e28
  rw [← e28] at Fld_8 Fld_9 Str_10 Str_11 V5
  show Ends p e below s Z _ _ _ T25 (mkF m 28 #[.val .null, .val (.ref d), .val (.int (2 : Int32)), .val (.int (1 : Int32)), .val (.ref B)] [(.int (0 : Int32))])
  refine E_ifT X26 d_fln_28 (XT.i0_eq_t (by decide)) (pc' := 37) (by decide) rfl ?_
  refine E_iinc X26 (y := (2 : Int32)) d_fln_37 (by decide) rfl (l' := #[.val .null, .val (.ref d), .val (.int (2 : Int32)), .val (.int (2 : Int32)), .val (.ref B)]) rfl (pc' := 40) rfl ?_
  refine E_goto X26 d_fln_40 (pc' := 9) (by decide) rfl ?_
  refine E_iloadN X26 d_fln_9 rfl (pc' := 10) rfl ?_
  refine E_iloadN X26 d_fln_10 rfl (pc' := 11) rfl ?_
  refine E_icT X26 d_fln_11 (XT.ii_ge_t (by decide)) (pc' := 43) (by decide) rfl ?_
  refine E_static X26 (rm := rm_oemp) d_fln_43 (hw _ (List.mem_of_getElem? (i := 94) rfl)) (hw _ (List.mem_of_getElem? (i := 95) rfl)) (hw _ (List.mem_of_getElem? (i := 74) rfl)) (hw _ (List.mem_of_getElem? (i := 96) rfl)) (by decide) (argsL := []) (st := []) rfl (ct_oemp l Z a0 hw G1 G3 OS hEL hSA A B sa sb va vb vv oe kv PN X26.old) (lenOf (pd_10) rfl) rfl (by decide) (by decide) (by decide) (Nat.le_of_ble_eq_true rfl)  (pc' := 46) rfl ?_
  intro T30 _ X31 hQ32
  obtain ⟨rfl, e33⟩ := hQ32
  have KK34 := own_keq KK29 e33
  rw [← e33] at Fld_8 Fld_9 Str_10 Str_11 V5
  show Ends p e below s Z _ _ _ T30 (mkF m 46 #[.val .null, .val (.ref d), .val (.int (2 : Int32)), .val (.int (2 : Int32)), .val (.ref B)] [(.ref oe)])
  exact E_areturn X31 (t := (.object "java/util/Optional")) d_fln_46 rfl rfl rfl rfl (by decide) (by decide) (⟨rfl, KK34⟩)
theorem d_fls_0 : decode prog_4_method_5_code 0 = .ok (.invokestatic 33, 3) := by decide +kernel
theorem d_fls_3 : decode prog_4_method_5_code 3 = .ok (.astore_n 1, 1) := by decide +kernel
theorem d_fls_4 : decode prog_4_method_5_code 4 = .ok (.aload_n 1, 1) := by decide +kernel
theorem d_fls_5 : decode prog_4_method_5_code 5 = .ok (.arraylength, 1) := by decide +kernel
theorem d_fls_6 : decode prog_4_method_5_code 6 = .ok (.istore_n 2, 1) := by decide +kernel
theorem d_fls_7 : decode prog_4_method_5_code 7 = .ok (.iconst 0, 1) := by decide +kernel
theorem d_fls_8 : decode prog_4_method_5_code 8 = .ok (.istore_n 3, 1) := by decide +kernel
theorem d_fls_9 : decode prog_4_method_5_code 9 = .ok (.iload_n 3, 1) := by decide +kernel
theorem d_fls_10 : decode prog_4_method_5_code 10 = .ok (.iload_n 2, 1) := by decide +kernel
theorem d_fls_11 : decode prog_4_method_5_code 11 = .ok (.if_icmp .ge 32, 3) := by decide +kernel
theorem d_fls_14 : decode prog_4_method_5_code 14 = .ok (.aload_n 1, 1) := by decide +kernel
theorem d_fls_15 : decode prog_4_method_5_code 15 = .ok (.iload_n 3, 1) := by decide +kernel
theorem d_fls_16 : decode prog_4_method_5_code 16 = .ok (.aaload, 1) := by decide +kernel
theorem d_fls_17 : decode prog_4_method_5_code 17 = .ok (.astore 4, 2) := by decide +kernel
theorem d_fls_19 : decode prog_4_method_5_code 19 = .ok (.aload 4, 2) := by decide +kernel
theorem d_fls_21 : decode prog_4_method_5_code 21 = .ok (.getfield 29, 3) := by decide +kernel
theorem d_fls_24 : decode prog_4_method_5_code 24 = .ok (.aload_n 0, 1) := by decide +kernel
theorem d_fls_25 : decode prog_4_method_5_code 25 = .ok (.invokevirtual 37, 3) := by decide +kernel
theorem d_fls_28 : decode prog_4_method_5_code 28 = .ok (.ifCond .eq 9, 3) := by decide +kernel
theorem d_fls_31 : decode prog_4_method_5_code 31 = .ok (.aload 4, 2) := by decide +kernel
theorem d_fls_33 : decode prog_4_method_5_code 33 = .ok (.invokestatic 43, 3) := by decide +kernel
theorem d_fls_36 : decode prog_4_method_5_code 36 = .ok (.areturn, 1) := by decide +kernel
theorem d_fls_37 : decode prog_4_method_5_code 37 = .ok (.iinc 3 1, 3) := by decide +kernel
theorem d_fls_40 : decode prog_4_method_5_code 40 = .ok (.goto (-31), 3) := by decide +kernel
theorem d_fls_43 : decode prog_4_method_5_code 43 = .ok (.invokestatic 49, 3) := by decide +kernel
theorem d_fls_46 : decode prog_4_method_5_code 46 = .ok (.areturn, 1) := by decide +kernel
abbrev rm_fls : Room := ({ frames := 3, cells := 2, slots := 3, locals := 38 } : Room)
def Q_fls (Z : State) (A B sa sb va vb vv oe : Addr) (kv : ClassId) (PN : Pin Z A B sa sb va vb vv oe kv) (x t : Addr) (cs : List Int32) (h0 : Heap) (v : Option Value) (h : Heap) : Prop := ∃ o r, v = some (.ref o) ∧ Keep h0 h [] ∧ Exa Z h o "java/util/Optional" ∧ Fld Z h o "java/util/Optional" "value" "Ljava/lang/Object;" r ∧ (LA = cs → r = .ref A) ∧ (¬ LA = cs → LB = cs → r = .ref B) ∧ (¬ LA = cs → ¬ LB = cs → r = .null)
set_option maxRecDepth 65536 in
set_option maxHeartbeats 40000000 in
theorem ct_fls (l : Launch) (Z : State) (a0 : Array Value) (hw : ∀ d ∈ tables_1, d.before a0 Z = true) (G1 : Int32) (G3 : Value) (OS : Sts Z G1 G3) (hEL : EW Z a0 EL) (hSA : ∀ a ∈ Bundle.stringAtoms, a.before a0 Z = true) (A B sa sb va vb vv oe : Addr) (kv : ClassId) (PN : Pin Z A B sa sb va vb vv oe kv) (x t : Addr) (cs : List Int32) {h0 : Heap} (O : Ext Z.heap h0) (S0 : OStr Z h0 x t cs) : Ct l Z (⟨"com/example/panoptes/panoptes/Caller$Role", "fromListedName", "(Ljava/lang/String;)Ljava/util/Optional;"⟩ : MethodName) prog_4_method_5_code 5 (some (.object "java/util/Optional")) rm_fls #[(.ref x)] h0 (Q_fls Z A B sa sb va vb vv oe kv PN x t cs h0) := by
  refine Ct.of_body (Ls := #[.val (.ref x), .unset, .unset, .unset, .unset]) (by decide +kernel) O (fun m => by first | rfl | (simp [entryFrame, mkF, argsToLocals, Value.category]; done) | (rcases ref_cases (Sts.ref OS) with rfl | ⟨r, rfl⟩ <;> rfl)) ?_
  intro p e s m below meth c T0 X0 e0
  subst e0
  have K00 := Keep.refl T0.heap []
  have FA0 := (PN.2.2.2.2.2.1.keep (Keep.of_ext O) nin0)
  have FB0 := (PN.2.2.2.2.2.2.1.keep (Keep.of_ext O) nin0)
  have SA0 := (PN.2.2.2.2.2.2.2.1.keep (Keep.of_ext O) nin0 nin0)
  have SB0 := (PN.2.2.2.2.2.2.2.2.1.keep (Keep.of_ext O) nin0 nin0)
  refine E_static X0 (rm := rm_vals) d_fls_0 (hw _ (List.mem_of_getElem? (i := 53) rfl)) (hw _ (List.mem_of_getElem? (i := 54) rfl)) (hw _ (List.mem_of_getElem? (i := 48) rfl)) (hw _ (List.mem_of_getElem? (i := 55) rfl)) (by decide) (argsL := []) (st := []) rfl (ct_vals l Z a0 hw G1 G3 OS hEL hSA A B sa sb va vb vv oe kv PN X0.old) (lenOf (pd_8) rfl) rfl (by decide) (by decide) (by decide) (Nat.le_of_ble_eq_true rfl)  (pc' := 3) rfl ?_
  intro T1 _ X2 hQ3
  obtain ⟨d, rfl, K4, sz6, V5⟩ := hQ3
  have KK7 := K00.trans K4 (fun x q => nomatch q)
  have Fld_8 := FA0.keep K4 nin0
  have Fld_9 := FB0.keep K4 nin0
  have Str_10 := OStr.keep SA0 K4 nin0 nin0
  have Str_11 := OStr.keep SB0 K4 nin0 nin0
  have Str_12 := OStr.keep S0 K4 nin0 nin0
  show Ends p e below s Z _ _ _ T1 (mkF m 3 #[.val (.ref x), .unset, .unset, .unset, .unset] [(.ref d)])
  refine E_astoreN X2 d_fls_3 rfl (l' := #[.val (.ref x), .val (.ref d), .unset, .unset, .unset]) rfl (pc' := 4) rfl ?_
  refine E_aloadN X2 d_fls_4 rfl rfl (pc' := 5) rfl ?_
  refine E_arraylength X2 d_fls_5 V5 (pc' := 6) rfl ?_
  refine E_istoreN X2 d_fls_6 (l' := #[.val (.ref x), .val (.ref d), .val (.int (2 : Int32)), .unset, .unset]) rfl (pc' := 7) rfl ?_
  refine E_iconst X2 (v := (0 : Int32)) d_fls_7 rfl (pc' := 8) rfl ?_
  refine E_istoreN X2 d_fls_8 (l' := #[.val (.ref x), .val (.ref d), .val (.int (2 : Int32)), .val (.int (0 : Int32)), .unset]) rfl (pc' := 9) rfl ?_
  refine E_iloadN X2 d_fls_9 rfl (pc' := 10) rfl ?_
  refine E_iloadN X2 d_fls_10 rfl (pc' := 11) rfl ?_
  refine E_icF X2 d_fls_11 (XT.ii_ge_f (by decide)) (pc' := 14) rfl ?_
  refine E_aloadN X2 d_fls_14 rfl rfl (pc' := 15) rfl ?_
  refine E_iloadN X2 d_fls_15 rfl (pc' := 16) rfl ?_
  refine E_aaload X2 (v := (.ref A)) d_fls_16 V5 rfl ⟨by decide, by decide⟩ rfl (pc' := 17) rfl ?_
  refine E_astore X2 d_fls_17 rfl (l' := #[.val (.ref x), .val (.ref d), .val (.int (2 : Int32)), .val (.int (0 : Int32)), .val (.ref A)]) rfl (pc' := 19) rfl ?_
  refine E_aload X2 d_fls_19 rfl rfl (pc' := 21) rfl ?_
  refine E_getfield X2 d_fls_21 (hw _ (List.mem_of_getElem? (i := 69) rfl)) Via.refl Fld_8 (pc' := 24) rfl ?_
  intro T13 X14 e15
  have KK16 := own_keq KK7 e15
  rw [← e15] at Fld_8 Fld_9 Str_10 Str_11 Str_12 V5
  refine E_aloadN X14 d_fls_24 rfl rfl (pc' := 25) rfl ?_
  refine E_virtual X14 (rm := rm_seq) (a := sa) (D := "java/lang/String") d_fls_25 (hw _ (List.mem_of_getElem? (i := 71) rfl)) (hw _ (List.mem_of_getElem? (i := 38) rfl)) (hw _ (List.mem_of_getElem? (i := 40) rfl)) (hw _ (List.mem_of_getElem? (i := 39) rfl)) (notFace_of_selects (args := #[]) (mvT X14.hZ (hw _ (List.mem_of_getElem? (i := 40) rfl)))) (by decide) (OStr.exa Str_10) (hw _ (List.mem_of_getElem? (i := 7) rfl)) (hw _ (List.mem_of_getElem? (i := 41) rfl)) (argsL := [(.ref x)]) (st := []) rfl (ct_seq l Z a0 hw G1 G3 OS hEL hSA sa x va t LA cs X14.old Str_10 Str_12) (lenOf (pd_9) rfl) rfl (by decide) (by decide) (by decide) (Nat.le_of_ble_eq_true rfl)  (pc' := 28) rfl ?_
  intro T18 _ X19 hQ20
  obtain ⟨z17, rfl, e21, yz17, nz17⟩ := hQ20
  have KK22 := own_keq KK16 e21
  rw [← e21] at Fld_8 Fld_9 Str_10 Str_11 Str_12 V5
  by_cases hA : LA = cs
  · skip
    obtain rfl := yz17 hA
    show Ends p e below s Z _ _ _ T18 (mkF m 28 #[.val (.ref x), .val (.ref d), .val (.int (2 : Int32)), .val (.int (0 : Int32)), .val (.ref A)] [(.int (1 : Int32))])
    refine E_ifF X19 d_fls_28 (XT.i0_eq_f (by decide)) (pc' := 31) rfl ?_
    refine E_aload X19 d_fls_31 rfl rfl (pc' := 33) rfl ?_
    refine E_static X19 (rm := rm_oof) d_fls_33 (hw _ (List.mem_of_getElem? (i := 72) rfl)) (hw _ (List.mem_of_getElem? (i := 73) rfl)) (hw _ (List.mem_of_getElem? (i := 74) rfl)) (hw _ (List.mem_of_getElem? (i := 75) rfl)) (by decide) (argsL := [(.ref A)]) (st := []) rfl (ct_oof l Z a0 hw G1 G3 OS hEL hSA A X19.old) (lenOf (pd_11) rfl) rfl (by decide) (by decide) (by decide) (Nat.le_of_ble_eq_true rfl)  (pc' := 36) rfl ?_
    intro T23 _ X24 hQ25
    obtain ⟨oo, rfl, K26, EO, FO⟩ := hQ25
    have KK27 := KK22.trans K26 (fun x q => nomatch q)
    have Fld_28 := Fld_8.keep K26 nin0
    have Fld_29 := Fld_9.keep K26 nin0
    have Str_30 := OStr.keep Str_10 K26 nin0 nin0
    have Str_31 := OStr.keep Str_11 K26 nin0 nin0
    have Str_32 := OStr.keep Str_12 K26 nin0 nin0
    have Arv_33 := V5.keep K26 nin0
    show Ends p e below s Z _ _ _ T23 (mkF m 36 #[.val (.ref x), .val (.ref d), .val (.int (2 : Int32)), .val (.int (0 : Int32)), .val (.ref A)] [(.ref oo)])
    exact E_areturn X24 (t := (.object "java/util/Optional")) d_fls_36 rfl rfl rfl rfl (by decide) (by decide) (⟨oo, .ref A, rfl, KK27, EO, FO, fun _ => rfl, fun q => absurd hA q, fun q => absurd hA q⟩)
  · skip
    obtain rfl := nz17 hA
    show Ends p e below s Z _ _ _ T18 (mkF m 28 #[.val (.ref x), .val (.ref d), .val (.int (2 : Int32)), .val (.int (0 : Int32)), .val (.ref A)] [(.int (0 : Int32))])
    refine E_ifT X19 d_fls_28 (XT.i0_eq_t (by decide)) (pc' := 37) (by decide) rfl ?_
    refine E_iinc X19 (y := (1 : Int32)) d_fls_37 (by decide) rfl (l' := #[.val (.ref x), .val (.ref d), .val (.int (2 : Int32)), .val (.int (1 : Int32)), .val (.ref A)]) rfl (pc' := 40) rfl ?_
    refine E_goto X19 d_fls_40 (pc' := 9) (by decide) rfl ?_
    refine E_iloadN X19 d_fls_9 rfl (pc' := 10) rfl ?_
    refine E_iloadN X19 d_fls_10 rfl (pc' := 11) rfl ?_
    refine E_icF X19 d_fls_11 (XT.ii_ge_f (by decide)) (pc' := 14) rfl ?_
    refine E_aloadN X19 d_fls_14 rfl rfl (pc' := 15) rfl ?_
    refine E_iloadN X19 d_fls_15 rfl (pc' := 16) rfl ?_
    refine E_aaload X19 (v := (.ref B)) d_fls_16 V5 rfl ⟨by decide, by decide⟩ rfl (pc' := 17) rfl ?_
    refine E_astore X19 d_fls_17 rfl (l' := #[.val (.ref x), .val (.ref d), .val (.int (2 : Int32)), .val (.int (1 : Int32)), .val (.ref B)]) rfl (pc' := 19) rfl ?_
    refine E_aload X19 d_fls_19 rfl rfl (pc' := 21) rfl ?_
    refine E_getfield X19 d_fls_21 (hw _ (List.mem_of_getElem? (i := 69) rfl)) Via.refl Fld_9 (pc' := 24) rfl ?_
    intro T34 X35 e36
    have KK37 := own_keq KK22 e36
    rw [← e36] at Fld_8 Fld_9 Str_10 Str_11 Str_12 V5
    refine E_aloadN X35 d_fls_24 rfl rfl (pc' := 25) rfl ?_
    refine E_virtual X35 (rm := rm_seq) (a := sb) (D := "java/lang/String") d_fls_25 (hw _ (List.mem_of_getElem? (i := 71) rfl)) (hw _ (List.mem_of_getElem? (i := 38) rfl)) (hw _ (List.mem_of_getElem? (i := 40) rfl)) (hw _ (List.mem_of_getElem? (i := 39) rfl)) (notFace_of_selects (args := #[]) (mvT X35.hZ (hw _ (List.mem_of_getElem? (i := 40) rfl)))) (by decide) (OStr.exa Str_11) (hw _ (List.mem_of_getElem? (i := 7) rfl)) (hw _ (List.mem_of_getElem? (i := 41) rfl)) (argsL := [(.ref x)]) (st := []) rfl (ct_seq l Z a0 hw G1 G3 OS hEL hSA sb x vb t LB cs X35.old Str_11 Str_12) (lenOf (pd_9) rfl) rfl (by decide) (by decide) (by decide) (Nat.le_of_ble_eq_true rfl)  (pc' := 28) rfl ?_
    intro T39 _ X40 hQ41
    obtain ⟨z38, rfl, e42, yz38, nz38⟩ := hQ41
    have KK43 := own_keq KK37 e42
    rw [← e42] at Fld_8 Fld_9 Str_10 Str_11 Str_12 V5
    by_cases hB : LB = cs
    · skip
      obtain rfl := yz38 hB
      show Ends p e below s Z _ _ _ T39 (mkF m 28 #[.val (.ref x), .val (.ref d), .val (.int (2 : Int32)), .val (.int (1 : Int32)), .val (.ref B)] [(.int (1 : Int32))])
      refine E_ifF X40 d_fls_28 (XT.i0_eq_f (by decide)) (pc' := 31) rfl ?_
      refine E_aload X40 d_fls_31 rfl rfl (pc' := 33) rfl ?_
      refine E_static X40 (rm := rm_oof) d_fls_33 (hw _ (List.mem_of_getElem? (i := 72) rfl)) (hw _ (List.mem_of_getElem? (i := 73) rfl)) (hw _ (List.mem_of_getElem? (i := 74) rfl)) (hw _ (List.mem_of_getElem? (i := 75) rfl)) (by decide) (argsL := [(.ref B)]) (st := []) rfl (ct_oof l Z a0 hw G1 G3 OS hEL hSA B X40.old) (lenOf (pd_11) rfl) rfl (by decide) (by decide) (by decide) (Nat.le_of_ble_eq_true rfl)  (pc' := 36) rfl ?_
      intro T44 _ X45 hQ46
      obtain ⟨oo, rfl, K47, EO, FO⟩ := hQ46
      have KK48 := KK43.trans K47 (fun x q => nomatch q)
      have Fld_49 := Fld_8.keep K47 nin0
      have Fld_50 := Fld_9.keep K47 nin0
      have Str_51 := OStr.keep Str_10 K47 nin0 nin0
      have Str_52 := OStr.keep Str_11 K47 nin0 nin0
      have Str_53 := OStr.keep Str_12 K47 nin0 nin0
      have Arv_54 := V5.keep K47 nin0
      show Ends p e below s Z _ _ _ T44 (mkF m 36 #[.val (.ref x), .val (.ref d), .val (.int (2 : Int32)), .val (.int (1 : Int32)), .val (.ref B)] [(.ref oo)])
      exact E_areturn X45 (t := (.object "java/util/Optional")) d_fls_36 rfl rfl rfl rfl (by decide) (by decide) (⟨oo, .ref B, rfl, KK48, EO, FO, fun q => absurd q hA, fun _ _ => rfl, fun _ q => absurd hB q⟩)
    · skip
      obtain rfl := nz38 hB
      show Ends p e below s Z _ _ _ T39 (mkF m 28 #[.val (.ref x), .val (.ref d), .val (.int (2 : Int32)), .val (.int (1 : Int32)), .val (.ref B)] [(.int (0 : Int32))])
      refine E_ifT X40 d_fls_28 (XT.i0_eq_t (by decide)) (pc' := 37) (by decide) rfl ?_
      refine E_iinc X40 (y := (2 : Int32)) d_fls_37 (by decide) rfl (l' := #[.val (.ref x), .val (.ref d), .val (.int (2 : Int32)), .val (.int (2 : Int32)), .val (.ref B)]) rfl (pc' := 40) rfl ?_
      refine E_goto X40 d_fls_40 (pc' := 9) (by decide) rfl ?_
      refine E_iloadN X40 d_fls_9 rfl (pc' := 10) rfl ?_
      refine E_iloadN X40 d_fls_10 rfl (pc' := 11) rfl ?_
      refine E_icT X40 d_fls_11 (XT.ii_ge_t (by decide)) (pc' := 43) (by decide) rfl ?_
      refine E_static X40 (rm := rm_oemp) d_fls_43 (hw _ (List.mem_of_getElem? (i := 94) rfl)) (hw _ (List.mem_of_getElem? (i := 95) rfl)) (hw _ (List.mem_of_getElem? (i := 74) rfl)) (hw _ (List.mem_of_getElem? (i := 96) rfl)) (by decide) (argsL := []) (st := []) rfl (ct_oemp l Z a0 hw G1 G3 OS hEL hSA A B sa sb va vb vv oe kv PN X40.old) (lenOf (pd_10) rfl) rfl (by decide) (by decide) (by decide) (Nat.le_of_ble_eq_true rfl)  (pc' := 46) rfl ?_
      intro T55 _ X56 hQ57
      obtain ⟨rfl, e58⟩ := hQ57
      have KK59 := own_keq KK43 e58
      rw [← e58] at Fld_8 Fld_9 Str_10 Str_11 Str_12 V5
      show Ends p e below s Z _ _ _ T55 (mkF m 46 #[.val (.ref x), .val (.ref d), .val (.int (2 : Int32)), .val (.int (2 : Int32)), .val (.ref B)] [(.ref oe)])
      exact E_areturn X56 (t := (.object "java/util/Optional")) d_fls_46 rfl rfl rfl rfl (by decide) (by decide) (⟨oe, .null, rfl, KK59, (PN.2.2.2.2.2.2.2.2.2.2.2.2.1.keep (Keep.of_ext X56.old)), (PN.2.2.2.2.2.2.2.2.2.2.2.2.2.keep (Keep.of_ext X56.old) nin0), fun q => absurd q hA, fun _ q => absurd q hB, fun _ _ => rfl⟩)
set_option maxRecDepth 65536 in
set_option maxHeartbeats 40000000 in
theorem sg_lawG (l : Launch) (Z : State) (a0 : Array Value) (hw : ∀ d ∈ tables_1, d.before a0 Z = true) (p0 p1 p2 p3 p4 p5 : Int32) (G1 : Int32) (G3 : Value) (A B sa sb va vb vv oe : Addr) (kv : ClassId) (OS : Sts Z G1 G3) (hEL : EW Z a0 EL) (hSA : ∀ a ∈ Bundle.stringAtoms, a.before a0 Z = true) (PN : Pin Z A B sa sb va vb vv oe kv) {p : Program} {e : Env} {s : State} {m : MethodId} {below : List Frame} {meth : Method} {c : Code} : ∀ {vm : Vm} {T0 : State} (m6 m7 m8 m9 m11 : Int32) (b x t : Addr) (cs : List Int32), Ww l Z ({ frames := 8, cells := 32, slots := 3264, locals := 192 } : Room) code 15 (some .boolean) "com/example/panoptes/panoptes/RoleFromListedNamePinLaw" "law" p e s m #[(.int p0), (.int p1), (.int p2), (.int p3), (.int p4), (.int p5)] below meth c vm T0 22 2200 → (OStr Z T0.heap x t cs) → EndW p e below s Z (fun v _ => v = some (.int 1)) 32 3264 T0 (mkF m 358 #[.val (.int p0), .val (.int p1), .val (.int p2), .val (.int p3), .val (.int p4), .val (.int p5), .val (.int m6), .val (.int m7), .val (.int m8), .val (.int m9), .val (.ref b), .val (.int m11), .val (.ref x), .unset, .unset] []) := by
  intro vm T0 m6 m7 m8 m9 m11 b x t cs X0 S0
  rcases own_3w (LA = cs) (LB = cs) with hA | ⟨hA, hB⟩ | ⟨hA, hB⟩
  · skip
    refine F_aload X0 at_358 rfl rfl (pc' := 360) rfl ?_
    refine F_nonnullT X0 at_360 (pc' := 369) (by decide) rfl ?_
    refine F_aload X0 at_369 rfl rfl (pc' := 371) rfl ?_
    refine F_ldcS X0 (n := 32) (z := Int32.ofNat ([(112 : Int32), (114 : Int32), (111 : Int32), (100 : Int32), (117 : Int32), (99 : Int32), (101 : Int32), (114 : Int32)] : List Int32).length) (vs := ([(112 : Int32), (114 : Int32), (111 : Int32), (100 : Int32), (117 : Int32), (99 : Int32), (101 : Int32), (114 : Int32)] : List Int32).map lo8) at_371 (hw _ (List.mem_of_getElem? (i := 34) rfl)) hSA hEL (by simp [EL, consts_1]) lit_1 (by decide) rfl (by decide) (by decide) (by decide) (by decide) (pc' := 373) rfl ?_
    intro T1 la3 lb4 k5 X2 K6 E7 C8 F9 V10 hs11
    have Str_12 := OStr.keep S0 K6 nin0 nin0
    have S13 : OStr Z T1.heap la3 lb4 [(112 : Int32), (114 : Int32), (111 : Int32), (100 : Int32), (117 : Int32), (99 : Int32), (101 : Int32), (114 : Int32)] := own_lit E7 F9 C8 V10 (by decide) (by decide)
    refine F_virtual X2 (rm := rm_seq) (a := x) (D := "java/lang/String") at_373 (hw _ (List.mem_of_getElem? (i := 37) rfl)) (hw _ (List.mem_of_getElem? (i := 38) rfl)) (hw _ (List.mem_of_getElem? (i := 40) rfl)) (hw _ (List.mem_of_getElem? (i := 39) rfl)) (notFace_of_selects (args := #[]) (mvT X2.hZ (hw _ (List.mem_of_getElem? (i := 40) rfl)))) (by decide) (OStr.exa Str_12) (hw _ (List.mem_of_getElem? (i := 7) rfl)) (hw _ (List.mem_of_getElem? (i := 41) rfl)) (argsL := [(.ref la3)]) (st := []) rfl (ct_seq l Z a0 hw G1 G3 OS hEL hSA x la3 t lb4 cs [(112 : Int32), (114 : Int32), (111 : Int32), (100 : Int32), (117 : Int32), (99 : Int32), (101 : Int32), (114 : Int32)] X2.old Str_12 S13) (lenOf (pd_9) rfl) rfl (by decide) (by decide) (by decide) (Nat.le_of_ble_eq_true rfl) [] (fun _ _ q => by obtain ⟨_, _, e, _, _⟩ := q; exact own_ks e) (sf0)  (pc' := 376) rfl ?_
    intro T15 _ X16 hQ17
    obtain ⟨z14, rfl, e18, yz14, nz14⟩ := hQ17
    rw [← e18] at Str_12 S13 C8
    obtain rfl := yz14 hA.symm
    show EndW p e below s Z _ _ _ T15 (mkF m 376 #[.val (.int p0), .val (.int p1), .val (.int p2), .val (.int p3), .val (.int p4), .val (.int p5), .val (.int m6), .val (.int m7), .val (.int m8), .val (.int m9), .val (.ref b), .val (.int m11), .val (.ref x), .unset, .unset] [(.int (1 : Int32))])
    refine F_ifF X16 at_376 (XT.i0_eq_f (by decide)) (pc' := 379) rfl ?_
    refine F_getstatic X16 at_379 (hw _ (List.mem_of_getElem? (i := 47) rfl)) Via.refl PN.1 (pc' := 382) rfl ?_
    intro T19 X20 e21
    rw [← e21] at Str_12 S13 C8
    refine F_astore X20 at_382 rfl (l' := #[.val (.int p0), .val (.int p1), .val (.int p2), .val (.int p3), .val (.int p4), .val (.int p5), .val (.int m6), .val (.int m7), .val (.int m8), .val (.int m9), .val (.ref b), .val (.int m11), .val (.ref x), .val (.ref A), .unset]) rfl (pc' := 384) rfl ?_
    refine F_goto X20 at_384 (pc' := 408) (by decide) rfl ?_
    refine F_aload X20 at_408 rfl rfl (pc' := 410) rfl ?_
    refine F_static X20 (rm := rm_fls) at_410 (hw _ (List.mem_of_getElem? (i := 50) rfl)) (hw _ (List.mem_of_getElem? (i := 51) rfl)) (hw _ (List.mem_of_getElem? (i := 48) rfl)) (hw _ (List.mem_of_getElem? (i := 52) rfl)) (by decide) (argsL := [(.ref x)]) (st := []) rfl (ct_fls l Z a0 hw G1 G3 OS hEL hSA A B sa sb va vb vv oe kv PN x t cs X20.old Str_12) (lenOf (pd_12) rfl) rfl (by decide) (by decide) (by decide) (Nat.le_of_ble_eq_true rfl) [] (fun _ _ q => by obtain ⟨_, _, _, K_, _⟩ := q; exact K_) (sf0)  (pc' := 413) rfl ?_
    intro T22 _ X23 hQ24
    obtain ⟨oo, rv, rfl, K25, EO, FO, r1, r2, r3⟩ := hQ24
    have Str_26 := OStr.keep Str_12 K25 nin0 nin0
    have Str_27 := OStr.keep S13 K25 nin0 nin0
    have Fld_28 := C8.keep K25 nin0
    obtain rfl := r1 hA
    show EndW p e below s Z _ _ _ T22 (mkF m 413 #[.val (.int p0), .val (.int p1), .val (.int p2), .val (.int p3), .val (.int p4), .val (.int p5), .val (.int m6), .val (.int m7), .val (.int m8), .val (.int m9), .val (.ref b), .val (.int m11), .val (.ref x), .val (.ref A), .unset] [(.ref oo)])
    refine F_astore X23 at_413 rfl (l' := #[.val (.int p0), .val (.int p1), .val (.int p2), .val (.int p3), .val (.int p4), .val (.int p5), .val (.int m6), .val (.int m7), .val (.int m8), .val (.int m9), .val (.ref b), .val (.int m11), .val (.ref x), .val (.ref A), .val (.ref oo)]) rfl (pc' := 415) rfl ?_
    refine F_aload X23 at_415 rfl rfl (pc' := 417) rfl ?_
    refine F_nonnullT X23 at_417 (pc' := 422) (by decide) rfl ?_
    refine F_aload X23 at_422 rfl rfl (pc' := 424) rfl ?_
    refine F_aconstNull X23 at_424 (pc' := 425) rfl ?_
    refine F_virtual X23 (rm := rm_oreR) (a := oo) (D := "java/util/Optional") at_425 (hw _ (List.mem_of_getElem? (i := 89) rfl)) (hw _ (List.mem_of_getElem? (i := 90) rfl)) (hw _ (List.mem_of_getElem? (i := 92) rfl)) (hw _ (List.mem_of_getElem? (i := 91) rfl)) (notFace_of_selects (args := #[]) (mvT X23.hZ (hw _ (List.mem_of_getElem? (i := 92) rfl)))) (by decide) EO (hw _ (List.mem_of_getElem? (i := 74) rfl)) (hw _ (List.mem_of_getElem? (i := 93) rfl)) (argsL := [.null]) (st := []) rfl (ct_oreR l Z a0 hw G1 G3 OS hEL hSA oo A X23.old FO) (lenOf (pd_6) rfl) rfl (by decide) (by decide) (by decide) (Nat.le_of_ble_eq_true rfl) [] (fun _ _ q => by obtain ⟨_, e⟩ := q; exact own_ks e) (sf0)  (pc' := 428) rfl ?_
    intro T29 _ X30 hQ31
    obtain ⟨rfl, e32⟩ := hQ31
    rw [← e32] at Str_26 Str_27 Fld_28 EO FO
    show EndW p e below s Z _ _ _ T29 (mkF m 428 #[.val (.int p0), .val (.int p1), .val (.int p2), .val (.int p3), .val (.int p4), .val (.int p5), .val (.int m6), .val (.int m7), .val (.int m8), .val (.int m9), .val (.ref b), .val (.int m11), .val (.ref x), .val (.ref A), .val (.ref oo)] [(.ref A)])
    refine F_aload X30 at_428 rfl rfl (pc' := 430) rfl ?_
    refine F_acmp X30 at_430 rfl rfl true (decide_eq_true rfl) (pc' := 433) (by decide) rfl ?_
    refine F_iconst X30 (v := (1 : Int32)) at_433 rfl (pc' := 434) rfl ?_
    refine F_goto X30 at_434 (pc' := 438) (by decide) rfl ?_
    exact F_ireturnN X30 (t := .boolean) at_438 rfl (by simp) (by decide) (by decide) (rfl)
  · skip
    refine F_aload X0 at_358 rfl rfl (pc' := 360) rfl ?_
    refine F_nonnullT X0 at_360 (pc' := 369) (by decide) rfl ?_
    refine F_aload X0 at_369 rfl rfl (pc' := 371) rfl ?_
    refine F_ldcS X0 (n := 32) (z := Int32.ofNat ([(112 : Int32), (114 : Int32), (111 : Int32), (100 : Int32), (117 : Int32), (99 : Int32), (101 : Int32), (114 : Int32)] : List Int32).length) (vs := ([(112 : Int32), (114 : Int32), (111 : Int32), (100 : Int32), (117 : Int32), (99 : Int32), (101 : Int32), (114 : Int32)] : List Int32).map lo8) at_371 (hw _ (List.mem_of_getElem? (i := 34) rfl)) hSA hEL (by simp [EL, consts_1]) lit_1 (by decide) rfl (by decide) (by decide) (by decide) (by decide) (pc' := 373) rfl ?_
    intro T33 la35 lb36 k37 X34 K38 E39 C40 F41 V42 hs43
    have Str_44 := OStr.keep S0 K38 nin0 nin0
    have S45 : OStr Z T33.heap la35 lb36 [(112 : Int32), (114 : Int32), (111 : Int32), (100 : Int32), (117 : Int32), (99 : Int32), (101 : Int32), (114 : Int32)] := own_lit E39 F41 C40 V42 (by decide) (by decide)
    refine F_virtual X34 (rm := rm_seq) (a := x) (D := "java/lang/String") at_373 (hw _ (List.mem_of_getElem? (i := 37) rfl)) (hw _ (List.mem_of_getElem? (i := 38) rfl)) (hw _ (List.mem_of_getElem? (i := 40) rfl)) (hw _ (List.mem_of_getElem? (i := 39) rfl)) (notFace_of_selects (args := #[]) (mvT X34.hZ (hw _ (List.mem_of_getElem? (i := 40) rfl)))) (by decide) (OStr.exa Str_44) (hw _ (List.mem_of_getElem? (i := 7) rfl)) (hw _ (List.mem_of_getElem? (i := 41) rfl)) (argsL := [(.ref la35)]) (st := []) rfl (ct_seq l Z a0 hw G1 G3 OS hEL hSA x la35 t lb36 cs [(112 : Int32), (114 : Int32), (111 : Int32), (100 : Int32), (117 : Int32), (99 : Int32), (101 : Int32), (114 : Int32)] X34.old Str_44 S45) (lenOf (pd_9) rfl) rfl (by decide) (by decide) (by decide) (Nat.le_of_ble_eq_true rfl) [] (fun _ _ q => by obtain ⟨_, _, e, _, _⟩ := q; exact own_ks e) (sf0)  (pc' := 376) rfl ?_
    intro T47 _ X48 hQ49
    obtain ⟨z46, rfl, e50, yz46, nz46⟩ := hQ49
    rw [← e50] at Str_44 S45 C40
    obtain rfl := nz46 (fun q => hA q.symm)
    show EndW p e below s Z _ _ _ T47 (mkF m 376 #[.val (.int p0), .val (.int p1), .val (.int p2), .val (.int p3), .val (.int p4), .val (.int p5), .val (.int m6), .val (.int m7), .val (.int m8), .val (.int m9), .val (.ref b), .val (.int m11), .val (.ref x), .unset, .unset] [(.int (0 : Int32))])
    refine F_ifT X48 at_376 (XT.i0_eq_t (by decide)) (pc' := 387) (by decide) rfl ?_
    refine F_aload X48 at_387 rfl rfl (pc' := 389) rfl ?_
    refine F_ldcS X48 (n := 24) (z := Int32.ofNat ([(119 : Int32), (111 : Int32), (114 : Int32), (107 : Int32), (101 : Int32), (114 : Int32)] : List Int32).length) (vs := ([(119 : Int32), (111 : Int32), (114 : Int32), (107 : Int32), (101 : Int32), (114 : Int32)] : List Int32).map lo8) at_389 (hw _ (List.mem_of_getElem? (i := 99) rfl)) hSA hEL (by simp [EL, consts_1]) lit_2 (by decide) rfl (by decide) (by decide) (by decide) (by decide) (pc' := 391) rfl ?_
    intro T51 la53 lb54 k55 X52 K56 E57 C58 F59 V60 hs61
    have Str_62 := OStr.keep Str_44 K56 nin0 nin0
    have Str_63 := OStr.keep S45 K56 nin0 nin0
    have Fld_64 := C40.keep K56 nin0
    have S65 : OStr Z T51.heap la53 lb54 [(119 : Int32), (111 : Int32), (114 : Int32), (107 : Int32), (101 : Int32), (114 : Int32)] := own_lit E57 F59 C58 V60 (by decide) (by decide)
    refine F_virtual X52 (rm := rm_seq) (a := x) (D := "java/lang/String") at_391 (hw _ (List.mem_of_getElem? (i := 37) rfl)) (hw _ (List.mem_of_getElem? (i := 38) rfl)) (hw _ (List.mem_of_getElem? (i := 40) rfl)) (hw _ (List.mem_of_getElem? (i := 39) rfl)) (notFace_of_selects (args := #[]) (mvT X52.hZ (hw _ (List.mem_of_getElem? (i := 40) rfl)))) (by decide) (OStr.exa Str_62) (hw _ (List.mem_of_getElem? (i := 7) rfl)) (hw _ (List.mem_of_getElem? (i := 41) rfl)) (argsL := [(.ref la53)]) (st := []) rfl (ct_seq l Z a0 hw G1 G3 OS hEL hSA x la53 t lb54 cs [(119 : Int32), (111 : Int32), (114 : Int32), (107 : Int32), (101 : Int32), (114 : Int32)] X52.old Str_62 S65) (lenOf (pd_9) rfl) rfl (by decide) (by decide) (by decide) (Nat.le_of_ble_eq_true rfl) [] (fun _ _ q => by obtain ⟨_, _, e, _, _⟩ := q; exact own_ks e) (sf0)  (pc' := 394) rfl ?_
    intro T67 _ X68 hQ69
    obtain ⟨z66, rfl, e70, yz66, nz66⟩ := hQ69
    rw [← e70] at Str_62 Str_63 Fld_64 S65 C58
    obtain rfl := yz66 hB.symm
    show EndW p e below s Z _ _ _ T67 (mkF m 394 #[.val (.int p0), .val (.int p1), .val (.int p2), .val (.int p3), .val (.int p4), .val (.int p5), .val (.int m6), .val (.int m7), .val (.int m8), .val (.int m9), .val (.ref b), .val (.int m11), .val (.ref x), .unset, .unset] [(.int (1 : Int32))])
    refine F_ifF X68 at_394 (XT.i0_eq_f (by decide)) (pc' := 397) rfl ?_
    refine F_getstatic X68 at_397 (hw _ (List.mem_of_getElem? (i := 100) rfl)) Via.refl PN.2.1 (pc' := 400) rfl ?_
    intro T71 X72 e73
    rw [← e73] at Str_62 Str_63 Fld_64 S65 C58
    refine F_astore X72 at_400 rfl (l' := #[.val (.int p0), .val (.int p1), .val (.int p2), .val (.int p3), .val (.int p4), .val (.int p5), .val (.int m6), .val (.int m7), .val (.int m8), .val (.int m9), .val (.ref b), .val (.int m11), .val (.ref x), .val (.ref B), .unset]) rfl (pc' := 402) rfl ?_
    refine F_goto X72 at_402 (pc' := 408) (by decide) rfl ?_
    refine F_aload X72 at_408 rfl rfl (pc' := 410) rfl ?_
    refine F_static X72 (rm := rm_fls) at_410 (hw _ (List.mem_of_getElem? (i := 50) rfl)) (hw _ (List.mem_of_getElem? (i := 51) rfl)) (hw _ (List.mem_of_getElem? (i := 48) rfl)) (hw _ (List.mem_of_getElem? (i := 52) rfl)) (by decide) (argsL := [(.ref x)]) (st := []) rfl (ct_fls l Z a0 hw G1 G3 OS hEL hSA A B sa sb va vb vv oe kv PN x t cs X72.old Str_62) (lenOf (pd_12) rfl) rfl (by decide) (by decide) (by decide) (Nat.le_of_ble_eq_true rfl) [] (fun _ _ q => by obtain ⟨_, _, _, K_, _⟩ := q; exact K_) (sf0)  (pc' := 413) rfl ?_
    intro T74 _ X75 hQ76
    obtain ⟨oo, rv, rfl, K77, EO, FO, r1, r2, r3⟩ := hQ76
    have Str_78 := OStr.keep Str_62 K77 nin0 nin0
    have Str_79 := OStr.keep Str_63 K77 nin0 nin0
    have Fld_80 := Fld_64.keep K77 nin0
    have Str_81 := OStr.keep S65 K77 nin0 nin0
    have Fld_82 := C58.keep K77 nin0
    obtain rfl := r2 hA hB
    show EndW p e below s Z _ _ _ T74 (mkF m 413 #[.val (.int p0), .val (.int p1), .val (.int p2), .val (.int p3), .val (.int p4), .val (.int p5), .val (.int m6), .val (.int m7), .val (.int m8), .val (.int m9), .val (.ref b), .val (.int m11), .val (.ref x), .val (.ref B), .unset] [(.ref oo)])
    refine F_astore X75 at_413 rfl (l' := #[.val (.int p0), .val (.int p1), .val (.int p2), .val (.int p3), .val (.int p4), .val (.int p5), .val (.int m6), .val (.int m7), .val (.int m8), .val (.int m9), .val (.ref b), .val (.int m11), .val (.ref x), .val (.ref B), .val (.ref oo)]) rfl (pc' := 415) rfl ?_
    refine F_aload X75 at_415 rfl rfl (pc' := 417) rfl ?_
    refine F_nonnullT X75 at_417 (pc' := 422) (by decide) rfl ?_
    refine F_aload X75 at_422 rfl rfl (pc' := 424) rfl ?_
    refine F_aconstNull X75 at_424 (pc' := 425) rfl ?_
    refine F_virtual X75 (rm := rm_oreR) (a := oo) (D := "java/util/Optional") at_425 (hw _ (List.mem_of_getElem? (i := 89) rfl)) (hw _ (List.mem_of_getElem? (i := 90) rfl)) (hw _ (List.mem_of_getElem? (i := 92) rfl)) (hw _ (List.mem_of_getElem? (i := 91) rfl)) (notFace_of_selects (args := #[]) (mvT X75.hZ (hw _ (List.mem_of_getElem? (i := 92) rfl)))) (by decide) EO (hw _ (List.mem_of_getElem? (i := 74) rfl)) (hw _ (List.mem_of_getElem? (i := 93) rfl)) (argsL := [.null]) (st := []) rfl (ct_oreR l Z a0 hw G1 G3 OS hEL hSA oo B X75.old FO) (lenOf (pd_6) rfl) rfl (by decide) (by decide) (by decide) (Nat.le_of_ble_eq_true rfl) [] (fun _ _ q => by obtain ⟨_, e⟩ := q; exact own_ks e) (sf0)  (pc' := 428) rfl ?_
    intro T83 _ X84 hQ85
    obtain ⟨rfl, e86⟩ := hQ85
    rw [← e86] at Str_78 Str_79 Fld_80 Str_81 Fld_82 EO FO
    show EndW p e below s Z _ _ _ T83 (mkF m 428 #[.val (.int p0), .val (.int p1), .val (.int p2), .val (.int p3), .val (.int p4), .val (.int p5), .val (.int m6), .val (.int m7), .val (.int m8), .val (.int m9), .val (.ref b), .val (.int m11), .val (.ref x), .val (.ref B), .val (.ref oo)] [(.ref B)])
    refine F_aload X84 at_428 rfl rfl (pc' := 430) rfl ?_
    refine F_acmp X84 at_430 rfl rfl true (decide_eq_true rfl) (pc' := 433) (by decide) rfl ?_
    refine F_iconst X84 (v := (1 : Int32)) at_433 rfl (pc' := 434) rfl ?_
    refine F_goto X84 at_434 (pc' := 438) (by decide) rfl ?_
    exact F_ireturnN X84 (t := .boolean) at_438 rfl (by simp) (by decide) (by decide) (rfl)
  · skip
    refine F_aload X0 at_358 rfl rfl (pc' := 360) rfl ?_
    refine F_nonnullT X0 at_360 (pc' := 369) (by decide) rfl ?_
    refine F_aload X0 at_369 rfl rfl (pc' := 371) rfl ?_
    refine F_ldcS X0 (n := 32) (z := Int32.ofNat ([(112 : Int32), (114 : Int32), (111 : Int32), (100 : Int32), (117 : Int32), (99 : Int32), (101 : Int32), (114 : Int32)] : List Int32).length) (vs := ([(112 : Int32), (114 : Int32), (111 : Int32), (100 : Int32), (117 : Int32), (99 : Int32), (101 : Int32), (114 : Int32)] : List Int32).map lo8) at_371 (hw _ (List.mem_of_getElem? (i := 34) rfl)) hSA hEL (by simp [EL, consts_1]) lit_1 (by decide) rfl (by decide) (by decide) (by decide) (by decide) (pc' := 373) rfl ?_
    intro T87 la89 lb90 k91 X88 K92 E93 C94 F95 V96 hs97
    have Str_98 := OStr.keep S0 K92 nin0 nin0
    have S99 : OStr Z T87.heap la89 lb90 [(112 : Int32), (114 : Int32), (111 : Int32), (100 : Int32), (117 : Int32), (99 : Int32), (101 : Int32), (114 : Int32)] := own_lit E93 F95 C94 V96 (by decide) (by decide)
    refine F_virtual X88 (rm := rm_seq) (a := x) (D := "java/lang/String") at_373 (hw _ (List.mem_of_getElem? (i := 37) rfl)) (hw _ (List.mem_of_getElem? (i := 38) rfl)) (hw _ (List.mem_of_getElem? (i := 40) rfl)) (hw _ (List.mem_of_getElem? (i := 39) rfl)) (notFace_of_selects (args := #[]) (mvT X88.hZ (hw _ (List.mem_of_getElem? (i := 40) rfl)))) (by decide) (OStr.exa Str_98) (hw _ (List.mem_of_getElem? (i := 7) rfl)) (hw _ (List.mem_of_getElem? (i := 41) rfl)) (argsL := [(.ref la89)]) (st := []) rfl (ct_seq l Z a0 hw G1 G3 OS hEL hSA x la89 t lb90 cs [(112 : Int32), (114 : Int32), (111 : Int32), (100 : Int32), (117 : Int32), (99 : Int32), (101 : Int32), (114 : Int32)] X88.old Str_98 S99) (lenOf (pd_9) rfl) rfl (by decide) (by decide) (by decide) (Nat.le_of_ble_eq_true rfl) [] (fun _ _ q => by obtain ⟨_, _, e, _, _⟩ := q; exact own_ks e) (sf0)  (pc' := 376) rfl ?_
    intro T101 _ X102 hQ103
    obtain ⟨z100, rfl, e104, yz100, nz100⟩ := hQ103
    rw [← e104] at Str_98 S99 C94
    obtain rfl := nz100 (fun q => hA q.symm)
    show EndW p e below s Z _ _ _ T101 (mkF m 376 #[.val (.int p0), .val (.int p1), .val (.int p2), .val (.int p3), .val (.int p4), .val (.int p5), .val (.int m6), .val (.int m7), .val (.int m8), .val (.int m9), .val (.ref b), .val (.int m11), .val (.ref x), .unset, .unset] [(.int (0 : Int32))])
    refine F_ifT X102 at_376 (XT.i0_eq_t (by decide)) (pc' := 387) (by decide) rfl ?_
    refine F_aload X102 at_387 rfl rfl (pc' := 389) rfl ?_
    refine F_ldcS X102 (n := 24) (z := Int32.ofNat ([(119 : Int32), (111 : Int32), (114 : Int32), (107 : Int32), (101 : Int32), (114 : Int32)] : List Int32).length) (vs := ([(119 : Int32), (111 : Int32), (114 : Int32), (107 : Int32), (101 : Int32), (114 : Int32)] : List Int32).map lo8) at_389 (hw _ (List.mem_of_getElem? (i := 99) rfl)) hSA hEL (by simp [EL, consts_1]) lit_2 (by decide) rfl (by decide) (by decide) (by decide) (by decide) (pc' := 391) rfl ?_
    intro T105 la107 lb108 k109 X106 K110 E111 C112 F113 V114 hs115
    have Str_116 := OStr.keep Str_98 K110 nin0 nin0
    have Str_117 := OStr.keep S99 K110 nin0 nin0
    have Fld_118 := C94.keep K110 nin0
    have S119 : OStr Z T105.heap la107 lb108 [(119 : Int32), (111 : Int32), (114 : Int32), (107 : Int32), (101 : Int32), (114 : Int32)] := own_lit E111 F113 C112 V114 (by decide) (by decide)
    refine F_virtual X106 (rm := rm_seq) (a := x) (D := "java/lang/String") at_391 (hw _ (List.mem_of_getElem? (i := 37) rfl)) (hw _ (List.mem_of_getElem? (i := 38) rfl)) (hw _ (List.mem_of_getElem? (i := 40) rfl)) (hw _ (List.mem_of_getElem? (i := 39) rfl)) (notFace_of_selects (args := #[]) (mvT X106.hZ (hw _ (List.mem_of_getElem? (i := 40) rfl)))) (by decide) (OStr.exa Str_116) (hw _ (List.mem_of_getElem? (i := 7) rfl)) (hw _ (List.mem_of_getElem? (i := 41) rfl)) (argsL := [(.ref la107)]) (st := []) rfl (ct_seq l Z a0 hw G1 G3 OS hEL hSA x la107 t lb108 cs [(119 : Int32), (111 : Int32), (114 : Int32), (107 : Int32), (101 : Int32), (114 : Int32)] X106.old Str_116 S119) (lenOf (pd_9) rfl) rfl (by decide) (by decide) (by decide) (Nat.le_of_ble_eq_true rfl) [] (fun _ _ q => by obtain ⟨_, _, e, _, _⟩ := q; exact own_ks e) (sf0)  (pc' := 394) rfl ?_
    intro T121 _ X122 hQ123
    obtain ⟨z120, rfl, e124, yz120, nz120⟩ := hQ123
    rw [← e124] at Str_116 Str_117 Fld_118 S119 C112
    obtain rfl := nz120 (fun q => hB q.symm)
    show EndW p e below s Z _ _ _ T121 (mkF m 394 #[.val (.int p0), .val (.int p1), .val (.int p2), .val (.int p3), .val (.int p4), .val (.int p5), .val (.int m6), .val (.int m7), .val (.int m8), .val (.int m9), .val (.ref b), .val (.int m11), .val (.ref x), .unset, .unset] [(.int (0 : Int32))])
    refine F_ifT X122 at_394 (XT.i0_eq_t (by decide)) (pc' := 405) (by decide) rfl ?_
    refine F_aconstNull X122 at_405 (pc' := 406) rfl ?_
    refine F_astore X122 at_406 rfl (l' := #[.val (.int p0), .val (.int p1), .val (.int p2), .val (.int p3), .val (.int p4), .val (.int p5), .val (.int m6), .val (.int m7), .val (.int m8), .val (.int m9), .val (.ref b), .val (.int m11), .val (.ref x), .val .null, .unset]) rfl (pc' := 408) rfl ?_
    refine F_aload X122 at_408 rfl rfl (pc' := 410) rfl ?_
    refine F_static X122 (rm := rm_fls) at_410 (hw _ (List.mem_of_getElem? (i := 50) rfl)) (hw _ (List.mem_of_getElem? (i := 51) rfl)) (hw _ (List.mem_of_getElem? (i := 48) rfl)) (hw _ (List.mem_of_getElem? (i := 52) rfl)) (by decide) (argsL := [(.ref x)]) (st := []) rfl (ct_fls l Z a0 hw G1 G3 OS hEL hSA A B sa sb va vb vv oe kv PN x t cs X122.old Str_116) (lenOf (pd_12) rfl) rfl (by decide) (by decide) (by decide) (Nat.le_of_ble_eq_true rfl) [] (fun _ _ q => by obtain ⟨_, _, _, K_, _⟩ := q; exact K_) (sf0)  (pc' := 413) rfl ?_
    intro T125 _ X126 hQ127
    obtain ⟨oo, rv, rfl, K128, EO, FO, r1, r2, r3⟩ := hQ127
    have Str_129 := OStr.keep Str_116 K128 nin0 nin0
    have Str_130 := OStr.keep Str_117 K128 nin0 nin0
    have Fld_131 := Fld_118.keep K128 nin0
    have Str_132 := OStr.keep S119 K128 nin0 nin0
    have Fld_133 := C112.keep K128 nin0
    obtain rfl := r3 hA hB
    show EndW p e below s Z _ _ _ T125 (mkF m 413 #[.val (.int p0), .val (.int p1), .val (.int p2), .val (.int p3), .val (.int p4), .val (.int p5), .val (.int m6), .val (.int m7), .val (.int m8), .val (.int m9), .val (.ref b), .val (.int m11), .val (.ref x), .val .null, .unset] [(.ref oo)])
    refine F_astore X126 at_413 rfl (l' := #[.val (.int p0), .val (.int p1), .val (.int p2), .val (.int p3), .val (.int p4), .val (.int p5), .val (.int m6), .val (.int m7), .val (.int m8), .val (.int m9), .val (.ref b), .val (.int m11), .val (.ref x), .val .null, .val (.ref oo)]) rfl (pc' := 415) rfl ?_
    refine F_aload X126 at_415 rfl rfl (pc' := 417) rfl ?_
    refine F_nonnullT X126 at_417 (pc' := 422) (by decide) rfl ?_
    refine F_aload X126 at_422 rfl rfl (pc' := 424) rfl ?_
    refine F_aconstNull X126 at_424 (pc' := 425) rfl ?_
    refine F_virtual X126 (rm := rm_oreN) (a := oo) (D := "java/util/Optional") at_425 (hw _ (List.mem_of_getElem? (i := 89) rfl)) (hw _ (List.mem_of_getElem? (i := 90) rfl)) (hw _ (List.mem_of_getElem? (i := 92) rfl)) (hw _ (List.mem_of_getElem? (i := 91) rfl)) (notFace_of_selects (args := #[]) (mvT X126.hZ (hw _ (List.mem_of_getElem? (i := 92) rfl)))) (by decide) EO (hw _ (List.mem_of_getElem? (i := 74) rfl)) (hw _ (List.mem_of_getElem? (i := 93) rfl)) (argsL := [.null]) (st := []) rfl (ct_oreN l Z a0 hw G1 G3 OS hEL hSA oo A X126.old FO) (lenOf (pd_6) rfl) rfl (by decide) (by decide) (by decide) (Nat.le_of_ble_eq_true rfl) [] (fun _ _ q => by obtain ⟨_, e⟩ := q; exact own_ks e) (sf0)  (pc' := 428) rfl ?_
    intro T134 _ X135 hQ136
    obtain ⟨rfl, e137⟩ := hQ136
    rw [← e137] at Str_129 Str_130 Fld_131 Str_132 Fld_133 EO FO
    show EndW p e below s Z _ _ _ T134 (mkF m 428 #[.val (.int p0), .val (.int p1), .val (.int p2), .val (.int p3), .val (.int p4), .val (.int p5), .val (.int m6), .val (.int m7), .val (.int m8), .val (.int m9), .val (.ref b), .val (.int m11), .val (.ref x), .val .null, .val (.ref oo)] [.null])
    refine F_aload X135 at_428 rfl rfl (pc' := 430) rfl ?_
    refine F_acmp X135 at_430 rfl rfl true (decide_eq_true rfl) (pc' := 433) (by decide) rfl ?_
    refine F_iconst X135 (v := (1 : Int32)) at_433 rfl (pc' := 434) rfl ?_
    refine F_goto X135 at_434 (pc' := 438) (by decide) rfl ?_
    exact F_ireturnN X135 (t := .boolean) at_438 rfl (by simp) (by decide) (by decide) (rfl)
set_option maxRecDepth 65536 in
set_option maxHeartbeats 40000000 in
theorem sg_lawF (l : Launch) (Z : State) (a0 : Array Value) (hw : ∀ d ∈ tables_1, d.before a0 Z = true) (p0 p1 p2 p3 p4 p5 : Int32) (G1 : Int32) (G3 : Value) (A B sa sb va vb vv oe : Addr) (kv : ClassId) (OS : Sts Z G1 G3) (hEL : EW Z a0 EL) (hSA : ∀ a ∈ Bundle.stringAtoms, a.before a0 Z = true) (PN : Pin Z A B sa sb va vb vv oe kv) {p : Program} {e : Env} {s : State} {m : MethodId} {below : List Frame} {meth : Method} {c : Code} : ∀ {vm : Vm} {T0 : State} (m6 m7 m8 m9 m11 : Int32) (b : Addr) (kC : ClassId) (bs : List Int32) (dv : Value), Ww l Z ({ frames := 8, cells := 32, slots := 3264, locals := 192 } : Room) code 15 (some .boolean) "com/example/panoptes/panoptes/RoleFromListedNamePinLaw" "law" p e s m #[(.int p0), (.int p1), (.int p2), (.int p3), (.int p4), (.int p5)] below meth c vm T0 4 40 → (Arv Z T0.heap b kC .char (9 : Int32) (bs.map Value.int) dv) → (bs.length = 9) → (∀ c ∈ bs, ¬ c < 0 ∧ ¬ (255 : Int32) < c) → (Z.heap.size ≤ b) → EndW p e below s Z (fun v _ => v = some (.int 1)) 32 3264 T0 (mkF m 340 #[.val (.int p0), .val (.int p1), .val (.int p2), .val (.int p3), .val (.int p4), .val (.int p5), .val (.int m6), .val (.int m7), .val (.int m8), .val (.int m9), .val (.ref b), .val (.int m11), .unset, .unset, .unset] []) := by
  intro vm T0 m6 m7 m8 m9 m11 b kC bs dv X0 V0 h9 hb gb
  refine F_iload X0 at_340 rfl (pc' := 342) rfl ?_
  by_cases h342 : m7 = 0
  · skip
    refine F_ifT X0 at_342 (XT.i0_eq_t h342) (pc' := 349) (by decide) rfl ?_
    refine F_aload X0 at_349 rfl rfl (pc' := 351) rfl ?_
    refine F_iload X0 at_351 rfl (pc' := 353) rfl ?_
    refine G_static X0 (rm := rm_make) at_353 (hw _ (List.mem_of_getElem? (i := 1) rfl)) (hw _ (List.mem_of_getElem? (i := 2) rfl)) (hw _ (List.mem_of_getElem? (i := 3) rfl)) (hw _ (List.mem_of_getElem? (i := 4) rfl)) (by decide) (argsL := [(.ref b), (.int m11)]) (st := []) rfl (ct_make l Z a0 hw G1 G3 OS hEL hSA b kC bs dv m11 X0.old V0 h9 hb) (lenOf (pd_13) rfl) rfl (by decide) (by decide) (by decide) (Nat.le_of_ble_eq_true rfl)  (pc' := 356) rfl ?_
    intro T1 _ X2 hQ3 hsf4
    obtain ⟨x, t, cs, rfl, K5, S6⟩ := hQ3
    have Arv_7 := V0.keep K5 nin0
    show EndW p e below s Z _ _ _ T1 (mkF m 356 #[.val (.int p0), .val (.int p1), .val (.int p2), .val (.int p3), .val (.int p4), .val (.int p5), .val (.int m6), .val (.int m7), .val (.int m8), .val (.int m9), .val (.ref b), .val (.int m11), .unset, .unset, .unset] [(.ref x)])
    refine F_astore X2 at_356 rfl (l' := #[.val (.int p0), .val (.int p1), .val (.int p2), .val (.int p3), .val (.int p4), .val (.int p5), .val (.int m6), .val (.int m7), .val (.int m8), .val (.int m9), .val (.ref b), .val (.int m11), .val (.ref x), .unset, .unset]) rfl (pc' := 358) rfl ?_
    exact sg_lawG l Z a0 hw p0 p1 p2 p3 p4 p5 G1 G3 A B sa sb va vb vv oe kv OS hEL hSA PN m6 m7 m8 m9 m11 b x t cs (X2.more (Nat.le_of_ble_eq_true rfl) (Nat.le_of_ble_eq_true rfl)) S6
  · skip
    refine F_ifF X0 at_342 (XT.i0_eq_f h342) (pc' := 345) rfl ?_
    refine F_aconstNull X0 at_345 (pc' := 346) rfl ?_
    refine F_goto X0 at_346 (pc' := 356) (by decide) rfl ?_
    refine F_astore X0 at_356 rfl (l' := #[.val (.int p0), .val (.int p1), .val (.int p2), .val (.int p3), .val (.int p4), .val (.int p5), .val (.int m6), .val (.int m7), .val (.int m8), .val (.int m9), .val (.ref b), .val (.int m11), .val .null, .unset, .unset]) rfl (pc' := 358) rfl ?_
    refine F_aload X0 at_358 rfl rfl (pc' := 360) rfl ?_
    refine F_nonnullF X0 at_360 (pc' := 363) rfl ?_
    refine F_aconstNull X0 at_363 (pc' := 364) rfl ?_
    refine F_astore X0 at_364 rfl (l' := #[.val (.int p0), .val (.int p1), .val (.int p2), .val (.int p3), .val (.int p4), .val (.int p5), .val (.int m6), .val (.int m7), .val (.int m8), .val (.int m9), .val (.ref b), .val (.int m11), .val .null, .val .null, .unset]) rfl (pc' := 366) rfl ?_
    refine F_goto X0 at_366 (pc' := 408) (by decide) rfl ?_
    refine F_aload X0 at_408 rfl rfl (pc' := 410) rfl ?_
    refine F_static X0 (rm := rm_fln) at_410 (hw _ (List.mem_of_getElem? (i := 50) rfl)) (hw _ (List.mem_of_getElem? (i := 51) rfl)) (hw _ (List.mem_of_getElem? (i := 48) rfl)) (hw _ (List.mem_of_getElem? (i := 52) rfl)) (by decide) (argsL := [.null]) (st := []) rfl (ct_fln l Z a0 hw G1 G3 OS hEL hSA A B sa sb va vb vv oe kv PN X0.old) (lenOf (pd_12) rfl) rfl (by decide) (by decide) (by decide) (Nat.le_of_ble_eq_true rfl) [] (fun _ _ q => q.2) (sf0)  (pc' := 413) rfl ?_
    intro T8 _ X9 hQ10
    obtain ⟨rfl, K11⟩ := hQ10
    have Arv_12 := V0.keep K11 nin0
    have EE0 := (PN.2.2.2.2.2.2.2.2.2.2.2.2.1.keep (Keep.of_ext X9.old))
    show EndW p e below s Z _ _ _ T8 (mkF m 413 #[.val (.int p0), .val (.int p1), .val (.int p2), .val (.int p3), .val (.int p4), .val (.int p5), .val (.int m6), .val (.int m7), .val (.int m8), .val (.int m9), .val (.ref b), .val (.int m11), .val .null, .val .null, .unset] [(.ref oe)])
    refine F_astore X9 at_413 rfl (l' := #[.val (.int p0), .val (.int p1), .val (.int p2), .val (.int p3), .val (.int p4), .val (.int p5), .val (.int m6), .val (.int m7), .val (.int m8), .val (.int m9), .val (.ref b), .val (.int m11), .val .null, .val .null, .val (.ref oe)]) rfl (pc' := 415) rfl ?_
    refine F_aload X9 at_415 rfl rfl (pc' := 417) rfl ?_
    refine F_nonnullT X9 at_417 (pc' := 422) (by decide) rfl ?_
    refine F_aload X9 at_422 rfl rfl (pc' := 424) rfl ?_
    refine F_aconstNull X9 at_424 (pc' := 425) rfl ?_
    refine F_virtual X9 (rm := rm_oreN) (a := oe) (D := "java/util/Optional") at_425 (hw _ (List.mem_of_getElem? (i := 89) rfl)) (hw _ (List.mem_of_getElem? (i := 90) rfl)) (hw _ (List.mem_of_getElem? (i := 92) rfl)) (hw _ (List.mem_of_getElem? (i := 91) rfl)) (notFace_of_selects (args := #[]) (mvT X9.hZ (hw _ (List.mem_of_getElem? (i := 92) rfl)))) (by decide) EE0 (hw _ (List.mem_of_getElem? (i := 74) rfl)) (hw _ (List.mem_of_getElem? (i := 93) rfl)) (argsL := [.null]) (st := []) rfl (ct_oreN l Z a0 hw G1 G3 OS hEL hSA oe A X9.old (PN.2.2.2.2.2.2.2.2.2.2.2.2.2.keep (Keep.of_ext X9.old) nin0)) (lenOf (pd_6) rfl) rfl (by decide) (by decide) (by decide) (Nat.le_of_ble_eq_true rfl) [] (fun _ _ q => by obtain ⟨_, e⟩ := q; exact own_ks e) (sf0)  (pc' := 428) rfl ?_
    intro T13 _ X14 hQ15
    obtain ⟨rfl, e16⟩ := hQ15
    rw [← e16] at Arv_12 EE0
    show EndW p e below s Z _ _ _ T13 (mkF m 428 #[.val (.int p0), .val (.int p1), .val (.int p2), .val (.int p3), .val (.int p4), .val (.int p5), .val (.int m6), .val (.int m7), .val (.int m8), .val (.int m9), .val (.ref b), .val (.int m11), .val .null, .val .null, .val (.ref oe)] [.null])
    refine F_aload X14 at_428 rfl rfl (pc' := 430) rfl ?_
    refine F_acmp X14 at_430 rfl rfl true (decide_eq_true rfl) (pc' := 433) (by decide) rfl ?_
    refine F_iconst X14 (v := (1 : Int32)) at_433 rfl (pc' := 434) rfl ?_
    refine F_goto X14 at_434 (pc' := 438) (by decide) rfl ?_
    exact F_ireturnN X14 (t := .boolean) at_438 rfl (by simp) (by decide) (by decide) (rfl)
set_option maxRecDepth 65536 in
set_option maxHeartbeats 40000000 in
theorem sg_lawE (l : Launch) (Z : State) (a0 : Array Value) (hw : ∀ d ∈ tables_1, d.before a0 Z = true) (p0 p1 p2 p3 p4 p5 : Int32) (G1 : Int32) (G3 : Value) (A B sa sb va vb vv oe : Addr) (kv : ClassId) (OS : Sts Z G1 G3) (hEL : EW Z a0 EL) (hSA : ∀ a ∈ Bundle.stringAtoms, a.before a0 Z = true) (PN : Pin Z A B sa sb va vb vv oe kv) {p : Program} {e : Env} {s : State} {m : MethodId} {below : List Frame} {meth : Method} {c : Code} : ∀ {vm : Vm} {T0 : State} (m6 m7 m8 m9 m11 : Int32) (b : Addr) (kC : ClassId) (bs : List Int32) (dv : Value), Ww l Z ({ frames := 8, cells := 32, slots := 3264, locals := 192 } : Room) code 15 (some .boolean) "com/example/panoptes/panoptes/RoleFromListedNamePinLaw" "law" p e s m #[(.int p0), (.int p1), (.int p2), (.int p3), (.int p4), (.int p5)] below meth c vm T0 4 40 → (Arv Z T0.heap b kC .char (9 : Int32) (bs.map Value.int) dv) → (bs.length = 9) → (∀ c ∈ bs, ¬ c < 0 ∧ ¬ (255 : Int32) < c) → (Z.heap.size ≤ b) → EndW p e below s Z (fun v _ => v = some (.int 1)) 32 3264 T0 (mkF m 318 #[.val (.int p0), .val (.int p1), .val (.int p2), .val (.int p3), .val (.int p4), .val (.int p5), .val (.int m6), .val (.int m7), .val (.int m8), .val (.int m9), .val (.ref b), .val (.int m11), .unset, .unset, .unset] []) := by
  intro vm T0 m6 m7 m8 m9 m11 b kC bs dv X0 V0 h9 hb gb
  obtain ⟨cP, hcP⟩ : ∃ z, z = (p5 &&& (255 : Int32)).toUInt32.toUInt16.toUInt32.toInt32 := ⟨_, rfl⟩
  have bcP : ¬ cP < 0 ∧ ¬ (255 : Int32) < cP := by rw [hcP]; exact c8_ok p5
  obtain ⟨jj, hjj, hjj2⟩ := own_9 p1
  refine F_iload X0 at_318 rfl (pc' := 320) rfl ?_
  by_cases h320 : m8 = 0
  · skip
    refine F_ifT X0 at_320 (XT.i0_eq_t h320) (pc' := 340) (by decide) rfl ?_
    exact sg_lawF l Z a0 hw p0 p1 p2 p3 p4 p5 G1 G3 A B sa sb va vb vv oe kv OS hEL hSA PN m6 m7 m8 m9 m11 b kC bs dv X0 V0 h9 hb gb
  · skip
    refine F_ifF X0 at_320 (XT.i0_eq_f h320) (pc' := 323) rfl ?_
    refine F_aload X0 at_323 rfl rfl (pc' := 325) rfl ?_
    refine F_iloadN X0 at_325 rfl (pc' := 326) rfl ?_
    refine F_ldcI X0 (v := (2147483647 : Int32)) at_326 (hw _ (List.mem_of_getElem? (i := 98) rfl)) (pc' := 328) rfl ?_
    refine F_iand X0 at_328 rfl (pc' := 329) rfl ?_
    refine F_bipush X0 (v := (9 : Int32)) at_329 rfl (pc' := 331) rfl ?_
    refine F_irem X0 (v := (Int32.ofNat jj)) at_331 (by decide) hjj2 (pc' := 332) rfl ?_
    refine F_iload X0 at_332 rfl (pc' := 334) rfl ?_
    refine F_sipush X0 (v := (255 : Int32)) at_334 rfl (pc' := 337) rfl ?_
    refine F_iand X0 at_337 rfl (pc' := 338) rfl ?_
    refine F_i2c X0 (v := cP) at_338 hcP.symm (pc' := 339) rfl ?_
    refine F_castore X0 (jj) (y := cP) at_339 (c8_nar bcP) V0 ⟨o_nn (by omega), o_lt (n := 9) hjj (by decide)⟩ (o_cl (by omega)) (by rw [List.length_map, h9]; exact hjj) gb (pc' := 340) rfl ?_
    intro T1 X2 K3 V4
    have V5 : Arv Z T1.heap b kC .char (9 : Int32) ((bs.map Value.int).set jj (.int cP)) dv := V4
    exact sg_lawF l Z a0 hw p0 p1 p2 p3 p4 p5 G1 G3 A B sa sb va vb vv oe kv OS hEL hSA PN m6 m7 m8 m9 m11 b kC (bs.set jj cP) dv X2 (by rw [List.map_set]; exact V5) (by rw [List.length_set]; exact h9) (own_sb hb bcP) gb
set_option maxRecDepth 65536 in
set_option maxHeartbeats 40000000 in
theorem sg_lawD (l : Launch) (Z : State) (a0 : Array Value) (hw : ∀ d ∈ tables_1, d.before a0 Z = true) (p0 p1 p2 p3 p4 p5 : Int32) (G1 : Int32) (G3 : Value) (A B sa sb va vb vv oe : Addr) (kv : ClassId) (OS : Sts Z G1 G3) (hEL : EW Z a0 EL) (hSA : ∀ a ∈ Bundle.stringAtoms, a.before a0 Z = true) (PN : Pin Z A B sa sb va vb vv oe kv) {p : Program} {e : Env} {s : State} {m : MethodId} {below : List Frame} {meth : Method} {c : Code} : ∀ {vm : Vm} {T0 : State} (m6 m7 m8 m9 m11 : Int32) (b : Addr) (kC : ClassId) (bs : List Int32) (dv : Value), Ww l Z ({ frames := 8, cells := 32, slots := 3264, locals := 192 } : Room) code 15 (some .boolean) "com/example/panoptes/panoptes/RoleFromListedNamePinLaw" "law" p e s m #[(.int p0), (.int p1), (.int p2), (.int p3), (.int p4), (.int p5)] below meth c vm T0 4 40 → (Arv Z T0.heap b kC .char (9 : Int32) (bs.map Value.int) dv) → (bs.length = 9) → (∀ c ∈ bs, ¬ c < 0 ∧ ¬ (255 : Int32) < c) → (Z.heap.size ≤ b) → EndW p e below s Z (fun v _ => v = some (.int 1)) 32 3264 T0 (mkF m 285 #[.val (.int p0), .val (.int p1), .val (.int p2), .val (.int p3), .val (.int p4), .val (.int p5), .val (.int m6), .val (.int m7), .val (.int m8), .val (.int m9), .val (.ref b), .val (.int m11), .unset, .unset, .unset] []) := by
  intro vm T0 m6 m7 m8 m9 m11 b kC bs dv X0 V0 h9 hb gb
  refine F_iload X0 at_285 rfl (pc' := 287) rfl ?_
  refine F_iconst X0 (v := (2 : Int32)) at_287 rfl (pc' := 288) rfl ?_
  by_cases hc288 : m6 < (2 : Int32)
  · skip
    refine F_icF X0 at_288 (XT.ii_ge_f hc288) (pc' := 291) rfl ?_
    refine F_iload X0 at_291 rfl (pc' := 293) rfl ?_
    refine F_iconst X0 (v := (2 : Int32)) at_293 rfl (pc' := 294) rfl ?_
    by_cases hc294 : m9 = (2 : Int32)
    · skip
      refine F_icF X0 at_294 (XT.ii_ne_f hc294) (pc' := 297) rfl ?_
      refine F_iload X0 at_297 rfl (pc' := 299) rfl ?_
      refine F_iconst X0 (v := (1 : Int32)) at_299 rfl (pc' := 300) rfl ?_
      refine F_isub X0 at_300 rfl (pc' := 301) rfl ?_
      refine F_istore X0 at_301 (l' := #[.val (.int p0), .val (.int p1), .val (.int p2), .val (.int p3), .val (.int p4), .val (.int p5), .val (.int m6), .val (.int m7), .val (.int m8), .val (.int m9), .val (.ref b), .val (.int (m11 - (1 : Int32))), .unset, .unset, .unset]) rfl (pc' := 303) rfl ?_
      refine F_goto X0 at_303 (pc' := 318) (by decide) rfl ?_
      exact sg_lawE l Z a0 hw p0 p1 p2 p3 p4 p5 G1 G3 A B sa sb va vb vv oe kv OS hEL hSA PN m6 m7 m8 m9 (m11 - (1 : Int32)) b kC bs dv X0 V0 h9 hb gb
    · skip
      refine F_icT X0 at_294 (XT.ii_ne_t hc294) (pc' := 306) (by decide) rfl ?_
      refine F_iload X0 at_306 rfl (pc' := 308) rfl ?_
      refine F_iconst X0 (v := (3 : Int32)) at_308 rfl (pc' := 309) rfl ?_
      by_cases hc309 : m9 = (3 : Int32)
      · skip
        refine F_icF X0 at_309 (XT.ii_ne_f hc309) (pc' := 312) rfl ?_
        refine F_iload X0 at_312 rfl (pc' := 314) rfl ?_
        refine F_iconst X0 (v := (1 : Int32)) at_314 rfl (pc' := 315) rfl ?_
        refine F_iadd X0 at_315 rfl (pc' := 316) rfl ?_
        refine F_istore X0 at_316 (l' := #[.val (.int p0), .val (.int p1), .val (.int p2), .val (.int p3), .val (.int p4), .val (.int p5), .val (.int m6), .val (.int m7), .val (.int m8), .val (.int m9), .val (.ref b), .val (.int (m11 + (1 : Int32))), .unset, .unset, .unset]) rfl (pc' := 318) rfl ?_
        exact sg_lawE l Z a0 hw p0 p1 p2 p3 p4 p5 G1 G3 A B sa sb va vb vv oe kv OS hEL hSA PN m6 m7 m8 m9 (m11 + (1 : Int32)) b kC bs dv X0 V0 h9 hb gb
      · skip
        refine F_icT X0 at_309 (XT.ii_ne_t hc309) (pc' := 318) (by decide) rfl ?_
        exact sg_lawE l Z a0 hw p0 p1 p2 p3 p4 p5 G1 G3 A B sa sb va vb vv oe kv OS hEL hSA PN m6 m7 m8 m9 m11 b kC bs dv X0 V0 h9 hb gb
  · skip
    refine F_icT X0 at_288 (XT.ii_ge_t hc288) (pc' := 318) (by decide) rfl ?_
    exact sg_lawE l Z a0 hw p0 p1 p2 p3 p4 p5 G1 G3 A B sa sb va vb vv oe kv OS hEL hSA PN m6 m7 m8 m9 m11 b kC bs dv X0 V0 h9 hb gb
set_option maxRecDepth 65536 in
set_option maxHeartbeats 40000000 in
theorem sg_lawC (l : Launch) (Z : State) (a0 : Array Value) (hw : ∀ d ∈ tables_1, d.before a0 Z = true) (p0 p1 p2 p3 p4 p5 : Int32) (G1 : Int32) (G3 : Value) (A B sa sb va vb vv oe : Addr) (kv : ClassId) (OS : Sts Z G1 G3) (hEL : EW Z a0 EL) (hSA : ∀ a ∈ Bundle.stringAtoms, a.before a0 Z = true) (PN : Pin Z A B sa sb va vb vv oe kv) {p : Program} {e : Env} {s : State} {m : MethodId} {below : List Frame} {meth : Method} {c : Code} : ∀ {vm : Vm} {T0 : State} (m6 m7 m8 : Int32), Ww l Z ({ frames := 8, cells := 32, slots := 3264, locals := 192 } : Room) code 15 (some .boolean) "com/example/panoptes/panoptes/RoleFromListedNamePinLaw" "law" p e s m #[(.int p0), (.int p1), (.int p2), (.int p3), (.int p4), (.int p5)] below meth c vm T0 0 0 → EndW p e below s Z (fun v _ => v = some (.int 1)) 32 3264 T0 (mkF m 38 #[.val (.int p0), .val (.int p1), .val (.int p2), .val (.int p3), .val (.int p4), .val (.int p5), .val (.int m6), .val (.int m7), .val (.int m8), .unset, .unset, .unset, .unset, .unset, .unset] []) := by
  intro vm T0 m6 m7 m8 X0 
  obtain ⟨c0, hc0⟩ : ∃ z, z = (p2 &&& (255 : Int32)).toUInt32.toUInt16.toUInt32.toInt32 := ⟨_, rfl⟩
  have bc0 : ¬ c0 < 0 ∧ ¬ (255 : Int32) < c0 := by rw [hc0]; exact c8_ok _
  obtain ⟨c1, hc1⟩ : ∃ z, z = ((p2.toUInt32 >>> ((8 : Int32) &&& 31).toUInt32).toInt32 &&& (255 : Int32)).toUInt32.toUInt16.toUInt32.toInt32 := ⟨_, rfl⟩
  have bc1 : ¬ c1 < 0 ∧ ¬ (255 : Int32) < c1 := by rw [hc1]; exact c8_ok _
  obtain ⟨c2, hc2⟩ : ∃ z, z = ((p2.toUInt32 >>> ((16 : Int32) &&& 31).toUInt32).toInt32 &&& (255 : Int32)).toUInt32.toUInt16.toUInt32.toInt32 := ⟨_, rfl⟩
  have bc2 : ¬ c2 < 0 ∧ ¬ (255 : Int32) < c2 := by rw [hc2]; exact c8_ok _
  obtain ⟨c3, hc3⟩ : ∃ z, z = ((p2.toUInt32 >>> ((24 : Int32) &&& 31).toUInt32).toInt32 &&& (255 : Int32)).toUInt32.toUInt16.toUInt32.toInt32 := ⟨_, rfl⟩
  have bc3 : ¬ c3 < 0 ∧ ¬ (255 : Int32) < c3 := by rw [hc3]; exact c8_ok _
  obtain ⟨c4, hc4⟩ : ∃ z, z = (p3 &&& (255 : Int32)).toUInt32.toUInt16.toUInt32.toInt32 := ⟨_, rfl⟩
  have bc4 : ¬ c4 < 0 ∧ ¬ (255 : Int32) < c4 := by rw [hc4]; exact c8_ok _
  obtain ⟨c5, hc5⟩ : ∃ z, z = ((p3.toUInt32 >>> ((8 : Int32) &&& 31).toUInt32).toInt32 &&& (255 : Int32)).toUInt32.toUInt16.toUInt32.toInt32 := ⟨_, rfl⟩
  have bc5 : ¬ c5 < 0 ∧ ¬ (255 : Int32) < c5 := by rw [hc5]; exact c8_ok _
  obtain ⟨c6, hc6⟩ : ∃ z, z = ((p3.toUInt32 >>> ((16 : Int32) &&& 31).toUInt32).toInt32 &&& (255 : Int32)).toUInt32.toUInt16.toUInt32.toInt32 := ⟨_, rfl⟩
  have bc6 : ¬ c6 < 0 ∧ ¬ (255 : Int32) < c6 := by rw [hc6]; exact c8_ok _
  obtain ⟨c7, hc7⟩ : ∃ z, z = ((p3.toUInt32 >>> ((24 : Int32) &&& 31).toUInt32).toInt32 &&& (255 : Int32)).toUInt32.toUInt16.toUInt32.toInt32 := ⟨_, rfl⟩
  have bc7 : ¬ c7 < 0 ∧ ¬ (255 : Int32) < c7 := by rw [hc7]; exact c8_ok _
  obtain ⟨c8, hc8⟩ : ∃ z, z = (p4 &&& (255 : Int32)).toUInt32.toUInt16.toUInt32.toInt32 := ⟨_, rfl⟩
  have bc8 : ¬ c8 < 0 ∧ ¬ (255 : Int32) < c8 := by rw [hc8]; exact c8_ok _
  refine F_iloadN X0 at_38 rfl (pc' := 39) rfl ?_
  refine F_bipush X0 (v := (6 : Int32)) at_39 rfl (pc' := 41) rfl ?_
  refine F_iushr X0 at_41 rfl (pc' := 42) rfl ?_
  refine F_iconst X0 (v := (3 : Int32)) at_42 rfl (pc' := 43) rfl ?_
  refine F_iand X0 at_43 rfl (pc' := 44) rfl ?_
  refine F_istore X0 at_44 (l' := #[.val (.int p0), .val (.int p1), .val (.int p2), .val (.int p3), .val (.int p4), .val (.int p5), .val (.int m6), .val (.int m7), .val (.int m8), .val (.int (((p0).toUInt32 >>> ((6 : Int32) &&& 31).toUInt32).toInt32 &&& (3 : Int32))), .unset, .unset, .unset, .unset, .unset]) rfl (pc' := 46) rfl ?_
  refine F_bipush X0 (v := (9 : Int32)) at_46 rfl (pc' := 48) rfl ?_
  refine F_newarray X0 9 at_48 (hw _ (List.mem_of_getElem? (i := 0) rfl)) (by decide) (by decide) (by decide) (by decide) (by decide) (pc' := 50) rfl ?_
  intro T1 b3 k7 X2 hb4 K5 V6
  have g8 : Z.heap.size ≤ b3 := Nat.le_trans X0.le (Nat.le_of_eq hb4.symm)
  have V9 : Arv Z T1.heap b3 k7 .char (9 : Int32) [(.int (0 : Int32)), (.int (0 : Int32)), (.int (0 : Int32)), (.int (0 : Int32)), (.int (0 : Int32)), (.int (0 : Int32)), (.int (0 : Int32)), (.int (0 : Int32)), (.int (0 : Int32))] (.int (0 : Int32)) := V6.pad (pad_rep [] (.int (0 : Int32)) 9)
  refine F_astore X2 at_50 rfl (l' := #[.val (.int p0), .val (.int p1), .val (.int p2), .val (.int p3), .val (.int p4), .val (.int p5), .val (.int m6), .val (.int m7), .val (.int m8), .val (.int (((p0).toUInt32 >>> ((6 : Int32) &&& 31).toUInt32).toInt32 &&& (3 : Int32))), .val (.ref b3), .unset, .unset, .unset, .unset]) rfl (pc' := 52) rfl ?_
  refine F_aload X2 at_52 rfl rfl (pc' := 54) rfl ?_
  refine F_iconst X2 (v := (0 : Int32)) at_54 rfl (pc' := 55) rfl ?_
  refine F_iloadN X2 at_55 rfl (pc' := 56) rfl ?_
  refine F_sipush X2 (v := (255 : Int32)) at_56 rfl (pc' := 59) rfl ?_
  refine F_iand X2 at_59 rfl (pc' := 60) rfl ?_
  refine F_i2c X2 (v := c0) at_60 hc0.symm (pc' := 61) rfl ?_
  refine F_castore X2 0 (y := c0) at_61 (c8_nar bc0) V9 ⟨by decide, by decide⟩ rfl (Nat.le_of_ble_eq_true rfl) g8 (pc' := 62) rfl ?_
  intro T10 X11 K12 V13
  have V14 : Arv Z T10.heap b3 k7 .char (9 : Int32) [(.int c0), (.int (0 : Int32)), (.int (0 : Int32)), (.int (0 : Int32)), (.int (0 : Int32)), (.int (0 : Int32)), (.int (0 : Int32)), (.int (0 : Int32)), (.int (0 : Int32))] (.int (0 : Int32)) := V13
  refine F_aload X11 at_62 rfl rfl (pc' := 64) rfl ?_
  refine F_iconst X11 (v := (1 : Int32)) at_64 rfl (pc' := 65) rfl ?_
  refine F_iloadN X11 at_65 rfl (pc' := 66) rfl ?_
  refine F_bipush X11 (v := (8 : Int32)) at_66 rfl (pc' := 68) rfl ?_
  refine F_iushr X11 at_68 rfl (pc' := 69) rfl ?_
  refine F_sipush X11 (v := (255 : Int32)) at_69 rfl (pc' := 72) rfl ?_
  refine F_iand X11 at_72 rfl (pc' := 73) rfl ?_
  refine F_i2c X11 (v := c1) at_73 hc1.symm (pc' := 74) rfl ?_
  refine F_castore X11 1 (y := c1) at_74 (c8_nar bc1) V14 ⟨by decide, by decide⟩ rfl (Nat.le_of_ble_eq_true rfl) g8 (pc' := 75) rfl ?_
  intro T15 X16 K17 V18
  have V19 : Arv Z T15.heap b3 k7 .char (9 : Int32) [(.int c0), (.int c1), (.int (0 : Int32)), (.int (0 : Int32)), (.int (0 : Int32)), (.int (0 : Int32)), (.int (0 : Int32)), (.int (0 : Int32)), (.int (0 : Int32))] (.int (0 : Int32)) := V18
  refine F_aload X16 at_75 rfl rfl (pc' := 77) rfl ?_
  refine F_iconst X16 (v := (2 : Int32)) at_77 rfl (pc' := 78) rfl ?_
  refine F_iloadN X16 at_78 rfl (pc' := 79) rfl ?_
  refine F_bipush X16 (v := (16 : Int32)) at_79 rfl (pc' := 81) rfl ?_
  refine F_iushr X16 at_81 rfl (pc' := 82) rfl ?_
  refine F_sipush X16 (v := (255 : Int32)) at_82 rfl (pc' := 85) rfl ?_
  refine F_iand X16 at_85 rfl (pc' := 86) rfl ?_
  refine F_i2c X16 (v := c2) at_86 hc2.symm (pc' := 87) rfl ?_
  refine F_castore X16 2 (y := c2) at_87 (c8_nar bc2) V19 ⟨by decide, by decide⟩ rfl (Nat.le_of_ble_eq_true rfl) g8 (pc' := 88) rfl ?_
  intro T20 X21 K22 V23
  have V24 : Arv Z T20.heap b3 k7 .char (9 : Int32) [(.int c0), (.int c1), (.int c2), (.int (0 : Int32)), (.int (0 : Int32)), (.int (0 : Int32)), (.int (0 : Int32)), (.int (0 : Int32)), (.int (0 : Int32))] (.int (0 : Int32)) := V23
  refine F_aload X21 at_88 rfl rfl (pc' := 90) rfl ?_
  refine F_iconst X21 (v := (3 : Int32)) at_90 rfl (pc' := 91) rfl ?_
  refine F_iloadN X21 at_91 rfl (pc' := 92) rfl ?_
  refine F_bipush X21 (v := (24 : Int32)) at_92 rfl (pc' := 94) rfl ?_
  refine F_iushr X21 at_94 rfl (pc' := 95) rfl ?_
  refine F_sipush X21 (v := (255 : Int32)) at_95 rfl (pc' := 98) rfl ?_
  refine F_iand X21 at_98 rfl (pc' := 99) rfl ?_
  refine F_i2c X21 (v := c3) at_99 hc3.symm (pc' := 100) rfl ?_
  refine F_castore X21 3 (y := c3) at_100 (c8_nar bc3) V24 ⟨by decide, by decide⟩ rfl (Nat.le_of_ble_eq_true rfl) g8 (pc' := 101) rfl ?_
  intro T25 X26 K27 V28
  have V29 : Arv Z T25.heap b3 k7 .char (9 : Int32) [(.int c0), (.int c1), (.int c2), (.int c3), (.int (0 : Int32)), (.int (0 : Int32)), (.int (0 : Int32)), (.int (0 : Int32)), (.int (0 : Int32))] (.int (0 : Int32)) := V28
  refine F_aload X26 at_101 rfl rfl (pc' := 103) rfl ?_
  refine F_iconst X26 (v := (4 : Int32)) at_103 rfl (pc' := 104) rfl ?_
  refine F_iloadN X26 at_104 rfl (pc' := 105) rfl ?_
  refine F_sipush X26 (v := (255 : Int32)) at_105 rfl (pc' := 108) rfl ?_
  refine F_iand X26 at_108 rfl (pc' := 109) rfl ?_
  refine F_i2c X26 (v := c4) at_109 hc4.symm (pc' := 110) rfl ?_
  refine F_castore X26 4 (y := c4) at_110 (c8_nar bc4) V29 ⟨by decide, by decide⟩ rfl (Nat.le_of_ble_eq_true rfl) g8 (pc' := 111) rfl ?_
  intro T30 X31 K32 V33
  have V34 : Arv Z T30.heap b3 k7 .char (9 : Int32) [(.int c0), (.int c1), (.int c2), (.int c3), (.int c4), (.int (0 : Int32)), (.int (0 : Int32)), (.int (0 : Int32)), (.int (0 : Int32))] (.int (0 : Int32)) := V33
  refine F_aload X31 at_111 rfl rfl (pc' := 113) rfl ?_
  refine F_iconst X31 (v := (5 : Int32)) at_113 rfl (pc' := 114) rfl ?_
  refine F_iloadN X31 at_114 rfl (pc' := 115) rfl ?_
  refine F_bipush X31 (v := (8 : Int32)) at_115 rfl (pc' := 117) rfl ?_
  refine F_iushr X31 at_117 rfl (pc' := 118) rfl ?_
  refine F_sipush X31 (v := (255 : Int32)) at_118 rfl (pc' := 121) rfl ?_
  refine F_iand X31 at_121 rfl (pc' := 122) rfl ?_
  refine F_i2c X31 (v := c5) at_122 hc5.symm (pc' := 123) rfl ?_
  refine F_castore X31 5 (y := c5) at_123 (c8_nar bc5) V34 ⟨by decide, by decide⟩ rfl (Nat.le_of_ble_eq_true rfl) g8 (pc' := 124) rfl ?_
  intro T35 X36 K37 V38
  have V39 : Arv Z T35.heap b3 k7 .char (9 : Int32) [(.int c0), (.int c1), (.int c2), (.int c3), (.int c4), (.int c5), (.int (0 : Int32)), (.int (0 : Int32)), (.int (0 : Int32))] (.int (0 : Int32)) := V38
  refine F_aload X36 at_124 rfl rfl (pc' := 126) rfl ?_
  refine F_bipush X36 (v := (6 : Int32)) at_126 rfl (pc' := 128) rfl ?_
  refine F_iloadN X36 at_128 rfl (pc' := 129) rfl ?_
  refine F_bipush X36 (v := (16 : Int32)) at_129 rfl (pc' := 131) rfl ?_
  refine F_iushr X36 at_131 rfl (pc' := 132) rfl ?_
  refine F_sipush X36 (v := (255 : Int32)) at_132 rfl (pc' := 135) rfl ?_
  refine F_iand X36 at_135 rfl (pc' := 136) rfl ?_
  refine F_i2c X36 (v := c6) at_136 hc6.symm (pc' := 137) rfl ?_
  refine F_castore X36 6 (y := c6) at_137 (c8_nar bc6) V39 ⟨by decide, by decide⟩ rfl (Nat.le_of_ble_eq_true rfl) g8 (pc' := 138) rfl ?_
  intro T40 X41 K42 V43
  have V44 : Arv Z T40.heap b3 k7 .char (9 : Int32) [(.int c0), (.int c1), (.int c2), (.int c3), (.int c4), (.int c5), (.int c6), (.int (0 : Int32)), (.int (0 : Int32))] (.int (0 : Int32)) := V43
  refine F_aload X41 at_138 rfl rfl (pc' := 140) rfl ?_
  refine F_bipush X41 (v := (7 : Int32)) at_140 rfl (pc' := 142) rfl ?_
  refine F_iloadN X41 at_142 rfl (pc' := 143) rfl ?_
  refine F_bipush X41 (v := (24 : Int32)) at_143 rfl (pc' := 145) rfl ?_
  refine F_iushr X41 at_145 rfl (pc' := 146) rfl ?_
  refine F_sipush X41 (v := (255 : Int32)) at_146 rfl (pc' := 149) rfl ?_
  refine F_iand X41 at_149 rfl (pc' := 150) rfl ?_
  refine F_i2c X41 (v := c7) at_150 hc7.symm (pc' := 151) rfl ?_
  refine F_castore X41 7 (y := c7) at_151 (c8_nar bc7) V44 ⟨by decide, by decide⟩ rfl (Nat.le_of_ble_eq_true rfl) g8 (pc' := 152) rfl ?_
  intro T45 X46 K47 V48
  have V49 : Arv Z T45.heap b3 k7 .char (9 : Int32) [(.int c0), (.int c1), (.int c2), (.int c3), (.int c4), (.int c5), (.int c6), (.int c7), (.int (0 : Int32))] (.int (0 : Int32)) := V48
  refine F_aload X46 at_152 rfl rfl (pc' := 154) rfl ?_
  refine F_bipush X46 (v := (8 : Int32)) at_154 rfl (pc' := 156) rfl ?_
  refine F_iload X46 at_156 rfl (pc' := 158) rfl ?_
  refine F_sipush X46 (v := (255 : Int32)) at_158 rfl (pc' := 161) rfl ?_
  refine F_iand X46 at_161 rfl (pc' := 162) rfl ?_
  refine F_i2c X46 (v := c8) at_162 hc8.symm (pc' := 163) rfl ?_
  refine F_castore X46 8 (y := c8) at_163 (c8_nar bc8) V49 ⟨by decide, by decide⟩ rfl (Nat.le_of_ble_eq_true rfl) g8 (pc' := 164) rfl ?_
  intro T50 X51 K52 V53
  have V54 : Arv Z T50.heap b3 k7 .char (9 : Int32) [(.int c0), (.int c1), (.int c2), (.int c3), (.int c4), (.int c5), (.int c6), (.int c7), (.int c8)] (.int (0 : Int32)) := V53
  refine F_iload X51 at_164 rfl (pc' := 166) rfl ?_
  by_cases h166 : m6 = 0
  · skip
    refine F_ifF X51 at_166 (XT.i0_ne_f h166) (pc' := 169) rfl ?_
    refine F_aload X51 at_169 rfl rfl (pc' := 171) rfl ?_
    refine F_iconst X51 (v := (0 : Int32)) at_171 rfl (pc' := 172) rfl ?_
    refine F_bipush X51 (v := (112 : Int32)) at_172 rfl (pc' := 174) rfl ?_
    refine F_castore X51 0 (y := (112 : Int32)) at_174 (by decide) V54 ⟨by decide, by decide⟩ rfl (Nat.le_of_ble_eq_true rfl) g8 (pc' := 175) rfl ?_
    intro T55 X56 K57 V58
    have V59 : Arv Z T55.heap b3 k7 .char (9 : Int32) [(.int (112 : Int32)), (.int c1), (.int c2), (.int c3), (.int c4), (.int c5), (.int c6), (.int c7), (.int c8)] (.int (0 : Int32)) := V58
    refine F_aload X56 at_175 rfl rfl (pc' := 177) rfl ?_
    refine F_iconst X56 (v := (1 : Int32)) at_177 rfl (pc' := 178) rfl ?_
    refine F_bipush X56 (v := (114 : Int32)) at_178 rfl (pc' := 180) rfl ?_
    refine F_castore X56 1 (y := (114 : Int32)) at_180 (by decide) V59 ⟨by decide, by decide⟩ rfl (Nat.le_of_ble_eq_true rfl) g8 (pc' := 181) rfl ?_
    intro T60 X61 K62 V63
    have V64 : Arv Z T60.heap b3 k7 .char (9 : Int32) [(.int (112 : Int32)), (.int (114 : Int32)), (.int c2), (.int c3), (.int c4), (.int c5), (.int c6), (.int c7), (.int c8)] (.int (0 : Int32)) := V63
    refine F_aload X61 at_181 rfl rfl (pc' := 183) rfl ?_
    refine F_iconst X61 (v := (2 : Int32)) at_183 rfl (pc' := 184) rfl ?_
    refine F_bipush X61 (v := (111 : Int32)) at_184 rfl (pc' := 186) rfl ?_
    refine F_castore X61 2 (y := (111 : Int32)) at_186 (by decide) V64 ⟨by decide, by decide⟩ rfl (Nat.le_of_ble_eq_true rfl) g8 (pc' := 187) rfl ?_
    intro T65 X66 K67 V68
    have V69 : Arv Z T65.heap b3 k7 .char (9 : Int32) [(.int (112 : Int32)), (.int (114 : Int32)), (.int (111 : Int32)), (.int c3), (.int c4), (.int c5), (.int c6), (.int c7), (.int c8)] (.int (0 : Int32)) := V68
    refine F_aload X66 at_187 rfl rfl (pc' := 189) rfl ?_
    refine F_iconst X66 (v := (3 : Int32)) at_189 rfl (pc' := 190) rfl ?_
    refine F_bipush X66 (v := (100 : Int32)) at_190 rfl (pc' := 192) rfl ?_
    refine F_castore X66 3 (y := (100 : Int32)) at_192 (by decide) V69 ⟨by decide, by decide⟩ rfl (Nat.le_of_ble_eq_true rfl) g8 (pc' := 193) rfl ?_
    intro T70 X71 K72 V73
    have V74 : Arv Z T70.heap b3 k7 .char (9 : Int32) [(.int (112 : Int32)), (.int (114 : Int32)), (.int (111 : Int32)), (.int (100 : Int32)), (.int c4), (.int c5), (.int c6), (.int c7), (.int c8)] (.int (0 : Int32)) := V73
    refine F_aload X71 at_193 rfl rfl (pc' := 195) rfl ?_
    refine F_iconst X71 (v := (4 : Int32)) at_195 rfl (pc' := 196) rfl ?_
    refine F_bipush X71 (v := (117 : Int32)) at_196 rfl (pc' := 198) rfl ?_
    refine F_castore X71 4 (y := (117 : Int32)) at_198 (by decide) V74 ⟨by decide, by decide⟩ rfl (Nat.le_of_ble_eq_true rfl) g8 (pc' := 199) rfl ?_
    intro T75 X76 K77 V78
    have V79 : Arv Z T75.heap b3 k7 .char (9 : Int32) [(.int (112 : Int32)), (.int (114 : Int32)), (.int (111 : Int32)), (.int (100 : Int32)), (.int (117 : Int32)), (.int c5), (.int c6), (.int c7), (.int c8)] (.int (0 : Int32)) := V78
    refine F_aload X76 at_199 rfl rfl (pc' := 201) rfl ?_
    refine F_iconst X76 (v := (5 : Int32)) at_201 rfl (pc' := 202) rfl ?_
    refine F_bipush X76 (v := (99 : Int32)) at_202 rfl (pc' := 204) rfl ?_
    refine F_castore X76 5 (y := (99 : Int32)) at_204 (by decide) V79 ⟨by decide, by decide⟩ rfl (Nat.le_of_ble_eq_true rfl) g8 (pc' := 205) rfl ?_
    intro T80 X81 K82 V83
    have V84 : Arv Z T80.heap b3 k7 .char (9 : Int32) [(.int (112 : Int32)), (.int (114 : Int32)), (.int (111 : Int32)), (.int (100 : Int32)), (.int (117 : Int32)), (.int (99 : Int32)), (.int c6), (.int c7), (.int c8)] (.int (0 : Int32)) := V83
    refine F_aload X81 at_205 rfl rfl (pc' := 207) rfl ?_
    refine F_bipush X81 (v := (6 : Int32)) at_207 rfl (pc' := 209) rfl ?_
    refine F_bipush X81 (v := (101 : Int32)) at_209 rfl (pc' := 211) rfl ?_
    refine F_castore X81 6 (y := (101 : Int32)) at_211 (by decide) V84 ⟨by decide, by decide⟩ rfl (Nat.le_of_ble_eq_true rfl) g8 (pc' := 212) rfl ?_
    intro T85 X86 K87 V88
    have V89 : Arv Z T85.heap b3 k7 .char (9 : Int32) [(.int (112 : Int32)), (.int (114 : Int32)), (.int (111 : Int32)), (.int (100 : Int32)), (.int (117 : Int32)), (.int (99 : Int32)), (.int (101 : Int32)), (.int c7), (.int c8)] (.int (0 : Int32)) := V88
    refine F_aload X86 at_212 rfl rfl (pc' := 214) rfl ?_
    refine F_bipush X86 (v := (7 : Int32)) at_214 rfl (pc' := 216) rfl ?_
    refine F_bipush X86 (v := (114 : Int32)) at_216 rfl (pc' := 218) rfl ?_
    refine F_castore X86 7 (y := (114 : Int32)) at_218 (by decide) V89 ⟨by decide, by decide⟩ rfl (Nat.le_of_ble_eq_true rfl) g8 (pc' := 219) rfl ?_
    intro T90 X91 K92 V93
    have V94 : Arv Z T90.heap b3 k7 .char (9 : Int32) [(.int (112 : Int32)), (.int (114 : Int32)), (.int (111 : Int32)), (.int (100 : Int32)), (.int (117 : Int32)), (.int (99 : Int32)), (.int (101 : Int32)), (.int (114 : Int32)), (.int c8)] (.int (0 : Int32)) := V93
    refine F_bipush X91 (v := (8 : Int32)) at_219 rfl (pc' := 221) rfl ?_
    refine F_istore X91 at_221 (l' := #[.val (.int p0), .val (.int p1), .val (.int p2), .val (.int p3), .val (.int p4), .val (.int p5), .val (.int m6), .val (.int m7), .val (.int m8), .val (.int (((p0).toUInt32 >>> ((6 : Int32) &&& 31).toUInt32).toInt32 &&& (3 : Int32))), .val (.ref b3), .val (.int (8 : Int32)), .unset, .unset, .unset]) rfl (pc' := 223) rfl ?_
    refine F_goto X91 at_223 (pc' := 285) (by decide) rfl ?_
    exact sg_lawD l Z a0 hw p0 p1 p2 p3 p4 p5 G1 G3 A B sa sb va vb vv oe kv OS hEL hSA PN m6 m7 m8 (((p0).toUInt32 >>> ((6 : Int32) &&& 31).toUInt32).toInt32 &&& (3 : Int32)) (8 : Int32) b3 k7 [(112 : Int32), (114 : Int32), (111 : Int32), (100 : Int32), (117 : Int32), (99 : Int32), (101 : Int32), (114 : Int32), c8] (.int (0 : Int32)) (X91.more (Nat.le_of_ble_eq_true rfl) (Nat.le_of_ble_eq_true rfl)) V94 rfl (allC (c8_lit rfl) (allC (c8_lit rfl) (allC (c8_lit rfl) (allC (c8_lit rfl) (allC (c8_lit rfl) (allC (c8_lit rfl) (allC (c8_lit rfl) (allC (c8_lit rfl) (allC bc8 allN))))))))) g8
  · skip
    refine F_ifT X51 at_166 (XT.i0_ne_t h166) (pc' := 226) (by decide) rfl ?_
    refine F_iload X51 at_226 rfl (pc' := 228) rfl ?_
    refine F_iconst X51 (v := (1 : Int32)) at_228 rfl (pc' := 229) rfl ?_
    by_cases h229 : m6 = (1 : Int32)
    · skip
      refine F_icF X51 at_229 (XT.ii_ne_f h229) (pc' := 232) rfl ?_
      refine F_aload X51 at_232 rfl rfl (pc' := 234) rfl ?_
      refine F_iconst X51 (v := (0 : Int32)) at_234 rfl (pc' := 235) rfl ?_
      refine F_bipush X51 (v := (119 : Int32)) at_235 rfl (pc' := 237) rfl ?_
      refine F_castore X51 0 (y := (119 : Int32)) at_237 (by decide) V54 ⟨by decide, by decide⟩ rfl (Nat.le_of_ble_eq_true rfl) g8 (pc' := 238) rfl ?_
      intro T95 X96 K97 V98
      have V99 : Arv Z T95.heap b3 k7 .char (9 : Int32) [(.int (119 : Int32)), (.int c1), (.int c2), (.int c3), (.int c4), (.int c5), (.int c6), (.int c7), (.int c8)] (.int (0 : Int32)) := V98
      refine F_aload X96 at_238 rfl rfl (pc' := 240) rfl ?_
      refine F_iconst X96 (v := (1 : Int32)) at_240 rfl (pc' := 241) rfl ?_
      refine F_bipush X96 (v := (111 : Int32)) at_241 rfl (pc' := 243) rfl ?_
      refine F_castore X96 1 (y := (111 : Int32)) at_243 (by decide) V99 ⟨by decide, by decide⟩ rfl (Nat.le_of_ble_eq_true rfl) g8 (pc' := 244) rfl ?_
      intro T100 X101 K102 V103
      have V104 : Arv Z T100.heap b3 k7 .char (9 : Int32) [(.int (119 : Int32)), (.int (111 : Int32)), (.int c2), (.int c3), (.int c4), (.int c5), (.int c6), (.int c7), (.int c8)] (.int (0 : Int32)) := V103
      refine F_aload X101 at_244 rfl rfl (pc' := 246) rfl ?_
      refine F_iconst X101 (v := (2 : Int32)) at_246 rfl (pc' := 247) rfl ?_
      refine F_bipush X101 (v := (114 : Int32)) at_247 rfl (pc' := 249) rfl ?_
      refine F_castore X101 2 (y := (114 : Int32)) at_249 (by decide) V104 ⟨by decide, by decide⟩ rfl (Nat.le_of_ble_eq_true rfl) g8 (pc' := 250) rfl ?_
      intro T105 X106 K107 V108
      have V109 : Arv Z T105.heap b3 k7 .char (9 : Int32) [(.int (119 : Int32)), (.int (111 : Int32)), (.int (114 : Int32)), (.int c3), (.int c4), (.int c5), (.int c6), (.int c7), (.int c8)] (.int (0 : Int32)) := V108
      refine F_aload X106 at_250 rfl rfl (pc' := 252) rfl ?_
      refine F_iconst X106 (v := (3 : Int32)) at_252 rfl (pc' := 253) rfl ?_
      refine F_bipush X106 (v := (107 : Int32)) at_253 rfl (pc' := 255) rfl ?_
      refine F_castore X106 3 (y := (107 : Int32)) at_255 (by decide) V109 ⟨by decide, by decide⟩ rfl (Nat.le_of_ble_eq_true rfl) g8 (pc' := 256) rfl ?_
      intro T110 X111 K112 V113
      have V114 : Arv Z T110.heap b3 k7 .char (9 : Int32) [(.int (119 : Int32)), (.int (111 : Int32)), (.int (114 : Int32)), (.int (107 : Int32)), (.int c4), (.int c5), (.int c6), (.int c7), (.int c8)] (.int (0 : Int32)) := V113
      refine F_aload X111 at_256 rfl rfl (pc' := 258) rfl ?_
      refine F_iconst X111 (v := (4 : Int32)) at_258 rfl (pc' := 259) rfl ?_
      refine F_bipush X111 (v := (101 : Int32)) at_259 rfl (pc' := 261) rfl ?_
      refine F_castore X111 4 (y := (101 : Int32)) at_261 (by decide) V114 ⟨by decide, by decide⟩ rfl (Nat.le_of_ble_eq_true rfl) g8 (pc' := 262) rfl ?_
      intro T115 X116 K117 V118
      have V119 : Arv Z T115.heap b3 k7 .char (9 : Int32) [(.int (119 : Int32)), (.int (111 : Int32)), (.int (114 : Int32)), (.int (107 : Int32)), (.int (101 : Int32)), (.int c5), (.int c6), (.int c7), (.int c8)] (.int (0 : Int32)) := V118
      refine F_aload X116 at_262 rfl rfl (pc' := 264) rfl ?_
      refine F_iconst X116 (v := (5 : Int32)) at_264 rfl (pc' := 265) rfl ?_
      refine F_bipush X116 (v := (114 : Int32)) at_265 rfl (pc' := 267) rfl ?_
      refine F_castore X116 5 (y := (114 : Int32)) at_267 (by decide) V119 ⟨by decide, by decide⟩ rfl (Nat.le_of_ble_eq_true rfl) g8 (pc' := 268) rfl ?_
      intro T120 X121 K122 V123
      have V124 : Arv Z T120.heap b3 k7 .char (9 : Int32) [(.int (119 : Int32)), (.int (111 : Int32)), (.int (114 : Int32)), (.int (107 : Int32)), (.int (101 : Int32)), (.int (114 : Int32)), (.int c6), (.int c7), (.int c8)] (.int (0 : Int32)) := V123
      refine F_bipush X121 (v := (6 : Int32)) at_268 rfl (pc' := 270) rfl ?_
      refine F_istore X121 at_270 (l' := #[.val (.int p0), .val (.int p1), .val (.int p2), .val (.int p3), .val (.int p4), .val (.int p5), .val (.int m6), .val (.int m7), .val (.int m8), .val (.int (((p0).toUInt32 >>> ((6 : Int32) &&& 31).toUInt32).toInt32 &&& (3 : Int32))), .val (.ref b3), .val (.int (6 : Int32)), .unset, .unset, .unset]) rfl (pc' := 272) rfl ?_
      refine F_goto X121 at_272 (pc' := 285) (by decide) rfl ?_
      exact sg_lawD l Z a0 hw p0 p1 p2 p3 p4 p5 G1 G3 A B sa sb va vb vv oe kv OS hEL hSA PN m6 m7 m8 (((p0).toUInt32 >>> ((6 : Int32) &&& 31).toUInt32).toInt32 &&& (3 : Int32)) (6 : Int32) b3 k7 [(119 : Int32), (111 : Int32), (114 : Int32), (107 : Int32), (101 : Int32), (114 : Int32), c6, c7, c8] (.int (0 : Int32)) (X121.more (Nat.le_of_ble_eq_true rfl) (Nat.le_of_ble_eq_true rfl)) V124 rfl (allC (c8_lit rfl) (allC (c8_lit rfl) (allC (c8_lit rfl) (allC (c8_lit rfl) (allC (c8_lit rfl) (allC (c8_lit rfl) (allC bc6 (allC bc7 (allC bc8 allN))))))))) g8
    · skip
      refine F_icT X51 at_229 (XT.ii_ne_t h229) (pc' := 275) (by decide) rfl ?_
      refine F_iload X51 at_275 rfl (pc' := 277) rfl ?_
      refine F_bipush X51 (v := (8 : Int32)) at_277 rfl (pc' := 279) rfl ?_
      refine F_iushr X51 at_279 rfl (pc' := 280) rfl ?_
      refine F_bipush X51 (v := (10 : Int32)) at_280 rfl (pc' := 282) rfl ?_
      refine F_irem X51 at_282 (by decide) rfl (pc' := 283) rfl ?_
      refine F_istore X51 at_283 (l' := #[.val (.int p0), .val (.int p1), .val (.int p2), .val (.int p3), .val (.int p4), .val (.int p5), .val (.int m6), .val (.int m7), .val (.int m8), .val (.int (((p0).toUInt32 >>> ((6 : Int32) &&& 31).toUInt32).toInt32 &&& (3 : Int32))), .val (.ref b3), .val (.int (((p4).toUInt32 >>> ((8 : Int32) &&& 31).toUInt32).toInt32 % (10 : Int32))), .unset, .unset, .unset]) rfl (pc' := 285) rfl ?_
      exact sg_lawD l Z a0 hw p0 p1 p2 p3 p4 p5 G1 G3 A B sa sb va vb vv oe kv OS hEL hSA PN m6 m7 m8 (((p0).toUInt32 >>> ((6 : Int32) &&& 31).toUInt32).toInt32 &&& (3 : Int32)) (((p4).toUInt32 >>> ((8 : Int32) &&& 31).toUInt32).toInt32 % (10 : Int32)) b3 k7 [c0, c1, c2, c3, c4, c5, c6, c7, c8] (.int (0 : Int32)) (X51.more (Nat.le_of_ble_eq_true rfl) (Nat.le_of_ble_eq_true rfl)) V54 rfl (allC bc0 (allC bc1 (allC bc2 (allC bc3 (allC bc4 (allC bc5 (allC bc6 (allC bc7 (allC bc8 allN))))))))) g8
set_option maxRecDepth 65536 in
set_option maxHeartbeats 40000000 in
theorem sg_lawB (l : Launch) (Z : State) (a0 : Array Value) (hw : ∀ d ∈ tables_1, d.before a0 Z = true) (p0 p1 p2 p3 p4 p5 : Int32) (G1 : Int32) (G3 : Value) (A B sa sb va vb vv oe : Addr) (kv : ClassId) (OS : Sts Z G1 G3) (hEL : EW Z a0 EL) (hSA : ∀ a ∈ Bundle.stringAtoms, a.before a0 Z = true) (PN : Pin Z A B sa sb va vb vv oe kv) {p : Program} {e : Env} {s : State} {m : MethodId} {below : List Frame} {meth : Method} {c : Code} : ∀ {vm : Vm} {T0 : State} (m6 m7 : Int32), Ww l Z ({ frames := 8, cells := 32, slots := 3264, locals := 192 } : Room) code 15 (some .boolean) "com/example/panoptes/panoptes/RoleFromListedNamePinLaw" "law" p e s m #[(.int p0), (.int p1), (.int p2), (.int p3), (.int p4), (.int p5)] below meth c vm T0 0 0 → EndW p e below s Z (fun v _ => v = some (.int 1)) 32 3264 T0 (mkF m 23 #[.val (.int p0), .val (.int p1), .val (.int p2), .val (.int p3), .val (.int p4), .val (.int p5), .val (.int m6), .val (.int m7), .unset, .unset, .unset, .unset, .unset, .unset, .unset] []) := by
  intro vm T0 m6 m7 X0 
  refine F_iloadN X0 at_23 rfl (pc' := 24) rfl ?_
  refine F_iconst X0 (v := (5 : Int32)) at_24 rfl (pc' := 25) rfl ?_
  refine F_iushr X0 at_25 rfl (pc' := 26) rfl ?_
  refine F_iconst X0 (v := (1 : Int32)) at_26 rfl (pc' := 27) rfl ?_
  refine F_iand X0 at_27 rfl (pc' := 28) rfl ?_
  by_cases h28 : (((p0).toUInt32 >>> ((5 : Int32) &&& 31).toUInt32).toInt32 &&& (1 : Int32)) = 0
  · skip
    refine F_ifT X0 at_28 (XT.i0_eq_t h28) (pc' := 35) (by decide) rfl ?_
    refine F_iconst X0 (v := (0 : Int32)) at_35 rfl (pc' := 36) rfl ?_
    refine F_istore X0 at_36 (l' := #[.val (.int p0), .val (.int p1), .val (.int p2), .val (.int p3), .val (.int p4), .val (.int p5), .val (.int m6), .val (.int m7), .val (.int (0 : Int32)), .unset, .unset, .unset, .unset, .unset, .unset]) rfl (pc' := 38) rfl ?_
    exact sg_lawC l Z a0 hw p0 p1 p2 p3 p4 p5 G1 G3 A B sa sb va vb vv oe kv OS hEL hSA PN m6 m7 (0 : Int32) X0
  · skip
    refine F_ifF X0 at_28 (XT.i0_eq_f h28) (pc' := 31) rfl ?_
    refine F_iconst X0 (v := (1 : Int32)) at_31 rfl (pc' := 32) rfl ?_
    refine F_goto X0 at_32 (pc' := 36) (by decide) rfl ?_
    refine F_istore X0 at_36 (l' := #[.val (.int p0), .val (.int p1), .val (.int p2), .val (.int p3), .val (.int p4), .val (.int p5), .val (.int m6), .val (.int m7), .val (.int (1 : Int32)), .unset, .unset, .unset, .unset, .unset, .unset]) rfl (pc' := 38) rfl ?_
    exact sg_lawC l Z a0 hw p0 p1 p2 p3 p4 p5 G1 G3 A B sa sb va vb vv oe kv OS hEL hSA PN m6 m7 (1 : Int32) X0
set_option maxRecDepth 65536 in
set_option maxHeartbeats 40000000 in
theorem ct_law (l : Launch) (Z : State) (a0 : Array Value) (hw : ∀ d ∈ tables_1, d.before a0 Z = true) (p0 p1 p2 p3 p4 p5 : Int32) (G1 : Int32) (G3 : Value) (A B sa sb va vb vv oe : Addr) (kv : ClassId) (O : Ext Z.heap Z.heap) (OS : Sts Z G1 G3) (hEL : EW Z a0 EL) (hSA : ∀ a ∈ Bundle.stringAtoms, a.before a0 Z = true) (PN : Pin Z A B sa sb va vb vv oe kv) : CtW l Z x code maxLocals ret room_1 #[(.int p0), (.int p1), (.int p2), (.int p3), (.int p4), (.int p5)] Z.heap (fun v _ => v = some (.int 1)) := by
  show CtW l Z (⟨"com/example/panoptes/panoptes/RoleFromListedNamePinLaw", "law", "(IIIIII)Z"⟩ : MethodName) code 15 (some .boolean) ({ frames := 8, cells := 32, slots := 3264, locals := 192 } : Room) _ _ _
  refine CtW.of_body (Ls := #[.val (.int p0), .val (.int p1), .val (.int p2), .val (.int p3), .val (.int p4), .val (.int p5), .unset, .unset, .unset, .unset, .unset, .unset, .unset, .unset, .unset]) (by decide +kernel) O hEL (fun m => by first | rfl | (simp [entryFrame, mkF, argsToLocals, Value.category]; done)) ?_
  intro p e s m below meth c T0 X0 e0
  refine F_iloadN X0 at_0 rfl (pc' := 1) rfl ?_
  refine F_iconst X0 (v := (3 : Int32)) at_1 rfl (pc' := 2) rfl ?_
  refine F_iand X0 at_2 rfl (pc' := 3) rfl ?_
  refine F_istore X0 at_3 (l' := #[.val (.int p0), .val (.int p1), .val (.int p2), .val (.int p3), .val (.int p4), .val (.int p5), .val (.int (p0 &&& (3 : Int32))), .unset, .unset, .unset, .unset, .unset, .unset, .unset, .unset]) rfl (pc' := 5) rfl ?_
  refine F_iloadN X0 at_5 rfl (pc' := 6) rfl ?_
  refine F_iconst X0 (v := (2 : Int32)) at_6 rfl (pc' := 7) rfl ?_
  refine F_iushr X0 at_7 rfl (pc' := 8) rfl ?_
  refine F_bipush X0 (v := (7 : Int32)) at_8 rfl (pc' := 10) rfl ?_
  refine F_iand X0 at_10 rfl (pc' := 11) rfl ?_
  refine F_bipush X0 (v := (7 : Int32)) at_11 rfl (pc' := 13) rfl ?_
  by_cases h13 : (((p0).toUInt32 >>> ((2 : Int32) &&& 31).toUInt32).toInt32 &&& (7 : Int32)) = (7 : Int32)
  · skip
    refine F_icF X0 at_13 (XT.ii_ne_f h13) (pc' := 16) rfl ?_
    refine F_iconst X0 (v := (1 : Int32)) at_16 rfl (pc' := 17) rfl ?_
    refine F_goto X0 at_17 (pc' := 21) (by decide) rfl ?_
    refine F_istore X0 at_21 (l' := #[.val (.int p0), .val (.int p1), .val (.int p2), .val (.int p3), .val (.int p4), .val (.int p5), .val (.int (p0 &&& (3 : Int32))), .val (.int (1 : Int32)), .unset, .unset, .unset, .unset, .unset, .unset, .unset]) rfl (pc' := 23) rfl ?_
    exact sg_lawB l Z a0 hw p0 p1 p2 p3 p4 p5 G1 G3 A B sa sb va vb vv oe kv OS hEL hSA PN (p0 &&& (3 : Int32)) (1 : Int32) X0
  · skip
    refine F_icT X0 at_13 (XT.ii_ne_t h13) (pc' := 20) (by decide) rfl ?_
    refine F_iconst X0 (v := (0 : Int32)) at_20 rfl (pc' := 21) rfl ?_
    refine F_istore X0 at_21 (l' := #[.val (.int p0), .val (.int p1), .val (.int p2), .val (.int p3), .val (.int p4), .val (.int p5), .val (.int (p0 &&& (3 : Int32))), .val (.int (0 : Int32)), .unset, .unset, .unset, .unset, .unset, .unset, .unset]) rfl (pc' := 23) rfl ?_
    exact sg_lawB l Z a0 hw p0 p1 p2 p3 p4 p5 G1 G3 A B sa sb va vb vv oe kv OS hEL hSA PN (p0 &&& (3 : Int32)) (0 : Int32) X0
theorem own_arvG {Z : State} {args : Array Value} {t : Term} {a : Addr} {c : Cell} {ty : FieldType} {z : Int32} {vs : List Value} {d : Value} (hf : Fit Z) (A : Arr Z Z.heap a c ty) (et : t.eval args Z none [] Z = some (.ref a)) (el : (Term.length t).eval args Z none [] Z = some (.int z)) (hz : ¬ z < 0) (hl : z.toNatClampNeg = vs.length) (H : HasL c 0 vs) : Arv Z Z.heap a c.cls ty z vs d := by
  by_cases q : c.slots.size < 2 ^ 31
  · have e := len_f et (A.fin (Vm.Alike.refl _)) q
    rw [el] at e
    exact Arv.start hf A q (Value.int.inj (Option.some.inj e)).symm hz hl H
  · simp [Term.eval, et, A.fin (Vm.Alike.refl _), q] at el
theorem own_el {Z : State} {args : Array Value} {t u : Term} {a : Addr} {c : Cell} {ty : FieldType} {j : Int32} {v : Value} (A : Arr Z Z.heap a c ty) (et : t.eval args Z none [] Z = some (.ref a)) (eu : u.eval args Z none [] Z = some (.int j)) (h : (Term.elem t u).eval args Z none [] Z = some v) : c.slots[j.toNatClampNeg]? = some v := (elem_in h et eu A.1).2
theorem own_eqr {Z : State} {args : Array Value} {X F : Term} {y : Addr} (hF : F.eval args Z none [] Z = some (.ref y)) (h : (Cond.eq X F).value args Z none Z [] = some true) : X.eval args Z none [] Z = some (.ref y) := by
  obtain ⟨x, y', e1, e2, k1, k2⟩ := cmp_v (Or.inl h)
  cases hF.symm.trans e2
  have r : x.isRef = true := k2.2
  have q := gotT (eq_R e1 hF r rfl) h
  rw [e1, q]
set_option maxRecDepth 65536 in
set_option maxHeartbeats 40000000 in
theorem comes_1 {Post : Tables → Env → Array Value → State → Outcome → State → Prop} (hpost : ∀ tb e args s v u, (limb_1_1.after args s (.returned v) u = true ∧ limb_1_2.after args s (.returned v) u = true ∧ True) → ReturnedEndW s (.returned v) u (Jvm.fieldLocs frame_1_writes args s ++ Jvm.arrayLocs frame_1_arrays args s ++ Jvm.staticLocs frame_1_statics s) 32 3264 → Post tb e args s (.returned v) u) :
    ArmFor flags0 classFile x code maxLocals ret World_1 tables_1 room_1 Calls_1 rest_1 Pre_1 Post := by
  intro l hfl _ _ p e ha hc hk s m args below hf hA hF happ hP
  obtain ⟨hcalls, hrest, hpre⟩ := hP
  obtain ⟨-, -, -, hnamed, -, -, -, hat⟩ := (Spec.applies_iff hf).mp happ
  obtain ⟨hg, hn⟩ := and_e (Cond.before_iff.mp (show (Jvm.Cond.and given_1 narrow_1).before args s = true from hpre))
  obtain ⟨hcnt, g0⟩ := and_e hg
  obtain ⟨i0, g1⟩ := and_e g0
  obtain ⟨i1, g2⟩ := and_e g1
  obtain ⟨i2, g3⟩ := and_e g2
  obtain ⟨i3, g4⟩ := and_e g3
  obtain ⟨i4, g5⟩ := and_e g4
  obtain ⟨w0, w1, w2, w3, w4, w5, rfl⟩ : ∃ w0 w1 w2 w3 w4 w5 : Value, args = #[w0, w1, w2, w3, w4, w5] := by
    have hs : args.size = 6 := by simpa [Cond.value, given_1] using hcnt
    obtain ⟨L⟩ := args
    match L, hs with
    | [w0, w1, w2, w3, w4, w5], _ => exact ⟨w0, w1, w2, w3, w4, w5, rfl⟩
  have hw := fun d (hd : d ∈ tables_1) => atoms_spec (ws := Jvm.Cond.code x code maxLocals ret :: tables_1) hat d (List.mem_cons_of_mem _ hd)
  obtain ⟨hsets, hown0⟩ := atoms_of _ (rest_1_c_eq ▸ (show rest_1_c.before _ s = true from hrest))
  have hr0 := Cond.before_iff.mp hown0
  have hfit : Fit s := fun {y c} hc i hi => by
    obtain ⟨ha, rfl⟩ := Array.getElem?_eq_some_iff.mp hc
    have q := List.all_eq_true.mp ((Array.all_eq_true_iff_forall_mem.mp hF) _ (Array.getElem_mem ha)) i (List.mem_range.mpr hi)
    simpa [Array.getElem?_eq_getElem hi] using q
  obtain ⟨x0, ex0⟩ := is_v i0
  obtain rfl : w0 = (.int x0) := Option.some.inj ex0
  obtain ⟨x1, ex1⟩ := is_v i1
  obtain rfl : w1 = (.int x1) := Option.some.inj ex1
  obtain ⟨x2, ex2⟩ := is_v i2
  obtain rfl : w2 = (.int x2) := Option.some.inj ex2
  obtain ⟨x3, ex3⟩ := is_v i3
  obtain rfl : w3 = (.int x3) := Option.some.inj ex3
  obtain ⟨x4, ex4⟩ := is_v i4
  obtain rfl : w4 = (.int x4) := Option.some.inj ex4
  obtain ⟨x5, ex5⟩ := is_v g5
  obtain rfl : w5 = (.int x5) := Option.some.inj ex5
  have n5 := not_v (Cond.before_iff.mp (hsets _ (List.mem_of_getElem? (i := 2) rfl)))
  obtain ⟨g1, eg1⟩ := is_v (Cond.before_iff.mp (hsets _ (List.mem_of_getElem? (i := 1) rfl)))
  have S12 : Sta s s.heap "java/lang/String" "COMPACT_STRINGS" "Z" (.int g1) := Sta.start eg1 (Or.inl (hsets _ (List.mem_of_getElem? (i := 0) rfl)))
  obtain ⟨g3, eg3, r15⟩ := isR_v (Cond.before_iff.mp (hsets _ (List.mem_of_getElem? (i := 8) rfl)))
  have S16 : Sta s s.heap "jdk/internal/util/Preconditions" "SIOOBE_FORMATTER" "Ljava/util/function/BiFunction;" g3 := Sta.start eg3 (Or.inl (hsets _ (List.mem_of_getElem? (i := 7) rfl)))
  have c17 : ¬ (g1 = (0 : Int32)) := gotF (Cond.eq_ints eg1 (Term.int_eval (0))) n5
  obtain ⟨n1, hn1⟩ := and_e hn
  obtain ⟨n2, hn2⟩ := and_e hn1
  obtain ⟨n3, hn3⟩ := and_e hn2
  obtain ⟨n4, hn4⟩ := and_e hn3
  obtain ⟨n5, hn5⟩ := and_e hn4
  obtain ⟨n6, hn6⟩ := and_e hn5
  obtain ⟨n7, hn7⟩ := and_e hn6
  obtain ⟨n8, hn8⟩ := and_e hn7
  obtain ⟨n9, hn9⟩ := and_e hn8
  obtain ⟨n10, hn10⟩ := and_e hn9
  obtain ⟨n11, hn11⟩ := and_e hn10
  obtain ⟨n12, hn12⟩ := and_e hn11
  obtain ⟨n13, hn13⟩ := and_e hn12
  obtain ⟨n14, hn14⟩ := and_e hn13
  obtain ⟨n15, hn15⟩ := and_e hn14
  obtain ⟨n16, hn16⟩ := and_e hn15
  obtain ⟨n17, hn17⟩ := and_e hn16
  obtain ⟨n18, hn18⟩ := and_e hn17
  obtain ⟨n19, hn19⟩ := and_e hn18
  obtain ⟨n20, hn20⟩ := and_e hn19
  obtain ⟨n21, hn21⟩ := and_e hn20
  obtain ⟨n22, hn22⟩ := and_e hn21
  obtain ⟨n23, hn23⟩ := and_e hn22
  obtain ⟨n24, hn24⟩ := and_e hn23
  obtain ⟨n25, hn25⟩ := and_e hn24
  obtain ⟨n26, hn26⟩ := and_e hn25
  obtain ⟨n27, hn27⟩ := and_e hn26
  obtain ⟨n28, n29⟩ := and_e hn27
  obtain ⟨A, eA⟩ := exa_v n1
  obtain ⟨B, eB⟩ := exa_v n6
  obtain ⟨sa, esa⟩ := exa_v n8
  obtain ⟨sb, esb⟩ := exa_v n12
  obtain ⟨vv, evv⟩ := arr_v n2
  obtain ⟨va, eva⟩ := arr_v n10
  obtain ⟨vb, evb⟩ := arr_v n14
  obtain ⟨cv, AV⟩ := Arr.start evv n2
  obtain ⟨ca, AA⟩ := Arr.start eva n10
  obtain ⟨cb, AB⟩ := Arr.start evb n14
  have xe := Cond.before_iff.mp (hsets _ (List.mem_of_getElem? (i := 11) rfl))
  obtain ⟨oe, eoe⟩ := exa_v xe
  have xn := null_v (Cond.before_iff.mp (hsets _ (List.mem_of_getElem? (i := 12) rfl)))
  have VV := own_arvG (vs := [.ref A, .ref B]) (d := .null) hfit AV evv (eqv_i (Term.int_eval 2) n4) (by decide) rfl ⟨own_el AV evv (Term.int_eval 0) (own_eqr eA n5), own_el AV evv (Term.int_eval 1) (own_eqr eB n7), trivial⟩
  have VA := own_arvG (z := 8) (vs := [Value.int (112 : Int32), Value.int (114 : Int32), Value.int (111 : Int32), Value.int (100 : Int32), Value.int (117 : Int32), Value.int (99 : Int32), Value.int (101 : Int32), Value.int (114 : Int32)]) (d := .int 0) hfit AA eva (eqv_i (Term.int_eval 8) n11) (by decide) rfl ⟨own_el AA eva (Term.int_eval 0) (eqv_i (Term.int_eval 112) n16), own_el AA eva (Term.int_eval 1) (eqv_i (Term.int_eval 114) n17), own_el AA eva (Term.int_eval 2) (eqv_i (Term.int_eval 111) n18), own_el AA eva (Term.int_eval 3) (eqv_i (Term.int_eval 100) n19), own_el AA eva (Term.int_eval 4) (eqv_i (Term.int_eval 117) n20), own_el AA eva (Term.int_eval 5) (eqv_i (Term.int_eval 99) n21), own_el AA eva (Term.int_eval 6) (eqv_i (Term.int_eval 101) n22), own_el AA eva (Term.int_eval 7) (eqv_i (Term.int_eval 114) n23), trivial⟩
  have VB := own_arvG (z := 6) (vs := [Value.int (119 : Int32), Value.int (111 : Int32), Value.int (114 : Int32), Value.int (107 : Int32), Value.int (101 : Int32), Value.int (114 : Int32)]) (d := .int 0) hfit AB evb (eqv_i (Term.int_eval 6) n15) (by decide) rfl ⟨own_el AB evb (Term.int_eval 0) (eqv_i (Term.int_eval 119) n24), own_el AB evb (Term.int_eval 1) (eqv_i (Term.int_eval 111) n25), own_el AB evb (Term.int_eval 2) (eqv_i (Term.int_eval 114) n26), own_el AB evb (Term.int_eval 3) (eqv_i (Term.int_eval 107) n27), own_el AB evb (Term.int_eval 4) (eqv_i (Term.int_eval 101) n28), own_el AB evb (Term.int_eval 5) (eqv_i (Term.int_eval 114) n29), trivial⟩
  have OA : OStr s s.heap sa va LA := own_lit (Exa.start esa n8) (Fld.start ((fld_at esa).symm.trans eva)) (Fld.start ((fld_at esa).symm.trans (eqv_i (Term.int_eval 0) n9))) VA (by decide) (by decide)
  have OB : OStr s s.heap sb vb LB := own_lit (Exa.start esb n12) (Fld.start ((fld_at esb).symm.trans evb)) (Fld.start ((fld_at esb).symm.trans (eqv_i (Term.int_eval 0) n13))) VB (by decide) (by decide)
  have PN : Pin s A B sa sb va vb vv oe cv.cls := ⟨Sta.start eA (Or.inr ⟨(hw _ (List.mem_of_getElem? (i := 48) rfl)), (hw _ (List.mem_of_getElem? (i := 49) rfl))⟩), Sta.start eB (Or.inr ⟨(hw _ (List.mem_of_getElem? (i := 48) rfl)), (hw _ (List.mem_of_getElem? (i := 65) rfl))⟩), Sta.start evv (Or.inr ⟨(hw _ (List.mem_of_getElem? (i := 48) rfl)), (hw _ (List.mem_of_getElem? (i := 57) rfl))⟩), Exa.start eA n1, Exa.start eB n6, Fld.start ((fld_at eA).symm.trans esa), Fld.start ((fld_at eB).symm.trans esb), OA, OB, VV, Exa.start evv n3, Sta.start eoe (Or.inl (hsets _ (List.mem_of_getElem? (i := 10) rfl))), Exa.start eoe xe, Fld.start ((fld_at eoe).symm.trans xn)⟩
  have hEL : EW s #[(.int x0), (.int x1), (.int x2), (.int x3), (.int x4), (.int x5)] EL := by
    exact (EW.cons (hw _ (List.mem_of_getElem? (i := 34) rfl)) (by decide +kernel) (EW.cons (hw _ (List.mem_of_getElem? (i := 99) rfl)) (by decide +kernel) (EW.cons (hw _ (List.mem_of_getElem? (i := 101) rfl)) (by decide +kernel) EW.nil)))
  have hSA : ∀ d ∈ Bundle.stringAtoms, d.before #[(.int x0), (.int x1), (.int x2), (.int x3), (.int x4), (.int x5)] s = true := fun d hd => hw d ((by decide +kernel : ∀ d ∈ Bundle.stringAtoms, d ∈ tables_1) d hd)
  have hCH : CHv s EL s.vm s.heap := CHv.start hEL (fun p hp => hcalls.1 p hp) (hsets _ (List.mem_of_getElem? (i := 2) rfl)) (hw _ (List.mem_of_getElem? (i := 23) rfl)) (hw _ (List.mem_of_getElem? (i := 6) rfl))
  obtain ⟨n, o, h1, h2, h3, _, L, rfl, ⟨N, -, rfl⟩, -, hq⟩ := ct_law l s _ hw x0 x1 x2 x3 x4 x5 g1 g3 A B sa sb va vb vv oe cv.cls ⟨Nat.le_refl _, fun _ _ q => q⟩ ⟨S12, c17, S16, r15⟩ hEL hSA PN tables_1 p e ha hc hk s m _ below hf ((Spec.applies_iff_loose hf).mp happ).1 ⟨rfl, State.Warmed39.refl s, rfl, hCH⟩ trivial
  refine ⟨n, _, h1, h2, h3, hpost _ _ _ _ _ _ ⟨Cond.after_iff.mpr rfl, Cond.after_iff.mpr (eq_i res_at (Term.int_eval (1)) rfl), trivial⟩ ⟨hq.1, hq.2.1, hq.2.2.1, (hq.2.2.2.sift fun y hy => Or.inr (N y hy)).mono (by decide) (by decide)⟩⟩
theorem main_1_1 : Claimed_1_1 := comes_1 fun _ _ _ _ _ _ h hF => ⟨h.1, hF⟩
theorem main_1_2 : Claimed_1_2 := comes_1 fun _ _ _ _ _ _ h hF => ⟨h.2.1, hF⟩
end Jvm.Pilot.@@N@@
namespace Jvm.Pilot.@@N@@
open Jvm Jvm.ClassFile Sem Op Lib Jvm.Free Jvm.Stand Jvm.Pilot.@@N@@.Jvm.D
/-! MADE BY PROGRAM (witnessworld.py) out of the Statement's table words and the real class files: 24 classes; the members and pool entries that the words name. The judged class is class 1, her method 2. -/
namespace start1
open Jvm.ClassFile
def u (s : String) : CpInfo := .utf8 (stringToUtf16 s)
/-- a pool by its gaps: so many unusable entries, then the entry; so many at the end -/
def gap : Nat → List CpInfo → List CpInfo
  | 0, r => r
  | n + 1, r => .unusable :: gap n r
def poolList (es : List (Nat × CpInfo)) (last : Nat) : List CpInfo := es.foldr (fun e r => gap e.1 (e.2 :: r)) (gap last [])
def pool (es : List (Nat × CpInfo)) (last : Nat) : Array CpInfo := ⟨poolList es last⟩
def fileOf (pool : Array CpInfo) (this : Nat) (attrs : Array Attribute := #[]) (ms : Array MethodInfo := #[]) (fl : Nat := 33) (sup : Nat := 0) (ifs : Array Nat := #[]) (fds : Array FieldInfo := #[]) : ClassFile where
  minorVersion := 0
  majorVersion := 65
  constantPool := pool
  accessFlags := fl
  thisClass := this
  superClass := sup
  interfaces := ifs
  fields := fds
  methods := ms
  attributes := attrs
def plain (name : String) (sup : Option ClassId) : Class where
  name := name
  kind := .ordinary
  loader := none
  accessFlags := 33
  super := sup
  interfaces := #[]
  cf := none
  fields := #[]
  methods := #[]
  instanceTypes := #[]
  staticTypes := #[]
  resolved := #[]
  callSites := []
  init := .initialized
  statics := none
  mirror := none

def pool0 : Array CpInfo := pool [(5, u "<init>"), (0, u "()V"), (1, .class_ 10), (1, u "java/lang/Object"), (85, u "clone"), (0, u "()Ljava/lang/Object;")] 26

def k0c0 : Code := { maxStack := 0, maxLocals := 1, code := object_method_1_code, exceptionTable := #[], attributes := #[] }
def k0m0 : Method := { name := "<init>", desc := "()V", sig := { parameters := [], returnType := none }, accessFlags := 1, code := some k0c0 }
def k0m1 : Method := { name := "clone", desc := "()Ljava/lang/Object;", sig := { parameters := [], returnType := some (.object "java/lang/Object") }, accessFlags := 260, code := none }
/-- java/lang/Object -/
def k0 : Class := { plain "java/lang/Object" none with
  accessFlags := 33
  interfaces := #[]
  cf := some (fileOf pool0 8 #[] #[{ accessFlags := 1, nameIndex := 5, descriptorIndex := 6, attributes := #[] }, { accessFlags := 260, nameIndex := 96, descriptorIndex := 97, attributes := #[] }] 33 0 #[] #[])
  fields := #[]
  methods := #[k0m0, k0m1]
  instanceTypes := #[]
  staticTypes := #[]
  resolved := Array.replicate 124 none
  statics := none }

def pool1 : Array CpInfo := pool [(2, .class_ 4), (1, u "java/lang/Object"), (0, u "<init>"), (0, u "()V"), (0, .class_ 8), (0, u "java/lang/String"), (0, .methodref 7 10), (0, .nameAndType 5 11), (0, u "([C)V"), (0, .integer 2147483647), (0, .methodref 14 15), (0, .class_ 16), (0, .nameAndType 17 18), (0, u "com/example/panoptes/panoptes/RoleFromListedNamePinLaw"), (0, u "make"), (0, u "([CI)Ljava/lang/String;"), (0, .string 20), (0, u "producer"), (0, .methodref 7 22), (0, .nameAndType 23 24), (0, u "equals"), (0, u "(Ljava/lang/Object;)Z"), (0, .fieldref 26 27), (0, .class_ 28), (0, .nameAndType 29 30), (0, u "com/example/panoptes/panoptes/Caller$Role"), (0, u "PRODUCER"), (0, u "Lcom/example/panoptes/panoptes/Caller$Role;"), (0, .string 32), (0, u "worker"), (0, .fieldref 26 34), (0, .nameAndType 35 30), (0, u "WORKER"), (0, .methodref 26 37), (0, .nameAndType 38 39), (0, u "fromListedName"), (0, u "(Ljava/lang/String;)Ljava/util/Optional;"), (0, .methodref 41 42), (0, .class_ 43), (0, .nameAndType 44 45), (0, u "java/util/Optional"), (0, u "orElse"), (0, u "(Ljava/lang/Object;)Ljava/lang/Object;"), (3, u "law"), (0, u "(IIIIII)Z")] 8

def k1m0 : Method := { name := "<init>", desc := "()V", sig := { parameters := [], returnType := none }, accessFlags := 2, code := none }
def k1c1 : Code := { maxStack := 7, maxLocals := 2, code := method_2_code, exceptionTable := #[], attributes := #[] }
def k1m1 : Method := { name := "make", desc := "([CI)Ljava/lang/String;", sig := { parameters := [(.array .char), .int], returnType := some (.object "java/lang/String") }, accessFlags := 10, code := some k1c1 }
def k1c2 : Code := { maxStack := 4, maxLocals := 15, code := code, exceptionTable := #[], attributes := #[] }
def k1m2 : Method := { name := "law", desc := "(IIIIII)Z", sig := { parameters := [.int, .int, .int, .int, .int, .int], returnType := some .boolean }, accessFlags := 9, code := some k1c2 }
/-- com/example/panoptes/panoptes/RoleFromListedNamePinLaw -/
def k1 : Class := { plain "com/example/panoptes/panoptes/RoleFromListedNamePinLaw" (some 0) with
  accessFlags := 49
  interfaces := #[]
  cf := some (fileOf pool1 14 #[] #[{ accessFlags := 2, nameIndex := 5, descriptorIndex := 6, attributes := #[] }, { accessFlags := 10, nameIndex := 17, descriptorIndex := 18, attributes := #[] }, { accessFlags := 9, nameIndex := 49, descriptorIndex := 50, attributes := #[] }] 49 2 #[] #[])
  fields := #[]
  methods := #[k1m0, k1m1, k1m2]
  instanceTypes := #[]
  staticTypes := #[]
  resolved := Array.replicate 59 none
  statics := none }

def pool2 : Array CpInfo := pool [(1, .class_ 2), (0, u "java/io/Serializable"), (0, .class_ 4), (0, u "java/lang/Object")] 2

/-- java/io/Serializable -/
def k2 : Class := { plain "java/io/Serializable" (some 0) with
  accessFlags := 1537
  interfaces := #[]
  cf := some (fileOf pool2 1 #[] #[] 1537 3 #[] #[])
  fields := #[]
  methods := #[]
  instanceTypes := #[]
  staticTypes := #[]
  resolved := Array.replicate 7 none
  statics := none }

def pool3 : Array CpInfo := pool [(1, .class_ 2), (0, u "java/lang/Comparable"), (0, .class_ 4), (0, u "java/lang/Object")] 7

/-- java/lang/Comparable -/
def k3 : Class := { plain "java/lang/Comparable" (some 0) with
  accessFlags := 1537
  interfaces := #[]
  cf := some (fileOf pool3 1 #[] #[] 1537 3 #[] #[])
  fields := #[]
  methods := #[]
  instanceTypes := #[]
  staticTypes := #[]
  resolved := Array.replicate 12 none
  statics := none }

def pool4 : Array CpInfo := pool [(2, .class_ 4), (1, u "java/lang/CharSequence"), (42, .class_ 48), (0, u "java/lang/CharSequence$1CodePointIterator"), (10, .class_ 60), (0, u "java/lang/CharSequence$1CharIterator"), (5, .class_ 67), (0, u "java/lang/Object")] 63

/-- java/lang/CharSequence -/
def k4 : Class := { plain "java/lang/CharSequence" (some 0) with
  accessFlags := 1537
  interfaces := #[]
  cf := some (fileOf pool4 2 #[.nestMembers #[47, 59]] #[] 1537 66 #[] #[])
  fields := #[]
  methods := #[]
  instanceTypes := #[]
  staticTypes := #[]
  resolved := Array.replicate 131 none
  statics := none }

def pool5 : Array CpInfo := pool [(1, .class_ 2), (0, u "java/lang/constant/Constable"), (0, .class_ 4), (0, u "java/lang/Object")] 6

/-- java/lang/constant/Constable -/
def k5 : Class := { plain "java/lang/constant/Constable" (some 0) with
  accessFlags := 1537
  interfaces := #[]
  cf := some (fileOf pool5 1 #[] #[] 1537 3 #[] #[])
  fields := #[]
  methods := #[]
  instanceTypes := #[]
  staticTypes := #[]
  resolved := Array.replicate 11 none
  statics := none }

def pool6 : Array CpInfo := pool [(1, .class_ 2), (0, u "java/lang/constant/ConstantDesc"), (0, .class_ 4), (0, u "java/lang/Object")] 32

/-- java/lang/constant/ConstantDesc -/
def k6 : Class := { plain "java/lang/constant/ConstantDesc" (some 0) with
  accessFlags := 1537
  interfaces := #[]
  cf := some (fileOf pool6 1 #[] #[] 1537 3 #[] #[])
  fields := #[]
  methods := #[]
  instanceTypes := #[]
  staticTypes := #[]
  resolved := Array.replicate 37 none
  statics := none }

def pool7 : Array CpInfo := pool [(1, .methodref 2 3), (0, .class_ 4), (0, .nameAndType 5 6), (0, u "java/lang/Object"), (0, u "<init>"), (0, u "()V"), (0, .string 8), (0, u ""), (0, .fieldref 10 11), (0, .class_ 12), (0, .nameAndType 13 14), (0, u "java/lang/String"), (0, u "value"), (0, u "[B"), (0, .fieldref 10 16), (0, .nameAndType 17 18), (0, u "coder"), (0, u "B"), (2, u "hash"), (0, u "I"), (2, u "hashIsZero"), (0, u "Z"), (0, .methodref 10 28), (0, .nameAndType 5 29), (0, u "([CIILjava/lang/Void;)V"), (8, .fieldref 10 39), (0, .nameAndType 40 26), (0, u "COMPACT_STRINGS"), (1, .class_ 44), (1, u "java/lang/StringUTF16"), (0, u "compress"), (1, .methodref 42 48), (0, .nameAndType 49 50), (0, u "coderFromArrayLen"), (0, u "([BI)B"), (56, .class_ 109), (1, u "java/lang/StringLatin1"), (67, .methodref 42 178), (0, .nameAndType 45 179), (0, u "([CII)[B"), (361, .methodref 107 542), (0, .nameAndType 543 544), (0, u "equals"), (0, u "([B[B)Z"), (28, u "(Ljava/lang/Object;)Z"), (1, .class_ 576), (0, u "java/lang/CharSequence"), (22, u "CASE_INSENSITIVE_ORDER"), (0, u "Ljava/util/Comparator;"), (409, u "([C)V"), (90, u "serialPersistentFields"), (0, u "[Ljava/io/ObjectStreamField;"), (0, .class_ 1104), (0, u "java/lang/String$CaseInsensitiveComparator"), (1, .class_ 1107), (0, u "java/io/Serializable"), (0, .class_ 1109), (0, u "java/lang/Comparable"), (0, .class_ 1111), (0, u "java/lang/constant/Constable"), (0, .class_ 1113), (0, u "java/lang/constant/ConstantDesc"), (2, u "serialVersionUID"), (0, u "J"), (3, u "REPL"), (0, u "C"), (2, u "LATIN1"), (1, u "UTF16")] 323

def k7m0 : Method := { name := "<init>", desc := "()V", sig := { parameters := [], returnType := none }, accessFlags := 1, code := none }
def k7c1 : Code := { maxStack := 5, maxLocals := 2, code := jdk_42_method_3_code, exceptionTable := #[], attributes := #[] }
def k7m1 : Method := { name := "<init>", desc := "([C)V", sig := { parameters := [(.array .char)], returnType := none }, accessFlags := 1, code := some k7c1 }
def k7c2 : Code := { maxStack := 2, maxLocals := 3, code := jdk_42_method_66_code, exceptionTable := #[], attributes := #[] }
def k7m2 : Method := { name := "equals", desc := "(Ljava/lang/Object;)Z", sig := { parameters := [(.object "java/lang/Object")], returnType := some .boolean }, accessFlags := 1, code := some k7c2 }
def k7c3 : Code := { maxStack := 4, maxLocals := 6, code := jdk_42_method_149_code, exceptionTable := #[], attributes := #[] }
def k7m3 : Method := { name := "<init>", desc := "([CIILjava/lang/Void;)V", sig := { parameters := [(.array .char), .int, .int, (.object "java/lang/Void")], returnType := none }, accessFlags := 2, code := some k7c3 }
/-- java/lang/String -/
def k7 : Class := { plain "java/lang/String" (some 0) with
  accessFlags := 49
  interfaces := #[2, 3, 4, 5, 6]
  cf := some (fileOf pool7 10 #[.nestMembers #[1103]] #[{ accessFlags := 1, nameIndex := 5, descriptorIndex := 6, attributes := #[] }, { accessFlags := 1, nameIndex := 5, descriptorIndex := 1010, attributes := #[] }, { accessFlags := 1, nameIndex := 543, descriptorIndex := 573, attributes := #[] }, { accessFlags := 2, nameIndex := 5, descriptorIndex := 29, attributes := #[] }] 49 2 #[1106, 1108, 575, 1110, 1112] #[{ accessFlags := 18, nameIndex := 13, descriptorIndex := 14, attributes := #[] }, { accessFlags := 18, nameIndex := 17, descriptorIndex := 18, attributes := #[] }, { accessFlags := 2, nameIndex := 21, descriptorIndex := 22, attributes := #[] }, { accessFlags := 2, nameIndex := 25, descriptorIndex := 26, attributes := #[] }, { accessFlags := 26, nameIndex := 1116, descriptorIndex := 1117, attributes := #[] }, { accessFlags := 24, nameIndex := 40, descriptorIndex := 26, attributes := #[] }, { accessFlags := 26, nameIndex := 1101, descriptorIndex := 1102, attributes := #[] }, { accessFlags := 26, nameIndex := 1121, descriptorIndex := 1122, attributes := #[] }, { accessFlags := 25, nameIndex := 599, descriptorIndex := 600, attributes := #[] }, { accessFlags := 24, nameIndex := 1125, descriptorIndex := 18, attributes := #[] }, { accessFlags := 24, nameIndex := 1127, descriptorIndex := 18, attributes := #[] }])
  fields := #[{ name := "value", type := (.array .byte), accessFlags := 18, slot := 0, constantValue := 0 }, { name := "coder", type := .byte, accessFlags := 18, slot := 1, constantValue := 0 }, { name := "hash", type := .int, accessFlags := 2, slot := 2, constantValue := 0 }, { name := "hashIsZero", type := .boolean, accessFlags := 2, slot := 3, constantValue := 0 }, { name := "serialVersionUID", type := .long, accessFlags := 26, slot := 0, constantValue := 0 }, { name := "COMPACT_STRINGS", type := .boolean, accessFlags := 24, slot := 1, constantValue := 0 }, { name := "serialPersistentFields", type := (.array (.object "java/io/ObjectStreamField")), accessFlags := 26, slot := 2, constantValue := 0 }, { name := "REPL", type := .char, accessFlags := 26, slot := 3, constantValue := 0 }, { name := "CASE_INSENSITIVE_ORDER", type := (.object "java/util/Comparator"), accessFlags := 25, slot := 4, constantValue := 0 }, { name := "LATIN1", type := .byte, accessFlags := 24, slot := 5, constantValue := 0 }, { name := "UTF16", type := .byte, accessFlags := 24, slot := 6, constantValue := 0 }]
  methods := #[k7m0, k7m1, k7m2, k7m3]
  instanceTypes := #[(.array .byte), .byte, .int, .boolean]
  staticTypes := #[.long, .boolean, (.array (.object "java/io/ObjectStreamField")), .char, (.object "java/util/Comparator"), .byte, .byte]
  resolved := Array.replicate 1451 none
  statics := some 0 }

def pool8 : Array CpInfo := pool [(6, .class_ 8), (1, u "java/lang/Object"), (0, u "<init>"), (0, u "()V"), (1, .class_ 14), (1, u "java/lang/StringUTF16"), (31, u "$assertionsDisabled"), (0, u "Z"), (13, u "HI_BYTE_SHIFT"), (0, u "I"), (2, u "LO_BYTE_SHIFT"), (49, .methodref 12 116), (0, .nameAndType 117 118), (0, u "compress"), (0, u "([CI[BII)I"), (3, u "([CII)[B"), (138, u "coderFromArrayLen"), (0, u "([BI)B"), (106, .class_ 371), (1, u "java/lang/StringUTF16$LinesSpliterator"), (58, u "MAX_LENGTH"), (196, .class_ 628), (0, u "java/lang/StringUTF16$CodePointsSpliterator"), (0, .class_ 630), (0, u "java/lang/StringUTF16$CharsSpliterator")] 4

def k8m0 : Method := { name := "<init>", desc := "()V", sig := { parameters := [], returnType := none }, accessFlags := 0, code := none }
def k8c1 : Code := { maxStack := 2, maxLocals := 2, code := jdk_52_method_15_code, exceptionTable := #[], attributes := #[] }
def k8m1 : Method := { name := "coderFromArrayLen", desc := "([BI)B", sig := { parameters := [(.array .byte), .int], returnType := some .byte }, accessFlags := 8, code := some k8c1 }
def k8c2 : Code := { maxStack := 5, maxLocals := 6, code := jdk_52_method_16_code, exceptionTable := #[], attributes := #[] }
def k8m2 : Method := { name := "compress", desc := "([CII)[B", sig := { parameters := [(.array .char), .int, .int], returnType := some (.array .byte) }, accessFlags := 9, code := some k8c2 }
def k8c3 : Code := { maxStack := 3, maxLocals := 7, code := jdk_52_method_21_code, exceptionTable := #[], attributes := #[] }
def k8m3 : Method := { name := "compress", desc := "([CI[BII)I", sig := { parameters := [(.array .char), .int, (.array .byte), .int, .int], returnType := some .int }, accessFlags := 9, code := some k8c3 }
/-- java/lang/StringUTF16 -/
def k8 : Class := { plain "java/lang/StringUTF16" (some 0) with
  accessFlags := 48
  interfaces := #[]
  cf := some (fileOf pool8 12 #[.nestMembers #[627, 629, 369]] #[{ accessFlags := 0, nameIndex := 9, descriptorIndex := 10, attributes := #[] }, { accessFlags := 8, nameIndex := 261, descriptorIndex := 262, attributes := #[] }, { accessFlags := 9, nameIndex := 117, descriptorIndex := 122, attributes := #[] }, { accessFlags := 9, nameIndex := 117, descriptorIndex := 118, attributes := #[] }] 48 6 #[] #[{ accessFlags := 26, nameIndex := 61, descriptorIndex := 62, attributes := #[] }, { accessFlags := 26, nameIndex := 65, descriptorIndex := 62, attributes := #[] }, { accessFlags := 24, nameIndex := 430, descriptorIndex := 62, attributes := #[] }, { accessFlags := 4120, nameIndex := 46, descriptorIndex := 47, attributes := #[] }])
  fields := #[{ name := "HI_BYTE_SHIFT", type := .int, accessFlags := 26, slot := 0, constantValue := 0 }, { name := "LO_BYTE_SHIFT", type := .int, accessFlags := 26, slot := 1, constantValue := 0 }, { name := "MAX_LENGTH", type := .int, accessFlags := 24, slot := 2, constantValue := 0 }, { name := "$assertionsDisabled", type := .boolean, accessFlags := 4120, slot := 3, constantValue := 0 }]
  methods := #[k8m0, k8m1, k8m2, k8m3]
  instanceTypes := #[]
  staticTypes := #[.int, .int, .int, .boolean]
  resolved := Array.replicate 635 none
  statics := none }

def pool9 : Array CpInfo := pool [(4, .class_ 6), (1, u "java/lang/Object"), (0, u "<init>"), (0, u "()V"), (5, .class_ 16), (1, u "java/lang/StringLatin1"), (104, u "$assertionsDisabled"), (0, u "Z"), (98, .class_ 223), (1, u "java/lang/StringLatin1$LinesSpliterator"), (57, u "equals"), (0, u "([B[B)Z"), (107, .class_ 391), (0, u "java/lang/StringLatin1$CharsSpliterator")] 3

def k9m0 : Method := { name := "<init>", desc := "()V", sig := { parameters := [], returnType := none }, accessFlags := 0, code := none }
def k9c1 : Code := { maxStack := 3, maxLocals := 3, code := jdk_43_method_13_code, exceptionTable := #[], attributes := #[] }
def k9m1 : Method := { name := "equals", desc := "([B[B)Z", sig := { parameters := [(.array .byte), (.array .byte)], returnType := some .boolean }, accessFlags := 9, code := some k9c1 }
/-- java/lang/StringLatin1 -/
def k9 : Class := { plain "java/lang/StringLatin1" (some 0) with
  accessFlags := 48
  interfaces := #[]
  cf := some (fileOf pool9 14 #[.nestMembers #[390, 221]] #[{ accessFlags := 0, nameIndex := 7, descriptorIndex := 8, attributes := #[] }, { accessFlags := 9, nameIndex := 281, descriptorIndex := 282, attributes := #[] }] 48 4 #[] #[{ accessFlags := 4120, nameIndex := 121, descriptorIndex := 122, attributes := #[] }])
  fields := #[{ name := "$assertionsDisabled", type := .boolean, accessFlags := 4120, slot := 0, constantValue := 0 }]
  methods := #[k9m0, k9m1]
  instanceTypes := #[]
  staticTypes := #[.boolean]
  resolved := Array.replicate 395 none
  statics := none }

def pool10 : Array CpInfo := pool [(2, .class_ 4), (1, u "java/lang/Enum"), (0, u "name"), (0, u "Ljava/lang/String;"), (2, u "ordinal"), (0, u "I"), (1, .class_ 14), (1, u "java/lang/Object"), (4, u "hash"), (86, .class_ 108), (1, u "java/lang/Enum$EnumDesc"), (2, .class_ 112), (0, u "java/lang/constant/Constable"), (0, .class_ 114), (0, u "java/lang/Comparable"), (0, .class_ 116), (0, u "java/io/Serializable")] 87

/-- java/lang/Enum -/
def k10 : Class := { plain "java/lang/Enum" (some 0) with
  accessFlags := 1057
  interfaces := #[5, 3, 2]
  cf := some (fileOf pool10 2 #[.nestMembers #[106]] #[] 1057 12 #[111, 113, 115] #[{ accessFlags := 18, nameIndex := 5, descriptorIndex := 6, attributes := #[] }, { accessFlags := 18, nameIndex := 9, descriptorIndex := 10, attributes := #[] }, { accessFlags := 2, nameIndex := 19, descriptorIndex := 10, attributes := #[] }])
  fields := #[{ name := "name", type := (.object "java/lang/String"), accessFlags := 18, slot := 0, constantValue := 0 }, { name := "ordinal", type := .int, accessFlags := 18, slot := 1, constantValue := 0 }, { name := "hash", type := .int, accessFlags := 2, slot := 2, constantValue := 0 }]
  methods := #[]
  instanceTypes := #[(.object "java/lang/String"), .int, .int]
  staticTypes := #[]
  resolved := Array.replicate 204 none
  statics := none }

def pool11 : Array CpInfo := pool [(1, .class_ 2), (0, u "com/example/panoptes/panoptes/Caller$Role"), (2, u "PRODUCER"), (0, u "Lcom/example/panoptes/panoptes/Caller$Role;"), (2, u "WORKER"), (0, .fieldref 1 11), (0, .nameAndType 12 13), (0, u "$VALUES"), (0, u "[Lcom/example/panoptes/panoptes/Caller$Role;"), (0, .methodref 15 16), (0, .class_ 13), (0, .nameAndType 17 18), (0, u "clone"), (0, u "()Ljava/lang/Object;"), (1, .class_ 22), (1, u "java/lang/Enum"), (6, .fieldref 1 30), (0, .nameAndType 31 32), (0, u "listedName"), (0, u "Ljava/lang/String;"), (0, .methodref 1 34), (0, .nameAndType 35 36), (0, u "values"), (0, u "()[Lcom/example/panoptes/panoptes/Caller$Role;"), (0, .methodref 38 39), (0, .class_ 40), (0, .nameAndType 41 42), (0, u "java/lang/String"), (0, u "equals"), (0, u "(Ljava/lang/Object;)Z"), (0, .methodref 44 45), (0, .class_ 46), (0, .nameAndType 47 48), (0, u "java/util/Optional"), (0, u "of"), (0, u "(Ljava/lang/Object;)Ljava/util/Optional;"), (0, .methodref 44 50), (0, .nameAndType 51 52), (0, u "empty"), (0, u "()Ljava/util/Optional;"), (19, u "fromListedName"), (0, u "(Ljava/lang/String;)Ljava/util/Optional;"), (8, .class_ 83), (0, u "com/example/panoptes/panoptes/Caller")] 2

def k11c0 : Code := { maxStack := 1, maxLocals := 0, code := prog_4_method_1_code, exceptionTable := #[], attributes := #[] }
def k11m0 : Method := { name := "values", desc := "()[Lcom/example/panoptes/panoptes/Caller$Role;", sig := { parameters := [], returnType := some (.array (.object "com/example/panoptes/panoptes/Caller$Role")) }, accessFlags := 9, code := some k11c0 }
def k11c1 : Code := { maxStack := 2, maxLocals := 5, code := prog_4_method_5_code, exceptionTable := #[], attributes := #[] }
def k11m1 : Method := { name := "fromListedName", desc := "(Ljava/lang/String;)Ljava/util/Optional;", sig := { parameters := [(.object "java/lang/String")], returnType := some (.object "java/util/Optional") }, accessFlags := 8, code := some k11c1 }
/-- com/example/panoptes/panoptes/Caller$Role -/
def k11 : Class := { plain "com/example/panoptes/panoptes/Caller$Role" (some 10) with
  accessFlags := 16432
  interfaces := #[]
  cf := some (fileOf pool11 1 #[.nestHost 82] #[{ accessFlags := 9, nameIndex := 35, descriptorIndex := 36, attributes := #[] }, { accessFlags := 8, nameIndex := 72, descriptorIndex := 73, attributes := #[] }] 16432 20 #[] #[{ accessFlags := 16409, nameIndex := 5, descriptorIndex := 6, attributes := #[] }, { accessFlags := 16409, nameIndex := 9, descriptorIndex := 6, attributes := #[] }, { accessFlags := 18, nameIndex := 31, descriptorIndex := 32, attributes := #[] }, { accessFlags := 4122, nameIndex := 12, descriptorIndex := 13, attributes := #[] }])
  fields := #[{ name := "PRODUCER", type := (.object "com/example/panoptes/panoptes/Caller$Role"), accessFlags := 16409, slot := 0, constantValue := 0 }, { name := "WORKER", type := (.object "com/example/panoptes/panoptes/Caller$Role"), accessFlags := 16409, slot := 1, constantValue := 0 }, { name := "listedName", type := (.object "java/lang/String"), accessFlags := 18, slot := 3, constantValue := 0 }, { name := "$VALUES", type := (.array (.object "com/example/panoptes/panoptes/Caller$Role")), accessFlags := 4122, slot := 2, constantValue := 0 }]
  methods := #[k11m0, k11m1]
  instanceTypes := #[(.object "java/lang/String"), .int, .int, (.object "java/lang/String")]
  staticTypes := #[(.object "com/example/panoptes/panoptes/Caller$Role"), (.object "com/example/panoptes/panoptes/Caller$Role"), (.array (.object "com/example/panoptes/panoptes/Caller$Role"))]
  resolved := Array.replicate 86 none
  statics := some 1 }

def pool12 : Array CpInfo := pool [(1, .class_ 2), (0, u "java/lang/Cloneable"), (0, .class_ 4), (0, u "java/lang/Object")] 2

/-- java/lang/Cloneable -/
def k12 : Class := { plain "java/lang/Cloneable" (some 0) with
  accessFlags := 1537
  interfaces := #[]
  cf := some (fileOf pool12 1 #[] #[] 1537 3 #[] #[])
  fields := #[]
  methods := #[]
  instanceTypes := #[]
  staticTypes := #[]
  resolved := Array.replicate 7 none
  statics := none }

def pool13 : Array CpInfo := pool [(1, .fieldref 2 3), (0, .class_ 4), (0, .nameAndType 5 6), (0, u "java/util/Optional"), (0, u "EMPTY"), (0, u "Ljava/util/Optional;"), (0, .methodref 8 9), (0, .class_ 10), (0, .nameAndType 11 12), (0, u "java/lang/Object"), (0, u "<init>"), (0, u "()V"), (0, .fieldref 2 14), (0, .nameAndType 15 16), (0, u "value"), (0, u "Ljava/lang/Object;"), (0, .methodref 18 19), (0, .class_ 20), (0, .nameAndType 21 22), (0, u "java/util/Objects"), (0, u "requireNonNull"), (0, u "(Ljava/lang/Object;)Ljava/lang/Object;"), (0, .methodref 2 24), (0, .nameAndType 11 25), (0, u "(Ljava/lang/Object;)V"), (29, u "empty"), (0, u "()Ljava/util/Optional;"), (8, u "(Ljava/lang/Object;)Ljava/util/Optional;"), (16, u "of"), (82, u "orElse")] 21

def k13c0 : Code := { maxStack := 1, maxLocals := 1, code := jdk_32_method_1_code, exceptionTable := #[], attributes := #[] }
def k13m0 : Method := { name := "empty", desc := "()Ljava/util/Optional;", sig := { parameters := [], returnType := some (.object "java/util/Optional") }, accessFlags := 9, code := some k13c0 }
def k13c1 : Code := { maxStack := 2, maxLocals := 2, code := jdk_32_method_2_code, exceptionTable := #[], attributes := #[] }
def k13m1 : Method := { name := "<init>", desc := "(Ljava/lang/Object;)V", sig := { parameters := [(.object "java/lang/Object")], returnType := none }, accessFlags := 2, code := some k13c1 }
def k13c2 : Code := { maxStack := 3, maxLocals := 1, code := jdk_32_method_3_code, exceptionTable := #[], attributes := #[] }
def k13m2 : Method := { name := "of", desc := "(Ljava/lang/Object;)Ljava/util/Optional;", sig := { parameters := [(.object "java/lang/Object")], returnType := some (.object "java/util/Optional") }, accessFlags := 9, code := some k13c2 }
def k13c3 : Code := { maxStack := 1, maxLocals := 2, code := jdk_32_method_15_code, exceptionTable := #[], attributes := #[] }
def k13m3 : Method := { name := "orElse", desc := "(Ljava/lang/Object;)Ljava/lang/Object;", sig := { parameters := [(.object "java/lang/Object")], returnType := some (.object "java/lang/Object") }, accessFlags := 1, code := some k13c3 }
/-- java/util/Optional -/
def k13 : Class := { plain "java/util/Optional" (some 0) with
  accessFlags := 49
  interfaces := #[]
  cf := some (fileOf pool13 2 #[] #[{ accessFlags := 9, nameIndex := 55, descriptorIndex := 56, attributes := #[] }, { accessFlags := 2, nameIndex := 11, descriptorIndex := 25, attributes := #[] }, { accessFlags := 9, nameIndex := 82, descriptorIndex := 65, attributes := #[] }, { accessFlags := 1, nameIndex := 165, descriptorIndex := 22, attributes := #[] }] 49 8 #[] #[{ accessFlags := 26, nameIndex := 5, descriptorIndex := 6, attributes := #[] }, { accessFlags := 18, nameIndex := 15, descriptorIndex := 16, attributes := #[] }])
  fields := #[{ name := "EMPTY", type := (.object "java/util/Optional"), accessFlags := 26, slot := 0, constantValue := 0 }, { name := "value", type := (.object "java/lang/Object"), accessFlags := 18, slot := 0, constantValue := 0 }]
  methods := #[k13m0, k13m1, k13m2, k13m3]
  instanceTypes := #[(.object "java/lang/Object")]
  staticTypes := #[(.object "java/util/Optional")]
  resolved := Array.replicate 187 none
  statics := some 2 }

def pool14 : Array CpInfo := pool [(2, .class_ 4), (1, u "java/lang/Object"), (0, u "<init>"), (0, u "()V"), (35, .class_ 44), (1, u "java/util/Objects"), (0, u "requireNonNull"), (0, u "(Ljava/lang/Object;)Ljava/lang/Object;")] 137

def k14m0 : Method := { name := "<init>", desc := "()V", sig := { parameters := [], returnType := none }, accessFlags := 2, code := none }
def k14c1 : Code := { maxStack := 2, maxLocals := 1, code := jdk_31_method_10_code, exceptionTable := #[], attributes := #[] }
def k14m1 : Method := { name := "requireNonNull", desc := "(Ljava/lang/Object;)Ljava/lang/Object;", sig := { parameters := [(.object "java/lang/Object")], returnType := some (.object "java/lang/Object") }, accessFlags := 9, code := some k14c1 }
/-- java/util/Objects -/
def k14 : Class := { plain "java/util/Objects" (some 0) with
  accessFlags := 49
  interfaces := #[]
  cf := some (fileOf pool14 42 #[] #[{ accessFlags := 2, nameIndex := 5, descriptorIndex := 6, attributes := #[] }, { accessFlags := 9, nameIndex := 45, descriptorIndex := 46, attributes := #[] }] 49 2 #[] #[])
  fields := #[]
  methods := #[k14m0, k14m1]
  instanceTypes := #[]
  staticTypes := #[]
  resolved := Array.replicate 184 none
  statics := none }

def pool15 : Array CpInfo := pool [(2, .class_ 4), (1, u "java/lang/Object"), (0, u "<init>"), (0, u "()V"), (17, .class_ 26), (1, u "jdk/internal/util/Preconditions"), (28, .class_ 56), (0, u "jdk/internal/util/Preconditions$4"), (57, .class_ 115), (0, u "jdk/internal/util/Preconditions$1"), (7, u "SIOOBE_FORMATTER"), (0, u "Ljava/util/function/BiFunction;"), (0, .class_ 126), (0, u "jdk/internal/util/Preconditions$2"), (3, u "AIOOBE_FORMATTER"), (0, .class_ 132), (0, u "jdk/internal/util/Preconditions$3"), (3, u "IOOBE_FORMATTER")] 57

def k15m0 : Method := { name := "<init>", desc := "()V", sig := { parameters := [], returnType := none }, accessFlags := 1, code := none }
/-- jdk/internal/util/Preconditions -/
def k15 : Class := { plain "jdk/internal/util/Preconditions" (some 0) with
  accessFlags := 33
  interfaces := #[]
  cf := some (fileOf pool15 24 #[.nestMembers #[55, 131, 125, 114]] #[{ accessFlags := 1, nameIndex := 5, descriptorIndex := 6, attributes := #[] }] 33 2 #[] #[{ accessFlags := 25, nameIndex := 123, descriptorIndex := 124, attributes := #[] }, { accessFlags := 25, nameIndex := 130, descriptorIndex := 124, attributes := #[] }, { accessFlags := 25, nameIndex := 136, descriptorIndex := 124, attributes := #[] }])
  fields := #[{ name := "SIOOBE_FORMATTER", type := (.object "java/util/function/BiFunction"), accessFlags := 25, slot := 0, constantValue := 0 }, { name := "AIOOBE_FORMATTER", type := (.object "java/util/function/BiFunction"), accessFlags := 25, slot := 1, constantValue := 0 }, { name := "IOOBE_FORMATTER", type := (.object "java/util/function/BiFunction"), accessFlags := 25, slot := 2, constantValue := 0 }]
  methods := #[k15m0]
  instanceTypes := #[]
  staticTypes := #[(.object "java/util/function/BiFunction"), (.object "java/util/function/BiFunction"), (.object "java/util/function/BiFunction")]
  resolved := Array.replicate 194 none
  statics := some 3 }

def pool16 : Array CpInfo := pool [(9, u "<init>"), (6, .class_ 18), (1, u "java/lang/Object"), (0, u "()V"), (1, .class_ 23), (1, u "jdk/internal/util/ArraysSupport"), (0, u "LOG2_ARRAY_LONG_INDEX_SCALE"), (0, u "I"), (2, u "U"), (0, u "Ljdk/internal/misc/Unsafe;"), (8, u "BIG_ENDIAN"), (0, u "Z"), (8, u "LOG2_BYTE_BIT_SIZE"), (4, u "LOG2_ARRAY_INT_INDEX_SCALE"), (54, u "JLA"), (0, u "Ljdk/internal/access/JavaLangAccess;"), (11, u "LOG2_ARRAY_BOOLEAN_INDEX_SCALE"), (9, u "LOG2_ARRAY_BYTE_INDEX_SCALE"), (5, u "LOG2_ARRAY_CHAR_INDEX_SCALE"), (5, u "LOG2_ARRAY_SHORT_INDEX_SCALE"), (18, u "LOG2_ARRAY_FLOAT_INDEX_SCALE"), (24, u "LOG2_ARRAY_DOUBLE_INDEX_SCALE"), (89, u "T_BOOLEAN"), (2, u "T_CHAR"), (1, u "T_FLOAT"), (1, u "T_DOUBLE"), (1, u "T_BYTE"), (1, u "T_SHORT"), (1, u "T_INT"), (1, u "T_LONG"), (1, u "SOFT_MAX_ARRAY_LENGTH")] 83

def k16m0 : Method := { name := "<init>", desc := "()V", sig := { parameters := [], returnType := none }, accessFlags := 2, code := none }
/-- jdk/internal/util/ArraysSupport -/
def k16 : Class := { plain "jdk/internal/util/ArraysSupport" (some 0) with
  accessFlags := 33
  interfaces := #[]
  cf := some (fileOf pool16 21 #[] #[{ accessFlags := 2, nameIndex := 9, descriptorIndex := 19, attributes := #[] }] 33 16 #[] #[{ accessFlags := 24, nameIndex := 28, descriptorIndex := 29, attributes := #[] }, { accessFlags := 26, nameIndex := 38, descriptorIndex := 39, attributes := #[] }, { accessFlags := 25, nameIndex := 121, descriptorIndex := 25, attributes := #[] }, { accessFlags := 25, nameIndex := 131, descriptorIndex := 25, attributes := #[] }, { accessFlags := 25, nameIndex := 137, descriptorIndex := 25, attributes := #[] }, { accessFlags := 25, nameIndex := 143, descriptorIndex := 25, attributes := #[] }, { accessFlags := 25, nameIndex := 53, descriptorIndex := 25, attributes := #[] }, { accessFlags := 25, nameIndex := 24, descriptorIndex := 25, attributes := #[] }, { accessFlags := 25, nameIndex := 162, descriptorIndex := 25, attributes := #[] }, { accessFlags := 25, nameIndex := 187, descriptorIndex := 25, attributes := #[] }, { accessFlags := 26, nameIndex := 48, descriptorIndex := 25, attributes := #[] }, { accessFlags := 25, nameIndex := 277, descriptorIndex := 25, attributes := #[] }, { accessFlags := 25, nameIndex := 280, descriptorIndex := 25, attributes := #[] }, { accessFlags := 25, nameIndex := 282, descriptorIndex := 25, attributes := #[] }, { accessFlags := 25, nameIndex := 284, descriptorIndex := 25, attributes := #[] }, { accessFlags := 25, nameIndex := 286, descriptorIndex := 25, attributes := #[] }, { accessFlags := 25, nameIndex := 288, descriptorIndex := 25, attributes := #[] }, { accessFlags := 25, nameIndex := 290, descriptorIndex := 25, attributes := #[] }, { accessFlags := 25, nameIndex := 292, descriptorIndex := 25, attributes := #[] }, { accessFlags := 26, nameIndex := 108, descriptorIndex := 109, attributes := #[] }, { accessFlags := 25, nameIndex := 294, descriptorIndex := 25, attributes := #[] }])
  fields := #[{ name := "U", type := (.object "jdk/internal/misc/Unsafe"), accessFlags := 24, slot := 0, constantValue := 0 }, { name := "BIG_ENDIAN", type := .boolean, accessFlags := 26, slot := 1, constantValue := 0 }, { name := "LOG2_ARRAY_BOOLEAN_INDEX_SCALE", type := .int, accessFlags := 25, slot := 2, constantValue := 0 }, { name := "LOG2_ARRAY_BYTE_INDEX_SCALE", type := .int, accessFlags := 25, slot := 3, constantValue := 0 }, { name := "LOG2_ARRAY_CHAR_INDEX_SCALE", type := .int, accessFlags := 25, slot := 4, constantValue := 0 }, { name := "LOG2_ARRAY_SHORT_INDEX_SCALE", type := .int, accessFlags := 25, slot := 5, constantValue := 0 }, { name := "LOG2_ARRAY_INT_INDEX_SCALE", type := .int, accessFlags := 25, slot := 6, constantValue := 0 }, { name := "LOG2_ARRAY_LONG_INDEX_SCALE", type := .int, accessFlags := 25, slot := 7, constantValue := 0 }, { name := "LOG2_ARRAY_FLOAT_INDEX_SCALE", type := .int, accessFlags := 25, slot := 8, constantValue := 0 }, { name := "LOG2_ARRAY_DOUBLE_INDEX_SCALE", type := .int, accessFlags := 25, slot := 9, constantValue := 0 }, { name := "LOG2_BYTE_BIT_SIZE", type := .int, accessFlags := 26, slot := 10, constantValue := 0 }, { name := "T_BOOLEAN", type := .int, accessFlags := 25, slot := 11, constantValue := 0 }, { name := "T_CHAR", type := .int, accessFlags := 25, slot := 12, constantValue := 0 }, { name := "T_FLOAT", type := .int, accessFlags := 25, slot := 13, constantValue := 0 }, { name := "T_DOUBLE", type := .int, accessFlags := 25, slot := 14, constantValue := 0 }, { name := "T_BYTE", type := .int, accessFlags := 25, slot := 15, constantValue := 0 }, { name := "T_SHORT", type := .int, accessFlags := 25, slot := 16, constantValue := 0 }, { name := "T_INT", type := .int, accessFlags := 25, slot := 17, constantValue := 0 }, { name := "T_LONG", type := .int, accessFlags := 25, slot := 18, constantValue := 0 }, { name := "JLA", type := (.object "jdk/internal/access/JavaLangAccess"), accessFlags := 26, slot := 19, constantValue := 0 }, { name := "SOFT_MAX_ARRAY_LENGTH", type := .int, accessFlags := 25, slot := 20, constantValue := 0 }]
  methods := #[k16m0]
  instanceTypes := #[]
  staticTypes := #[(.object "jdk/internal/misc/Unsafe"), .boolean, .int, .int, .int, .int, .int, .int, .int, .int, .int, .int, .int, .int, .int, .int, .int, .int, .int, (.object "jdk/internal/access/JavaLangAccess"), .int]
  resolved := Array.replicate 378 none
  statics := none }

/-- the primitive byte -/
def k17 : Class := { plain "byte" none with kind := .primitive 'B', accessFlags := 0x411 }
/-- [B -/
def k18 : Class := { plain "[B" (some 0) with kind := .array 17 .byte, interfaces := #[12, 2], accessFlags := 1041 }

/-- the primitive char -/
def k19 : Class := { plain "char" none with kind := .primitive 'C', accessFlags := 0x411 }
/-- [C -/
def k20 : Class := { plain "[C" (some 0) with kind := .array 19 .char, interfaces := #[12, 2], accessFlags := 1041 }

/-- the primitive int -/
def k21 : Class := { plain "int" none with kind := .primitive 'I', accessFlags := 0x411 }
/-- [I -/
def k22 : Class := { plain "[I" (some 0) with kind := .array 21 .int, interfaces := #[12, 2], accessFlags := 1041 }

/-- [Lcom/example/panoptes/panoptes/Caller$Role; -/
def k23 : Class := { plain "[Lcom/example/panoptes/panoptes/Caller$Role;" (some 0) with kind := .array 11 (.object "com/example/panoptes/panoptes/Caller$Role"), interfaces := #[12, 2], accessFlags := 1041 }

def heap : Heap := #[{ cls := 7, slots := #[.long 0, .int 1, .null, .int 0, .null, .int 0, .int 0], vm := .statics 7 },
  { cls := 11, slots := #[.ref 5, .ref 6, .ref 4], vm := .statics 11 },
  { cls := 13, slots := #[.ref 11], vm := .statics 13 },
  { cls := 15, slots := #[.null, .null, .null], vm := .statics 15 },
  { cls := 23, slots := #[.ref 5, .ref 6], vm := .none },
  { cls := 11, slots := #[.null, .int 0, .int 0, .ref 7], vm := .none },
  { cls := 11, slots := #[.null, .int 1, .int 0, .ref 8], vm := .none },
  { cls := 7, slots := #[.ref 9, .int 0, .int 0, .int 0], vm := .none },
  { cls := 7, slots := #[.ref 10, .int 0, .int 0, .int 0], vm := .none },
  { cls := 18, slots := #[.int 112, .int 114, .int 111, .int 100, .int 117, .int 99, .int 101, .int 114], vm := .none },
  { cls := 18, slots := #[.int 119, .int 111, .int 114, .int 107, .int 101, .int 114], vm := .none },
  { cls := 13, slots := #[.null], vm := .none }]
def classes : Array Class := #[k0, k1, k2, k3, k4, k5, k6, k7, k8, k9, k10, k11, k12, k13, k14, k15, k16, k17, k18, k19, k20, k21, k22, k23]
def interned : List (Array UInt16 × Addr) := []
def slotsUsed : Nat := 47
def theMethod : MethodId := ⟨1, 2⟩
def args0 : Array Value := #[.int 5, .int 6, .int 7, .int 8, .int 9, .int 10]
def aboutOver (below : List Frame) : State where
  vm := { classes := classes, interned := interned.toArray }
  heap := heap
  slotsUsed := slotsUsed
  threads := #[{ frames := .invoking theMethod args0 :: below }]
def below0 : List Frame := [.native { method := ⟨0, 0⟩, args := #[] }]
def about1 : State := aboutOver below0
def p0 : Program := .bare "" "" ""
def e0 : Env := launch0.env 0 0 0
theorem w_frames : about1.frames = Frame.invoking theMethod args0 :: below0 := rfl
set_option maxRecDepth 65536 in
theorem w_args : argsFit about1.vm theMethod args0 = true := by decide +kernel
set_option maxRecDepth 65536 in
theorem w_heap : heapFits about1 = true := by decide +kernel
set_option maxRecDepth 65536 in
theorem w_runnable : about1.curStatus? = some .runnable := by decide +kernel
set_option maxRecDepth 65536 in
theorem w_alone : about1.alone = true := by decide +kernel
set_option maxRecDepth 65536 in
theorem w_named : about1.methodNamed? x = some theMethod := by decide +kernel
set_option maxRecDepth 65536 in
theorem w_hears : about1.hears theMethod below0 = true := by decide +kernel
set_option maxRecDepth 65536 in
theorem w_ripe : about1.ripe theMethod args0 below0 = true := by decide +kernel
theorem w_running : about1.status = .running := rfl
set_option maxRecDepth 65536 in
theorem w_room : about1.hasRoom e0.platform room_1 = true :=
  launch0.hasRoom_least _ room_1 (by decide +kernel) (by decide +kernel) (by decide +kernel) (by decide +kernel) (by decide +kernel) (by decide +kernel)
theorem allAtoms_all (ts : List Jvm.Cond) (a : Array Jvm.Value) (st : Jvm.State) : (allAtoms ts).before a st = ts.all (fun c => c.before a st) := by
  induction ts with
  | nil => rfl
  | cons c t ih =>
    show (Jvm.Cond.and c (allAtoms t)).before a st = _
    rw [Jvm.Cond.before_and, ih, List.all_cons]
def words1 : List Jvm.Cond := Jvm.Cond.code x code maxLocals ret :: tables_1
/-- a 'code' word, met by the world's own term for the bytes: nothing is compared byte by byte -/
theorem code_word {y : MethodName} {bytes : ByteArray} {mx : Nat} {rt : Option FieldType} {a : Array Value} {s : State} {m : MethodId} {meth : Method} {c : Code} (h1 : s.methodNamed? y = some m) (h2 : s.vm.method? m = some meth) (h3 : meth.code = some c) (h4 : c.code = bytes)
    (h5 : (c.maxLocals == mx && c.exceptionTable.isEmpty && decide (c.maxStack ≤ mostOperands) && decide (meth.sig.returnType = rt) && !meth.locks && decide (parseMethodDescriptor y.desc = some meth.sig)) = true) : (Jvm.Cond.code y bytes mx rt).before a s = true := by
  simp only [Bool.and_eq_true, beq_iff_eq, Bool.not_eq_true', decide_eq_true_eq] at h5
  obtain ⟨⟨⟨⟨⟨g1, g2⟩, g3⟩, g4⟩, g5⟩, g6⟩ := h5
  simp [Cond.before, Cond.holds, Cond.value, h1, h2, h3, h4, g1, g2, g3, g4, g5, g6]
def isCode : Jvm.Cond → Bool
  | .code _ _ _ _ => true
  | _ => false
theorem all_split {L : List Jvm.Cond} {P : Jvm.Cond → Bool} (h1 : L.all (fun c => isCode c || P c) = true) (h2 : ∀ c ∈ L.filter isCode, P c = true) : L.all P = true := by
  refine List.all_eq_true.mpr fun c hc => ?_
  have h := List.all_eq_true.mp h1 c hc
  rcases Bool.eq_false_or_eq_true (isCode c) with hi | hi
  · exact h2 c (List.mem_filter.mpr ⟨hc, hi⟩)
  · simpa [hi] using h
set_option maxRecDepth 65536 in
theorem w_c0 : (Jvm.Cond.code x code maxLocals ret).before args0 about1 = true := code_word (m := ⟨1, 2⟩) (meth := k1m2) (c := k1c2) (by decide +kernel) rfl rfl rfl (by decide +kernel)
set_option maxRecDepth 65536 in
theorem w_c1 : (Jvm.Cond.code ({ cls := "com/example/panoptes/panoptes/RoleFromListedNamePinLaw", name := "make", desc := "([CI)Ljava/lang/String;" } : Jvm.MethodName) method_2_code (2 : Nat) (Option.some (Jvm.ClassFile.FieldType.object "java/lang/String"))).before args0 about1 = true := code_word (m := ⟨1, 1⟩) (meth := k1m1) (c := k1c1) (by decide +kernel) rfl rfl rfl (by decide +kernel)
set_option maxRecDepth 65536 in
theorem w_c2 : (Jvm.Cond.code ({ cls := "java/lang/String", name := "<init>", desc := "([C)V" } : Jvm.MethodName) jdk_42_method_3_code (2 : Nat) (Option.none : Option Jvm.ClassFile.FieldType)).before args0 about1 = true := code_word (m := ⟨7, 1⟩) (meth := k7m1) (c := k7c1) (by decide +kernel) rfl rfl rfl (by decide +kernel)
set_option maxRecDepth 65536 in
theorem w_c3 : (Jvm.Cond.code ({ cls := "java/lang/String", name := "<init>", desc := "([CIILjava/lang/Void;)V" } : Jvm.MethodName) jdk_42_method_149_code (6 : Nat) (Option.none : Option Jvm.ClassFile.FieldType)).before args0 about1 = true := code_word (m := ⟨7, 3⟩) (meth := k7m3) (c := k7c3) (by decide +kernel) rfl rfl rfl (by decide +kernel)
set_option maxRecDepth 65536 in
theorem w_c4 : (Jvm.Cond.code ({ cls := "java/lang/Object", name := "<init>", desc := "()V" } : Jvm.MethodName) object_method_1_code (1 : Nat) (Option.none : Option Jvm.ClassFile.FieldType)).before args0 about1 = true := code_word (m := ⟨0, 0⟩) (meth := k0m0) (c := k0c0) (by decide +kernel) rfl rfl rfl (by decide +kernel)
set_option maxRecDepth 65536 in
theorem w_c5 : (Jvm.Cond.code ({ cls := "java/lang/StringUTF16", name := "compress", desc := "([CII)[B" } : Jvm.MethodName) jdk_52_method_16_code (6 : Nat) (Option.some (Jvm.ClassFile.FieldType.array Jvm.ClassFile.FieldType.byte))).before args0 about1 = true := code_word (m := ⟨8, 2⟩) (meth := k8m2) (c := k8c2) (by decide +kernel) rfl rfl rfl (by decide +kernel)
set_option maxRecDepth 65536 in
theorem w_c6 : (Jvm.Cond.code ({ cls := "java/lang/StringUTF16", name := "compress", desc := "([CI[BII)I" } : Jvm.MethodName) jdk_52_method_21_code (7 : Nat) (Option.some Jvm.ClassFile.FieldType.int)).before args0 about1 = true := code_word (m := ⟨8, 3⟩) (meth := k8m3) (c := k8c3) (by decide +kernel) rfl rfl rfl (by decide +kernel)
set_option maxRecDepth 65536 in
theorem w_c7 : (Jvm.Cond.code ({ cls := "java/lang/StringUTF16", name := "coderFromArrayLen", desc := "([BI)B" } : Jvm.MethodName) jdk_52_method_15_code (2 : Nat) (Option.some Jvm.ClassFile.FieldType.byte)).before args0 about1 = true := code_word (m := ⟨8, 1⟩) (meth := k8m1) (c := k8c1) (by decide +kernel) rfl rfl rfl (by decide +kernel)
set_option maxRecDepth 65536 in
theorem w_c8 : (Jvm.Cond.code ({ cls := "java/lang/String", name := "equals", desc := "(Ljava/lang/Object;)Z" } : Jvm.MethodName) jdk_42_method_66_code (3 : Nat) (Option.some Jvm.ClassFile.FieldType.boolean)).before args0 about1 = true := code_word (m := ⟨7, 2⟩) (meth := k7m2) (c := k7c2) (by decide +kernel) rfl rfl rfl (by decide +kernel)
set_option maxRecDepth 65536 in
theorem w_c9 : (Jvm.Cond.code ({ cls := "java/lang/StringLatin1", name := "equals", desc := "([B[B)Z" } : Jvm.MethodName) jdk_43_method_13_code (3 : Nat) (Option.some Jvm.ClassFile.FieldType.boolean)).before args0 about1 = true := code_word (m := ⟨9, 1⟩) (meth := k9m1) (c := k9c1) (by decide +kernel) rfl rfl rfl (by decide +kernel)
set_option maxRecDepth 65536 in
theorem w_c10 : (Jvm.Cond.code ({ cls := "com/example/panoptes/panoptes/Caller$Role", name := "fromListedName", desc := "(Ljava/lang/String;)Ljava/util/Optional;" } : Jvm.MethodName) prog_4_method_5_code (5 : Nat) (Option.some (Jvm.ClassFile.FieldType.object "java/util/Optional"))).before args0 about1 = true := code_word (m := ⟨11, 1⟩) (meth := k11m1) (c := k11c1) (by decide +kernel) rfl rfl rfl (by decide +kernel)
set_option maxRecDepth 65536 in
theorem w_c11 : (Jvm.Cond.code ({ cls := "com/example/panoptes/panoptes/Caller$Role", name := "values", desc := "()[Lcom/example/panoptes/panoptes/Caller$Role;" } : Jvm.MethodName) prog_4_method_1_code (0 : Nat) (Option.some (Jvm.ClassFile.FieldType.array (Jvm.ClassFile.FieldType.object "com/example/panoptes/panoptes/Caller$Role")))).before args0 about1 = true := code_word (m := ⟨11, 0⟩) (meth := k11m0) (c := k11c0) (by decide +kernel) rfl rfl rfl (by decide +kernel)
set_option maxRecDepth 65536 in
theorem w_c12 : (Jvm.Cond.code ({ cls := "java/util/Optional", name := "of", desc := "(Ljava/lang/Object;)Ljava/util/Optional;" } : Jvm.MethodName) jdk_32_method_3_code (1 : Nat) (Option.some (Jvm.ClassFile.FieldType.object "java/util/Optional"))).before args0 about1 = true := code_word (m := ⟨13, 2⟩) (meth := k13m2) (c := k13c2) (by decide +kernel) rfl rfl rfl (by decide +kernel)
set_option maxRecDepth 65536 in
theorem w_c13 : (Jvm.Cond.code ({ cls := "java/util/Objects", name := "requireNonNull", desc := "(Ljava/lang/Object;)Ljava/lang/Object;" } : Jvm.MethodName) jdk_31_method_10_code (1 : Nat) (Option.some (Jvm.ClassFile.FieldType.object "java/lang/Object"))).before args0 about1 = true := code_word (m := ⟨14, 1⟩) (meth := k14m1) (c := k14c1) (by decide +kernel) rfl rfl rfl (by decide +kernel)
set_option maxRecDepth 65536 in
theorem w_c14 : (Jvm.Cond.code ({ cls := "java/util/Optional", name := "<init>", desc := "(Ljava/lang/Object;)V" } : Jvm.MethodName) jdk_32_method_2_code (2 : Nat) (Option.none : Option Jvm.ClassFile.FieldType)).before args0 about1 = true := code_word (m := ⟨13, 1⟩) (meth := k13m1) (c := k13c1) (by decide +kernel) rfl rfl rfl (by decide +kernel)
set_option maxRecDepth 65536 in
theorem w_c15 : (Jvm.Cond.code ({ cls := "java/util/Optional", name := "orElse", desc := "(Ljava/lang/Object;)Ljava/lang/Object;" } : Jvm.MethodName) jdk_32_method_15_code (2 : Nat) (Option.some (Jvm.ClassFile.FieldType.object "java/lang/Object"))).before args0 about1 = true := code_word (m := ⟨13, 3⟩) (meth := k13m3) (c := k13c3) (by decide +kernel) rfl rfl rfl (by decide +kernel)
set_option maxRecDepth 65536 in
theorem w_c16 : (Jvm.Cond.code ({ cls := "java/util/Optional", name := "empty", desc := "()Ljava/util/Optional;" } : Jvm.MethodName) jdk_32_method_1_code (1 : Nat) (Option.some (Jvm.ClassFile.FieldType.object "java/util/Optional"))).before args0 about1 = true := code_word (m := ⟨13, 0⟩) (meth := k13m0) (c := k13c0) (by decide +kernel) rfl rfl rfl (by decide +kernel)
def codes1 : List Jvm.Cond := [Jvm.Cond.code x code maxLocals ret, Jvm.Cond.code ({ cls := "com/example/panoptes/panoptes/RoleFromListedNamePinLaw", name := "make", desc := "([CI)Ljava/lang/String;" } : Jvm.MethodName) method_2_code (2 : Nat) (Option.some (Jvm.ClassFile.FieldType.object "java/lang/String")), Jvm.Cond.code ({ cls := "java/lang/String", name := "<init>", desc := "([C)V" } : Jvm.MethodName) jdk_42_method_3_code (2 : Nat) (Option.none : Option Jvm.ClassFile.FieldType), Jvm.Cond.code ({ cls := "java/lang/String", name := "<init>", desc := "([CIILjava/lang/Void;)V" } : Jvm.MethodName) jdk_42_method_149_code (6 : Nat) (Option.none : Option Jvm.ClassFile.FieldType), Jvm.Cond.code ({ cls := "java/lang/Object", name := "<init>", desc := "()V" } : Jvm.MethodName) object_method_1_code (1 : Nat) (Option.none : Option Jvm.ClassFile.FieldType), Jvm.Cond.code ({ cls := "java/lang/StringUTF16", name := "compress", desc := "([CII)[B" } : Jvm.MethodName) jdk_52_method_16_code (6 : Nat) (Option.some (Jvm.ClassFile.FieldType.array Jvm.ClassFile.FieldType.byte)), Jvm.Cond.code ({ cls := "java/lang/StringUTF16", name := "compress", desc := "([CI[BII)I" } : Jvm.MethodName) jdk_52_method_21_code (7 : Nat) (Option.some Jvm.ClassFile.FieldType.int), Jvm.Cond.code ({ cls := "java/lang/StringUTF16", name := "coderFromArrayLen", desc := "([BI)B" } : Jvm.MethodName) jdk_52_method_15_code (2 : Nat) (Option.some Jvm.ClassFile.FieldType.byte), Jvm.Cond.code ({ cls := "java/lang/String", name := "equals", desc := "(Ljava/lang/Object;)Z" } : Jvm.MethodName) jdk_42_method_66_code (3 : Nat) (Option.some Jvm.ClassFile.FieldType.boolean), Jvm.Cond.code ({ cls := "java/lang/StringLatin1", name := "equals", desc := "([B[B)Z" } : Jvm.MethodName) jdk_43_method_13_code (3 : Nat) (Option.some Jvm.ClassFile.FieldType.boolean), Jvm.Cond.code ({ cls := "com/example/panoptes/panoptes/Caller$Role", name := "fromListedName", desc := "(Ljava/lang/String;)Ljava/util/Optional;" } : Jvm.MethodName) prog_4_method_5_code (5 : Nat) (Option.some (Jvm.ClassFile.FieldType.object "java/util/Optional")), Jvm.Cond.code ({ cls := "com/example/panoptes/panoptes/Caller$Role", name := "values", desc := "()[Lcom/example/panoptes/panoptes/Caller$Role;" } : Jvm.MethodName) prog_4_method_1_code (0 : Nat) (Option.some (Jvm.ClassFile.FieldType.array (Jvm.ClassFile.FieldType.object "com/example/panoptes/panoptes/Caller$Role"))), Jvm.Cond.code ({ cls := "java/util/Optional", name := "of", desc := "(Ljava/lang/Object;)Ljava/util/Optional;" } : Jvm.MethodName) jdk_32_method_3_code (1 : Nat) (Option.some (Jvm.ClassFile.FieldType.object "java/util/Optional")), Jvm.Cond.code ({ cls := "java/util/Objects", name := "requireNonNull", desc := "(Ljava/lang/Object;)Ljava/lang/Object;" } : Jvm.MethodName) jdk_31_method_10_code (1 : Nat) (Option.some (Jvm.ClassFile.FieldType.object "java/lang/Object")), Jvm.Cond.code ({ cls := "java/util/Optional", name := "<init>", desc := "(Ljava/lang/Object;)V" } : Jvm.MethodName) jdk_32_method_2_code (2 : Nat) (Option.none : Option Jvm.ClassFile.FieldType), Jvm.Cond.code ({ cls := "java/util/Optional", name := "orElse", desc := "(Ljava/lang/Object;)Ljava/lang/Object;" } : Jvm.MethodName) jdk_32_method_15_code (2 : Nat) (Option.some (Jvm.ClassFile.FieldType.object "java/lang/Object")), Jvm.Cond.code ({ cls := "java/util/Optional", name := "empty", desc := "()Ljava/util/Optional;" } : Jvm.MethodName) jdk_32_method_1_code (1 : Nat) (Option.some (Jvm.ClassFile.FieldType.object "java/util/Optional"))]
set_option maxRecDepth 65536 in
theorem codes_eq : words1.filter isCode = codes1 := rfl
theorem w_codes : ∀ c ∈ words1.filter isCode, c.before args0 about1 = true := by
  rw [codes_eq]
  intro c hc
  simp only [codes1, List.mem_cons, List.not_mem_nil, or_false] at hc
  rcases hc with rfl | rfl | rfl | rfl | rfl | rfl | rfl | rfl | rfl | rfl | rfl | rfl | rfl | rfl | rfl | rfl | rfl
  · exact w_c0
  · exact w_c1
  · exact w_c2
  · exact w_c3
  · exact w_c4
  · exact w_c5
  · exact w_c6
  · exact w_c7
  · exact w_c8
  · exact w_c9
  · exact w_c10
  · exact w_c11
  · exact w_c12
  · exact w_c13
  · exact w_c14
  · exact w_c15
  · exact w_c16
set_option maxRecDepth 65536 in
theorem w_t1 : (words1.take 24).all (fun c => isCode c || c.before args0 about1) = true := by decide +kernel
set_option maxRecDepth 65536 in
theorem w_t2 : ((words1.drop 24).take 24).all (fun c => isCode c || c.before args0 about1) = true := by decide +kernel
set_option maxRecDepth 65536 in
theorem w_t3 : (((words1.drop 24).drop 24).take 24).all (fun c => isCode c || c.before args0 about1) = true := by decide +kernel
set_option maxRecDepth 65536 in
theorem w_t4 : ((((words1.drop 24).drop 24).drop 24).take 24).all (fun c => isCode c || c.before args0 about1) = true := by decide +kernel
set_option maxRecDepth 65536 in
theorem w_t5 : ((((words1.drop 24).drop 24).drop 24).drop 24).all (fun c => isCode c || c.before args0 about1) = true := by decide +kernel
theorem w_tables : (allAtoms (Jvm.Cond.code x code maxLocals ret :: tables_1)).before args0 about1 = true := by
  rw [allAtoms_all]
  show words1.all (fun c => c.before args0 about1) = true
  refine all_split ?_ w_codes
  rw [← List.take_append_drop 24 words1, List.all_append, w_t1, ← List.take_append_drop 24 (words1.drop 24), List.all_append, w_t2, ← List.take_append_drop 24 ((words1.drop 24).drop 24), List.all_append, w_t3, ← List.take_append_drop 24 (((words1.drop 24).drop 24).drop 24), List.all_append, w_t4, w_t5]
  rfl
set_option maxRecDepth 65536 in
theorem w_rest : rest_1_c.before args0 about1 = true := by decide +kernel
set_option maxRecDepth 65536 in
theorem w_case : (Jvm.Cond.and given_1 narrow_1).before args0 about1 = true := by decide +kernel
set_option maxRecDepth 65536 in
theorem w_consts : constsHeld consts_1 about1 := Jvm.Lit.constsHeldB_iff.mp (by decide +kernel)
theorem w_applies : (headSpec (Jvm.Cond.code x code maxLocals ret :: tables_1) room_1).applies x e0.platform about1 = true :=
  (Spec.applies_iff w_frames).mpr ⟨w_running, w_runnable, w_alone, w_named, w_hears, w_ripe, w_room, w_tables⟩
theorem atStart : AtStart classFile x code maxLocals ret World_1 tables_1 room_1 Calls_1 rest_1 Pre_1 launch0 p0 e0 about1 theMethod args0 below0 :=
  ⟨lists_1, trivial, launch0.admits_env _ _ _, launch0.least_env, fairChoices_fair.cas, fairChoices_fair.clock, w_frames, w_args, w_heap, w_applies, ⟨w_consts, trivial⟩, w_rest, w_case⟩
end start1
theorem witness_1 : WitnessClaimed_1 := ⟨start1.p0, start1.e0, start1.about1, start1.theMethod, start1.args0, start1.below0, start1.atStart⟩
end Jvm.Pilot.@@N@@
