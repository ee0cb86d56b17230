import JvmDerived
import JvmDerived.Pilot.@@N@@Statement
import JvmDerived.Pilot.@@N@@Code
set_option linter.unusedVariables false
set_option linter.unusedSimpArgs false
namespace Jvm.Pilot.@@N@@
open Jvm Jvm.ClassFile Sem Op Lib Jvm.Free Jvm.Stand Jvm.LawKit Jvm.RoadKit Bundle Jvm.Pilot.@@N@@.Jvm.D
section Own
variable {p : Program} {l : Launch} {e : Env} {R : Room} {s : State} {m : MethodId} {args : Array Value} {below : List Frame} {meth : Method} {c : Code} {T T' : State} {cells slots : Nat} {Z : State} {bytes : ByteArray} {mL : Nat} {ret : Option FieldType} {own nm : String} {Q : Option Value → Heap → Prop} {cC cS : Nat} {pc : Nat} {Ls : Array Slot} {st : List Value} {a0 : Array Value} {g g' : JFrame}
/-- the walk stands at T, so many cells and slots made, nothing old written -/
def Wk (l : Launch) (Z : State) (R : Room) (bytes : ByteArray) (mL : Nat) (ret : Option FieldType) (own nm : String) (p : Program) (e : Env) (s : State) (m : MethodId) (args : Array Value) (below : List Frame) (meth : Method) (c : Code) (T : State) (cells slots : Nat) : Prop :=
  (p.tables.exec = Jvm.exec ∧ c.code = bytes ∧ c.maxLocals = mL ∧ meth.sig.returnType = ret ∧ meth.locks = false ∧ s.vm.findClass own = some m.cls ∧ meth.name = nm ∧ Z.Warmed39 s.vm) ∧
  ∃ locs, Stand p l e R s m args below meth c T locs cells slots ∧ Fr Z.heap.size locs ∧ Ext Z.heap T.heap
/-- from T with frame g the method comes to its end, and Q holds there -/
def Ends (p : Program) (e : Env) (below : List Frame) (s : State) (Z : State) (Q : Option Value → Heap → Prop) (cC cS : Nat) (T : State) (g : JFrame) : Prop :=
  ∃ t o, Steps p.tables e below (T.setTop g) t ∧ t.status = .running ∧ Ended t below o ∧ ∃ v L, o = .returned v ∧ (Fr Z.heap.size L ∧ Ext Z.heap t.heap ∧ Q v t.heap) ∧ FrameEnd s o t L cC cS
/-- a method's contract -/
def Ct (l : Launch) (Z : State) (y : MethodName) (bytes : ByteArray) (mL : Nat) (ret : Option FieldType) (rm : Room) (as' : Array Value) (h : Heap) (Q : Option Value → Heap → Prop) : Prop :=
  ∀ ws, MetFree l y (head1 (Jvm.Cond.code y bytes mL ret :: ws) rm) (fun a U => a = as' ∧ Z.Warmed39 U.vm ∧ U.heap = h) (fun _ _ _ _ _ => True) (fun _ U o U' => ∃ v L, o = .returned v ∧ (Fr Z.heap.size L ∧ Ext Z.heap U'.heap ∧ Q v U'.heap) ∧ FrameEnd U o U' L rm.cells rm.slots)
theorem Wk.hx (X : Wk l Z R bytes mL ret own nm p e s m args below meth c T cells slots) : p.tables.exec = Jvm.exec := X.1.1
theorem Wk.hb (X : Wk l Z R bytes mL ret own nm p e s m args below meth c T cells slots) {pc : Nat} {r : Except DecodeError (Instr × Nat)} (h : decode bytes pc = r) : decode c.code pc = r := X.1.2.1 ▸ h
theorem Wk.hown (X : Wk l Z R bytes mL ret own nm p e s m args below meth c T cells slots) : s.vm.findClass own = some m.cls := X.1.2.2.2.2.2.1
theorem Wk.hZ (X : Wk l Z R bytes mL ret own nm p e s m args below meth c T cells slots) : Z.Warmed39 s.vm := X.1.2.2.2.2.2.2.2
theorem Wk.at (X : Wk l Z R bytes mL ret own nm p e s m args below meth c T cells slots) : At T m c below := by obtain ⟨-, _, X, -⟩ := X; exact X.here
theorem Wk.old (X : Wk l Z R bytes mL ret own nm p e s m args below meth c T cells slots) : Ext Z.heap T.heap := by obtain ⟨-, _, -, -, X⟩ := X; exact X
theorem Wk.le (X : Wk l Z R bytes mL ret own nm p e s m args below meth c T cells slots) : Z.heap.size ≤ T.heap.size := X.old.1
theorem Wk.size (X : Wk l Z R bytes mL ret own nm p e s m args below meth c T cells slots) (h : Ls.size = mL) {pc : Nat} {st : List Value} : (mkF m pc Ls st).locals.size = c.maxLocals := h.trans X.1.2.2.1.symm
theorem Wk.more (X : Wk l Z R bytes mL ret own nm p e s m args below meth c T cells slots) {cells' slots' : Nat} (h1 : cells ≤ cells') (h2 : slots ≤ slots') : Wk l Z R bytes mL ret own nm p e s m args below meth c T cells' slots' := by
  obtain ⟨q, locs, Y, r⟩ := X; exact ⟨q, locs, Y.more h1 h2, r⟩
theorem E_by (f : ∀ target, Steps p.tables e below (T'.setTop g') target → Steps p.tables e below (T.setTop g) target) (k : Ends p e below s Z Q cC cS T' g') : Ends p e below s Z Q cC cS T g := by
  obtain ⟨t, o, h1, r⟩ := k; exact ⟨t, o, f _ h1, r⟩
theorem E_tr (f : Steps p.tables e below (T.setTop g) (T'.setTop g')) (k : Ends p e below s Z Q cC cS T' g') : Ends p e below s Z Q cC cS T g := E_by (fun _ q => f.trans q) k
theorem Keep.of_ext {h h' : Heap} (E : Ext h h') : Keep h h' [] := (Keep.refl h []).ext E
theorem own_keq {h h1 h2 : Heap} {ws : List Addr} (K : Keep h h1 ws) (q : h2 = h1) : Keep h h2 ws := q ▸ K
theorem Keep.old {h h' : Heap} {ws : List Addr} (O : Ext Z.heap h) (K : Keep h h' ws) (q : ∀ x ∈ ws, Z.heap.size ≤ x) : Ext Z.heap h' := ⟨Nat.le_trans O.1 K.1, fun x c r => K.2.1 x c (O.2 x c r) fun z => absurd (Array.getElem?_eq_some_iff.mp r).1 (Nat.not_lt.mpr (q x z))⟩
theorem Ct.of_body {y1 y2 y3 : String} {rm : Room} {as' : Array Value} {h : Heap} (pn : plainFor ⟨y1, y2, y3⟩ = true) (O : Ext Z.heap h) (ef : ∀ m, entryFrame m as' mL = mkF m 0 Ls [])
    (k : ∀ {p : Program} {e : Env} {s : State} {m : MethodId} {below : List Frame} {meth : Method} {c : Code} {T : State}, Wk l Z rm bytes mL ret y1 y2 p e s m as' below meth c T 0 0 → T.heap = h → Ends p e below s Z Q rm.cells rm.slots T (mkF m 0 Ls [])) : Ct l Z ⟨y1, y2, y3⟩ bytes mL ret rm as' h Q := by
  intro ws
  refine MetFree.of_bodySF pn hisR ?_
  intro p e s m args below meth c s₁ Bd hml0 hP hK
  obtain ⟨rfl, hZ, hh⟩ := hP
  have e0 : s₁.heap = h := by rw [← hh, Bd.state]; rfl
  have X : Wk l Z rm bytes mL ret y1 y2 p e s m args below meth c s₁ 0 0 := ⟨⟨Bd.exec, Bd.bytes, hml0, Bd.returns, Bd.notSynchronized, findClass_of_methodNamed Bd.named, (name_of_methodNamed Bd.named Bd.method).1, hZ⟩, [], Stand.of_body Bd, Fr.nil _, e0 ▸ O⟩
  obtain ⟨t, o, h1, r⟩ := k X e0
  exact ⟨t, o, castTop (ef m) h1, r⟩
theorem Ct.back {y : MethodName} {rm : Room} {as' : Array Value} {h : Heap} {mL' : Nat} {bytes' : ByteArray} {ret' : Option FieldType} {Q' : Option Value → Heap → Prop} (hC : Ct l Z y bytes' mL' ret' rm as' h Q') {len W : Nat}
    (hZ : Z.Warmed39 s.vm) (wc : (Jvm.Cond.code y bytes' mL' ret').before a0 Z = true) (wz : (Jvm.Cond.initialized y.cls).before a0 Z = true) (hf : rm.frames + 1 ≤ R.frames) (hl : W + (mL' + 11) + rm.locals ≤ R.locals) :
    Back l R p e below s args y len W (fun A a => a = as' ∧ A.U.heap = h ∧ A.cells + rm.cells ≤ R.cells ∧ A.slots + rm.slots ≤ R.slots)
      (fun A _ v B => ∃ L, (Fr Z.heap.size L ∧ Ext Z.heap B.U.heap ∧ Q' v B.U.heap) ∧ B.locs = A.locs ++ L ∧ B.cells = A.cells + rm.cells ∧ B.slots = A.slots + rm.slots) :=
  backOf (Q := fun v h L => Fr Z.heap.size L ∧ Ext Z.heap h ∧ Q' v h) (hC []) hZ wc wz hf hl

theorem E_aloadN (X : Wk l Z R bytes mL ret own nm p e s m args below meth c T cells slots) {j : Fin 4} {v : Value} (hd : decode bytes pc = .ok (.aload_n j, 1)) (hl : Ls[j.val]? = some (.val v)) (hv : v.isRef = true) {pc' : Nat} (hp : pc + 1 = pc') (k : Ends p e below s Z Q cC cS T (mkF m pc' Ls (v :: st))) : Ends p e below s Z Q cC cS T (mkF m pc Ls (st)) := by
  subst hp; exact E_by (fun _ q => XS.aloadN X.at X.hx rfl (X.hb hd) hl hv q) k
theorem E_aload (X : Wk l Z R bytes mL ret own nm p e s m args below meth c T cells slots) {j : Nat} {v : Value} (hd : decode bytes pc = .ok (.aload j, 2)) (hl : Ls[j]? = some (.val v)) (hv : v.isRef = true) {pc' : Nat} (hp : pc + 2 = pc') (k : Ends p e below s Z Q cC cS T (mkF m pc' Ls (v :: st))) : Ends p e below s Z Q cC cS T (mkF m pc Ls (st)) := by
  subst hp; exact E_by (fun _ q => XS.aload X.at X.hx rfl (X.hb hd) hl hv q) k
theorem E_iloadN (X : Wk l Z R bytes mL ret own nm p e s m args below meth c T cells slots) {j : Fin 4} {v : Int32} (hd : decode bytes pc = .ok (.iload_n j, 1)) (hl : Ls[j.val]? = some (.val (.int v))) {pc' : Nat} (hp : pc + 1 = pc') (k : Ends p e below s Z Q cC cS T (mkF m pc' Ls (.int v :: st))) : Ends p e below s Z Q cC cS T (mkF m pc Ls (st)) := by
  subst hp; exact E_by (fun _ q => XS.iloadN X.at X.hx rfl (X.hb hd) hl q) k
theorem E_iload (X : Wk l Z R bytes mL ret own nm p e s m args below meth c T cells slots) {j : Nat} {v : Int32} (hd : decode bytes pc = .ok (.iload j, 2)) (hl : Ls[j]? = some (.val (.int v))) {pc' : Nat} (hp : pc + 2 = pc') (k : Ends p e below s Z Q cC cS T (mkF m pc' Ls (.int v :: st))) : Ends p e below s Z Q cC cS T (mkF m pc Ls (st)) := by
  subst hp; exact E_by (fun _ q => XS.iload X.at X.hx rfl (X.hb hd) hl q) k
theorem E_aconstNull (X : Wk l Z R bytes mL ret own nm p e s m args below meth c T cells slots) (hd : decode bytes pc = .ok (.aconst_null, 1)) {pc' : Nat} (hp : pc + 1 = pc') (k : Ends p e below s Z Q cC cS T (mkF m pc' Ls (.null :: st))) : Ends p e below s Z Q cC cS T (mkF m pc Ls (st)) := by
  subst hp; exact E_by (fun _ q => XS.aconstNull X.at X.hx rfl (X.hb hd) q) k
theorem E_iconst (X : Wk l Z R bytes mL ret own nm p e s m args below meth c T cells slots) {i : Int} {v : Int32} (hd : decode bytes pc = .ok (.iconst i, 1)) (hv : Int32.ofInt i = v) {pc' : Nat} (hp : pc + 1 = pc') (k : Ends p e below s Z Q cC cS T (mkF m pc' Ls (.int v :: st))) : Ends p e below s Z Q cC cS T (mkF m pc Ls st) := by
  subst hp hv; exact E_by (fun _ q => XS.iconst X.at X.hx rfl (X.hb hd) q) k
theorem E_bipush (X : Wk l Z R bytes mL ret own nm p e s m args below meth c T cells slots) {i : Int} {v : Int32} (hd : decode bytes pc = .ok (.bipush i, 2)) (hv : (Int8.ofInt i).toInt32 = v) {pc' : Nat} (hp : pc + 2 = pc') (k : Ends p e below s Z Q cC cS T (mkF m pc' Ls (.int v :: st))) : Ends p e below s Z Q cC cS T (mkF m pc Ls st) := by
  subst hp hv; exact E_by (fun _ q => XS.bipush X.at X.hx rfl (X.hb hd) q) k
theorem E_sipush (X : Wk l Z R bytes mL ret own nm p e s m args below meth c T cells slots) {i : Int} {v : Int32} (hd : decode bytes pc = .ok (.sipush i, 3)) (hv : (Int16.ofInt i).toInt32 = v) {pc' : Nat} (hp : pc + 3 = pc') (k : Ends p e below s Z Q cC cS T (mkF m pc' Ls (.int v :: st))) : Ends p e below s Z Q cC cS T (mkF m pc Ls st) := by
  subst hp hv; exact E_by (fun _ q => XS.sipush X.at X.hx rfl (X.hb hd) q) k
theorem E_iadd (X : Wk l Z R bytes mL ret own nm p e s m args below meth c T cells slots) {x y v : Int32} (hd : decode bytes pc = .ok (.iadd, 1)) (hv : x + y = v) {pc' : Nat} (hp : pc + 1 = pc') (k : Ends p e below s Z Q cC cS T (mkF m pc' Ls (.int v :: st))) : Ends p e below s Z Q cC cS T (mkF m pc Ls (.int y :: .int x :: st)) := by
  subst hp hv; exact E_by (fun _ q => XS.iadd X.at X.hx rfl (X.hb hd) rfl q) k
theorem E_isub (X : Wk l Z R bytes mL ret own nm p e s m args below meth c T cells slots) {x y v : Int32} (hd : decode bytes pc = .ok (.isub, 1)) (hv : x - y = v) {pc' : Nat} (hp : pc + 1 = pc') (k : Ends p e below s Z Q cC cS T (mkF m pc' Ls (.int v :: st))) : Ends p e below s Z Q cC cS T (mkF m pc Ls (.int y :: .int x :: st)) := by
  subst hp hv; exact E_by (fun _ q => XS.isub X.at X.hx rfl (X.hb hd) rfl q) k
theorem E_imul (X : Wk l Z R bytes mL ret own nm p e s m args below meth c T cells slots) {x y v : Int32} (hd : decode bytes pc = .ok (.imul, 1)) (hv : x * y = v) {pc' : Nat} (hp : pc + 1 = pc') (k : Ends p e below s Z Q cC cS T (mkF m pc' Ls (.int v :: st))) : Ends p e below s Z Q cC cS T (mkF m pc Ls (.int y :: .int x :: st)) := by
  subst hp hv; exact E_by (fun _ q => XS.imul X.at X.hx rfl (X.hb hd) rfl q) k
theorem E_iand (X : Wk l Z R bytes mL ret own nm p e s m args below meth c T cells slots) {x y v : Int32} (hd : decode bytes pc = .ok (.iand, 1)) (hv : x &&& y = v) {pc' : Nat} (hp : pc + 1 = pc') (k : Ends p e below s Z Q cC cS T (mkF m pc' Ls (.int v :: st))) : Ends p e below s Z Q cC cS T (mkF m pc Ls (.int y :: .int x :: st)) := by
  subst hp hv; exact E_by (fun _ q => XS.iand X.at X.hx rfl (X.hb hd) rfl q) k
theorem E_ior (X : Wk l Z R bytes mL ret own nm p e s m args below meth c T cells slots) {x y v : Int32} (hd : decode bytes pc = .ok (.ior, 1)) (hv : x ||| y = v) {pc' : Nat} (hp : pc + 1 = pc') (k : Ends p e below s Z Q cC cS T (mkF m pc' Ls (.int v :: st))) : Ends p e below s Z Q cC cS T (mkF m pc Ls (.int y :: .int x :: st)) := by
  subst hp hv; exact E_by (fun _ q => XS.ior X.at X.hx rfl (X.hb hd) rfl q) k
theorem E_ixor (X : Wk l Z R bytes mL ret own nm p e s m args below meth c T cells slots) {x y v : Int32} (hd : decode bytes pc = .ok (.ixor, 1)) (hv : x ^^^ y = v) {pc' : Nat} (hp : pc + 1 = pc') (k : Ends p e below s Z Q cC cS T (mkF m pc' Ls (.int v :: st))) : Ends p e below s Z Q cC cS T (mkF m pc Ls (.int y :: .int x :: st)) := by
  subst hp hv; exact E_by (fun _ q => XS.ixor X.at X.hx rfl (X.hb hd) rfl q) k
theorem E_ishl (X : Wk l Z R bytes mL ret own nm p e s m args below meth c T cells slots) {x y v : Int32} (hd : decode bytes pc = .ok (.ishl, 1)) (hv : x <<< (y &&& 31) = v) {pc' : Nat} (hp : pc + 1 = pc') (k : Ends p e below s Z Q cC cS T (mkF m pc' Ls (.int v :: st))) : Ends p e below s Z Q cC cS T (mkF m pc Ls (.int y :: .int x :: st)) := by
  subst hp hv; exact E_by (fun _ q => XS.ishl X.at X.hx rfl (X.hb hd) rfl q) k
theorem E_ishr (X : Wk l Z R bytes mL ret own nm p e s m args below meth c T cells slots) {x y v : Int32} (hd : decode bytes pc = .ok (.ishr, 1)) (hv : x >>> (y &&& 31) = v) {pc' : Nat} (hp : pc + 1 = pc') (k : Ends p e below s Z Q cC cS T (mkF m pc' Ls (.int v :: st))) : Ends p e below s Z Q cC cS T (mkF m pc Ls (.int y :: .int x :: st)) := by
  subst hp hv; exact E_by (fun _ q => XS.ishr X.at X.hx rfl (X.hb hd) rfl q) k
theorem E_iushr (X : Wk l Z R bytes mL ret own nm p e s m args below meth c T cells slots) {x y v : Int32} (hd : decode bytes pc = .ok (.iushr, 1)) (hv : (x.toUInt32 >>> (y &&& 31).toUInt32).toInt32 = v) {pc' : Nat} (hp : pc + 1 = pc') (k : Ends p e below s Z Q cC cS T (mkF m pc' Ls (.int v :: st))) : Ends p e below s Z Q cC cS T (mkF m pc Ls (.int y :: .int x :: st)) := by
  subst hp hv; exact E_by (fun _ q => XS.iushr X.at X.hx rfl (X.hb hd) rfl q) k
theorem E_ineg (X : Wk l Z R bytes mL ret own nm p e s m args below meth c T cells slots) {x v : Int32} (hd : decode bytes pc = .ok (.ineg, 1)) (hv : -x = v) {pc' : Nat} (hp : pc + 1 = pc') (k : Ends p e below s Z Q cC cS T (mkF m pc' Ls (.int v :: st))) : Ends p e below s Z Q cC cS T (mkF m pc Ls (.int x :: st)) := by
  subst hp hv; exact E_by (fun _ q => XS.ineg X.at X.hx rfl (X.hb hd) rfl q) k
theorem E_i2c (X : Wk l Z R bytes mL ret own nm p e s m args below meth c T cells slots) {x v : Int32} (hd : decode bytes pc = .ok (.i2c, 1)) (hv : x.toUInt32.toUInt16.toUInt32.toInt32 = v) {pc' : Nat} (hp : pc + 1 = pc') (k : Ends p e below s Z Q cC cS T (mkF m pc' Ls (.int v :: st))) : Ends p e below s Z Q cC cS T (mkF m pc Ls (.int x :: st)) := by
  subst hp hv; exact E_by (fun _ q => XS.i2c X.at X.hx rfl (X.hb hd) rfl q) k
theorem E_i2b (X : Wk l Z R bytes mL ret own nm p e s m args below meth c T cells slots) {x v : Int32} (hd : decode bytes pc = .ok (.i2b, 1)) (hv : x.toInt8.toInt32 = v) {pc' : Nat} (hp : pc + 1 = pc') (k : Ends p e below s Z Q cC cS T (mkF m pc' Ls (.int v :: st))) : Ends p e below s Z Q cC cS T (mkF m pc Ls (.int x :: st)) := by
  subst hp hv; exact E_by (fun _ q => XS.i2b X.at X.hx rfl (X.hb hd) rfl q) k
theorem E_i2s (X : Wk l Z R bytes mL ret own nm p e s m args below meth c T cells slots) {x v : Int32} (hd : decode bytes pc = .ok (.i2s, 1)) (hv : x.toInt16.toInt32 = v) {pc' : Nat} (hp : pc + 1 = pc') (k : Ends p e below s Z Q cC cS T (mkF m pc' Ls (.int v :: st))) : Ends p e below s Z Q cC cS T (mkF m pc Ls (.int x :: st)) := by
  subst hp hv; exact E_by (fun _ q => XS.i2s X.at X.hx rfl (X.hb hd) rfl q) k
theorem E_dup (X : Wk l Z R bytes mL ret own nm p e s m args below meth c T cells slots) {v : Value} (hd : decode bytes pc = .ok (.dup, 1)) (hc : v.category = 1) {pc' : Nat} (hp : pc + 1 = pc') (k : Ends p e below s Z Q cC cS T (mkF m pc' Ls (v :: v :: st))) : Ends p e below s Z Q cC cS T (mkF m pc Ls (v :: st)) := by
  subst hp; exact E_by (fun _ q => XS.dup X.at X.hx rfl (X.hb hd) rfl hc q) k
theorem E_dupx1 (X : Wk l Z R bytes mL ret own nm p e s m args below meth c T cells slots) {v u : Value} (hd : decode bytes pc = .ok (.dup_x1, 1)) (hc : v.category = 1) (hc2 : u.category = 1) {pc' : Nat} (hp : pc + 1 = pc') (k : Ends p e below s Z Q cC cS T (mkF m pc' Ls (v :: u :: v :: st))) : Ends p e below s Z Q cC cS T (mkF m pc Ls (v :: u :: st)) := by
  subst hp; exact E_by (fun _ q => XT.dupX1 X.at X.hx rfl (X.hb hd) rfl hc hc2 q) k
theorem E_pop (X : Wk l Z R bytes mL ret own nm p e s m args below meth c T cells slots) {v : Value} (hd : decode bytes pc = .ok (.pop, 1)) (hc : v.category = 1) {pc' : Nat} (hp : pc + 1 = pc') (k : Ends p e below s Z Q cC cS T (mkF m pc' Ls (st))) : Ends p e below s Z Q cC cS T (mkF m pc Ls (v :: st)) := by
  subst hp; exact E_by (fun _ q => XS.pop X.at X.hx rfl (X.hb hd) rfl hc q) k
theorem E_istoreN (X : Wk l Z R bytes mL ret own nm p e s m args below meth c T cells slots) {j : Fin 4} {x : Int32} (hd : decode bytes pc = .ok (.istore_n j, 1)) {l' : Array Slot} (hl : storeLocals Ls j.val (.int x) = some l') {pc' : Nat} (hp : pc + 1 = pc') (k : Ends p e below s Z Q cC cS T (mkF m pc' l' (st))) : Ends p e below s Z Q cC cS T (mkF m pc Ls (.int x :: st)) := by
  subst hp; exact E_by (fun _ q => XS.istoreN X.at X.hx rfl (X.hb hd) rfl hl q) k
theorem E_istore (X : Wk l Z R bytes mL ret own nm p e s m args below meth c T cells slots) {j : Nat} {x : Int32} (hd : decode bytes pc = .ok (.istore j, 2)) {l' : Array Slot} (hl : storeLocals Ls j (.int x) = some l') {pc' : Nat} (hp : pc + 2 = pc') (k : Ends p e below s Z Q cC cS T (mkF m pc' l' (st))) : Ends p e below s Z Q cC cS T (mkF m pc Ls (.int x :: st)) := by
  subst hp; exact E_by (fun _ q => XS.istore X.at X.hx rfl (X.hb hd) rfl hl q) k
theorem E_astoreN (X : Wk l Z R bytes mL ret own nm p e s m args below meth c T cells slots) {j : Fin 4} {x : Value} (hd : decode bytes pc = .ok (.astore_n j, 1)) (hv : x.isRef = true) {l' : Array Slot} (hl : storeLocals Ls j.val x = some l') {pc' : Nat} (hp : pc + 1 = pc') (k : Ends p e below s Z Q cC cS T (mkF m pc' l' (st))) : Ends p e below s Z Q cC cS T (mkF m pc Ls (x :: st)) := by
  subst hp; exact E_by (fun _ q => XS.astoreN X.at X.hx rfl (X.hb hd) rfl hv hl q) k
theorem E_astore (X : Wk l Z R bytes mL ret own nm p e s m args below meth c T cells slots) {j : Nat} {x : Value} (hd : decode bytes pc = .ok (.astore j, 2)) (hv : x.isRef = true) {l' : Array Slot} (hl : storeLocals Ls j x = some l') {pc' : Nat} (hp : pc + 2 = pc') (k : Ends p e below s Z Q cC cS T (mkF m pc' l' (st))) : Ends p e below s Z Q cC cS T (mkF m pc Ls (x :: st)) := by
  subst hp; exact E_by (fun _ q => XS.astore X.at X.hx rfl (X.hb hd) rfl hv hl q) k
theorem E_iinc (X : Wk l Z R bytes mL ret own nm p e s m args below meth c T cells slots) {j : Nat} {i : Int} {x y : Int32} (hd : decode bytes pc = .ok (.iinc j i, 3)) (hy : x + Int32.ofInt i = y) (hl : Ls[j]? = some (.val (.int x))) {l' : Array Slot} (hl' : storeLocals Ls j (.int y) = some l') {pc' : Nat} (hp : pc + 3 = pc') (k : Ends p e below s Z Q cC cS T (mkF m pc' l' st)) : Ends p e below s Z Q cC cS T (mkF m pc Ls st) := by
  subst hp hy; exact E_by (fun _ q => XS.iinc X.at X.hx rfl (X.hb hd) hl hl' q) k
theorem E_irem (X : Wk l Z R bytes mL ret own nm p e s m args below meth c T cells slots) {x y v : Int32} (hd : decode bytes pc = .ok (.irem, 1)) (hy : y ≠ 0) (hv : x % y = v) {pc' : Nat} (hp : pc + 1 = pc') (k : Ends p e below s Z Q cC cS T (mkF m pc' Ls (.int v :: st))) : Ends p e below s Z Q cC cS T (mkF m pc Ls (.int y :: .int x :: st)) := by
  subst hp hv; obtain ⟨q, locs, Y, r⟩ := id X; exact E_by (fun _ k => iremM Y X.hx rfl (X.hb hd) rfl hy k) k
theorem E_idiv (X : Wk l Z R bytes mL ret own nm p e s m args below meth c T cells slots) {x y v : Int32} (hd : decode bytes pc = .ok (.idiv, 1)) (hy : y ≠ 0) (hv : x / y = v) {pc' : Nat} (hp : pc + 1 = pc') (k : Ends p e below s Z Q cC cS T (mkF m pc' Ls (.int v :: st))) : Ends p e below s Z Q cC cS T (mkF m pc Ls (.int y :: .int x :: st)) := by
  subst hp hv; exact E_by (fun _ k => XS.idiv X.at X.hx rfl (X.hb hd) rfl hy k) k
theorem E_goto (X : Wk l Z R bytes mL ret own nm p e s m args below meth c T cells slots) {o : Int} (hd : decode bytes pc = .ok (.goto o, 3)) {pc' : Nat} (ho : 0 ≤ (pc : Int) + o) (hp : ((pc : Int) + o).toNat = pc') (k : Ends p e below s Z Q cC cS T (mkF m pc' Ls st)) : Ends p e below s Z Q cC cS T (mkF m pc Ls st) :=
  E_by (fun _ q => XS.goto X.at X.hx rfl (pc0 := pc) rfl (X.hb hd) ho hp q) k
theorem E_ifT (X : Wk l Z R bytes mL ret own nm p e s m args below meth c T cells slots) {cd : ClassFile.Cond} {o : Int} {x : Int32} (hd : decode bytes pc = .ok (.ifCond cd o, 3)) (hc : ifCond.holds cd x = true) {pc' : Nat} (ho : 0 ≤ (pc : Int) + o) (hp : ((pc : Int) + o).toNat = pc') (k : Ends p e below s Z Q cC cS T (mkF m pc' Ls st)) : Ends p e below s Z Q cC cS T (mkF m pc Ls (.int x :: st)) :=
  E_by (fun _ q => XS.ifYes X.at X.hx rfl (pc0 := pc) rfl (X.hb hd) rfl hc ho hp q) k
theorem E_ifF (X : Wk l Z R bytes mL ret own nm p e s m args below meth c T cells slots) {cd : ClassFile.Cond} {o : Int} {x : Int32} (hd : decode bytes pc = .ok (.ifCond cd o, 3)) (hc : ifCond.holds cd x = false) {pc' : Nat} (hp : pc + 3 = pc') (k : Ends p e below s Z Q cC cS T (mkF m pc' Ls st)) : Ends p e below s Z Q cC cS T (mkF m pc Ls (.int x :: st)) := by
  subst hp; exact E_by (fun _ q => XS.ifNo X.at X.hx rfl (X.hb hd) rfl hc q) k
theorem E_icT (X : Wk l Z R bytes mL ret own nm p e s m args below meth c T cells slots) {cd : ClassFile.Cond} {o : Int} {x y : Int32} (hd : decode bytes pc = .ok (.if_icmp cd o, 3)) (hc : if_icmp.holds cd x y = true) {pc' : Nat} (ho : 0 ≤ (pc : Int) + o) (hp : ((pc : Int) + o).toNat = pc') (k : Ends p e below s Z Q cC cS T (mkF m pc' Ls st)) : Ends p e below s Z Q cC cS T (mkF m pc Ls (.int y :: .int x :: st)) :=
  E_by (fun _ q => XS.icmpYes X.at X.hx rfl (pc0 := pc) rfl (X.hb hd) rfl hc ho hp q) k
theorem E_icF (X : Wk l Z R bytes mL ret own nm p e s m args below meth c T cells slots) {cd : ClassFile.Cond} {o : Int} {x y : Int32} (hd : decode bytes pc = .ok (.if_icmp cd o, 3)) (hc : if_icmp.holds cd x y = false) {pc' : Nat} (hp : pc + 3 = pc') (k : Ends p e below s Z Q cC cS T (mkF m pc' Ls st)) : Ends p e below s Z Q cC cS T (mkF m pc Ls (.int y :: .int x :: st)) := by
  subst hp; exact E_by (fun _ q => XS.icmpNo X.at X.hx rfl (X.hb hd) rfl hc q) k
theorem E_nullT (X : Wk l Z R bytes mL ret own nm p e s m args below meth c T cells slots) {o : Int} (hd : decode bytes pc = .ok (.ifnull o, 3)) {pc' : Nat} (ho : 0 ≤ (pc : Int) + o) (hp : ((pc : Int) + o).toNat = pc') (k : Ends p e below s Z Q cC cS T (mkF m pc' Ls st)) : Ends p e below s Z Q cC cS T (mkF m pc Ls (.null :: st)) :=
  E_by (fun _ q => XS.ifnullYes X.at X.hx rfl (pc0 := pc) rfl (X.hb hd) rfl ho hp q) k
theorem E_nullF (X : Wk l Z R bytes mL ret own nm p e s m args below meth c T cells slots) {o : Int} {b : Addr} (hd : decode bytes pc = .ok (.ifnull o, 3)) {pc' : Nat} (hp : pc + 3 = pc') (k : Ends p e below s Z Q cC cS T (mkF m pc' Ls st)) : Ends p e below s Z Q cC cS T (mkF m pc Ls (.ref b :: st)) := by
  subst hp; exact E_by (fun _ q => XS.ifnullNo X.at X.hx rfl (X.hb hd) rfl q) k
theorem E_nonnullT (X : Wk l Z R bytes mL ret own nm p e s m args below meth c T cells slots) {o : Int} {b : Addr} (hd : decode bytes pc = .ok (.ifnonnull o, 3)) {pc' : Nat} (ho : 0 ≤ (pc : Int) + o) (hp : ((pc : Int) + o).toNat = pc') (k : Ends p e below s Z Q cC cS T (mkF m pc' Ls st)) : Ends p e below s Z Q cC cS T (mkF m pc Ls (.ref b :: st)) :=
  E_by (fun _ q => XT.nonnullYes X.at X.hx rfl (pc0 := pc) rfl (X.hb hd) rfl rfl (fun q => nomatch q) ho hp q) k
theorem E_nonnullF (X : Wk l Z R bytes mL ret own nm p e s m args below meth c T cells slots) {o : Int} (hd : decode bytes pc = .ok (.ifnonnull o, 3)) {pc' : Nat} (hp : pc + 3 = pc') (k : Ends p e below s Z Q cC cS T (mkF m pc' Ls st)) : Ends p e below s Z Q cC cS T (mkF m pc Ls (.null :: st)) := by
  subst hp; exact E_by (fun _ q => XT.nonnullNo X.at X.hx rfl (X.hb hd) rfl rfl q) k
theorem E_acmp (X : Wk l Z R bytes mL ret own nm p e s m args below meth c T cells slots) {cd : ACond} {o : Int} {x y : Value} (hd : decode bytes pc = .ok (.if_acmp cd o, 3)) (h1 : x.isRef = true) (h2 : y.isRef = true) (same : Bool) (hq : decide (x = y) = same) {pc' : Nat} (ho : 0 ≤ (pc : Int) + o) (hp : pc' = if acV cd same = true then ((pc : Int) + o).toNat else pc + 3) (k : Ends p e below s Z Q cC cS T (mkF m pc' Ls st)) : Ends p e below s Z Q cC cS T (mkF m pc Ls (y :: x :: st)) := by
  obtain ⟨_, locs, Y, r⟩ := id X; exact E_by (fun _ q => acmp Y X.hx rfl h1 h2 (pc0 := pc) rfl (X.hb hd) rfl hq ho hp q) k
theorem E_ldcI (X : Wk l Z R bytes mL ret own nm p e s m args below meth c T cells slots) {ix : Nat} {v : Int32} (hd : decode bytes pc = .ok (.ldc ix, 2)) (w : (Jvm.Cond.constant own ix v).before a0 Z = true) {pc' : Nat} (hp : pc + 2 = pc') (k : Ends p e below s Z Q cC cS T (mkF m pc' Ls (.int v :: st))) : Ends p e below s Z Q cC cS T (mkF m pc Ls st) := by
  subst hp; obtain ⟨_, locs, Y, r⟩ := id X; exact E_by (fun _ q => Y.ldcI X.hx X.hown (mvT X.hZ w) rfl (X.hb hd) q) k
theorem E_new (X : Wk l Z R bytes mL ret own nm p e s m args below meth c T cells slots) {C : String} {ix n : Nat} (hd : decode bytes pc = .ok (.new ix, 3)) (w1 : (Jvm.Cond.classLink own ix C).before a0 Z = true) (w2 : (Jvm.Cond.instantiable C n).before a0 Z = true) (w3 : (Jvm.Cond.initialized C).before a0 Z = true) (hc : cells + 1 ≤ R.cells) (hs : slots + n ≤ R.slots) {pc' : Nat} (hp : pc + 3 = pc')
    (k : ∀ (T' : State) (b : Addr), Wk l Z R bytes mL ret own nm p e s m args below meth c T' (cells + 1) (slots + n) → b = T.heap.size → Keep T.heap T'.heap [] → Exa Z T'.heap b C → (∀ {O nm d : String} {ty : FieldType}, Laid Z a0 C O nm d → parseFieldDescriptor d = some ty → Fld Z T'.heap b O nm d (defaultValue ty)) → Ends p e below s Z Q cC cS T' (mkF m pc' Ls (.ref b :: st))) : Ends p e below s Z Q cC cS T (mkF m pc Ls st) := by
  subst hp; obtain ⟨q0, locs, Y, N, O⟩ := id X
  obtain ⟨T', h', Y', rfl, E, A, D, -, stp⟩ := newO Y X.hx X.hZ X.hown w1 w2 w3 rfl (g := mkF m pc Ls st) rfl (X.hb hd) hc hs
  exact E_by stp (k T' _ ⟨q0, locs, Y', N, Keep.old O (Keep.of_ext E) all0⟩ rfl (Keep.of_ext E) A D)
theorem E_newarray (X : Wk l Z R bytes mL ret own nm p e s m args below meth c T cells slots) {aty : ArrayType} {n : Int32} (cap : Nat) (hd : decode bytes pc = .ok (.newarray aty, 2)) (w : (Jvm.Cond.arrayClass (newarray.typeOf aty)).before a0 Z = true) (hn : ¬ n < 0) (hcap : n.toNatClampNeg ≤ cap) (hb : cap * 8 ≤ 536870912) (hc : cells + 1 ≤ R.cells) (hs : slots + cap ≤ R.slots) {pc' : Nat} (hp : pc + 2 = pc')
    (k : ∀ (T' : State) (b : Addr) (kA : ClassId), Wk l Z R bytes mL ret own nm p e s m args below meth c T' (cells + 1) (slots + cap) → b = T.heap.size → Keep T.heap T'.heap [] → Arv Z T'.heap b kA (newarray.typeOf aty) n [] (defaultValue (newarray.typeOf aty)) → Ends p e below s Z Q cC cS T' (mkF m pc' Ls (.ref b :: st))) : Ends p e below s Z Q cC cS T (mkF m pc Ls (.int n :: st)) := by
  subst hp; obtain ⟨q0, locs, Y, N, O⟩ := id X
  obtain ⟨T', h', kA, Y', rfl, E, A, stp⟩ := newP Y X.hx X.hZ w rfl (g := mkF m pc Ls (.int n :: st)) rfl (X.hb hd) rfl hn hcap hb hc hs
  exact E_by stp (k T' _ kA ⟨q0, locs, Y', N, Keep.old O (Keep.of_ext E) all0⟩ rfl (Keep.of_ext E) (Arv.new A hn))
theorem E_anewarray (X : Wk l Z R bytes mL ret own nm p e s m args below meth c T cells slots) {C : String} {ix : Nat} {n : Int32} (cap : Nat) (hd : decode bytes pc = .ok (.anewarray ix, 3)) (w1 : (Jvm.Cond.classLink own ix C).before a0 Z = true) (w2 : (Jvm.Cond.arrayOver (.object C)).before a0 Z = true) (hn : ¬ n < 0) (hcap : n.toNatClampNeg ≤ cap) (hb : cap * 8 ≤ 536870912) (hc : cells + 1 ≤ R.cells) (hs : slots + cap ≤ R.slots) {pc' : Nat} (hp : pc + 3 = pc')
    (k : ∀ (T' : State) (b : Addr) (kA : ClassId), Wk l Z R bytes mL ret own nm p e s m args below meth c T' (cells + 1) (slots + cap) → b = T.heap.size → Keep T.heap T'.heap [] → Arv Z T'.heap b kA (.object C) n [] .null → Ovr Z kA C → Ends p e below s Z Q cC cS T' (mkF m pc' Ls (.ref b :: st))) : Ends p e below s Z Q cC cS T (mkF m pc Ls (.int n :: st)) := by
  subst hp; obtain ⟨q0, locs, Y, N, O⟩ := id X
  obtain ⟨T', h', kA, Y', rfl, E, A, Ov, stp⟩ := newR Y X.hx X.hZ X.hown w1 w2 rfl (g := mkF m pc Ls (.int n :: st)) rfl (X.hb hd) rfl hn hcap hb hc hs
  exact E_by stp (k T' _ kA ⟨q0, locs, Y', N, Keep.old O (Keep.of_ext E) all0⟩ rfl (Keep.of_ext E) (Arv.new A hn) Ov)
theorem E_aastore (X : Wk l Z R bytes mL ret own nm p e s m args below meth c T cells slots) {a y : Addr} {kA : ClassId} {z j : Int32} {vs : List Value} {C : String} (i : Nat) (hd : decode bytes pc = .ok (.aastore, 1)) (V : Arv Z T.heap a kA (.object C) z vs .null) (Ov : Ovr Z kA C) (I : Ins Z T.heap y C true) (hj : ¬ j < 0 ∧ j < z) (hi : j.toNatClampNeg = i) (hl : i < vs.length) (ha : Z.heap.size ≤ a) {pc' : Nat} (hp : pc + 1 = pc')
    (k : ∀ (T' : State), Wk l Z R bytes mL ret own nm p e s m args below meth c T' cells slots → Keep T.heap T'.heap [a] → Arv Z T'.heap a kA (.object C) z (vs.set i (.ref y)) .null → Ends p e below s Z Q cC cS T' (mkF m pc' Ls st)) : Ends p e below s Z Q cC cS T (mkF m pc Ls (.ref y :: .int j :: .ref a :: st)) := by
  subst hp; obtain ⟨q0, locs, Y, N, O⟩ := id X
  obtain ⟨cl, A, q1, S1, N1, H1, G1⟩ := V
  obtain ⟨T', h', Y', rfl, W, stp⟩ := stR Y X.hx X.hZ rfl A (j := j) (inb_of S1 hj) rfl (Sto.ofV A q1 Ov I) (g := mkF m pc Ls (.ref y :: .int j :: .ref a :: st)) rfl rfl (X.hb hd)
  exact E_by stp (k T' ⟨q0, _, Y', Fr.snoc Y' N ha, Keep.old O (Keep.of_wr W) (allS ha all0)⟩ (Keep.of_wr W) (Arv.set A q1 S1 N1 H1 G1 rfl W i hi hl))
theorem E_aastoreA (X : Wk l Z R bytes mL ret own nm p e s m args below meth c T cells slots) {a y : Addr} {kA : ClassId} {z j : Int32} {vs : List Value} {C : String} (hd : decode bytes pc = .ok (.aastore, 1)) (V : Arv Z T.heap a kA (.object C) z vs .null) (Ov : Ovr Z kA C) (I : Ins Z T.heap y C true) (hj : ¬ j < 0 ∧ j < z) (hi : j.toNatClampNeg = vs.length) (ha : Z.heap.size ≤ a) {pc' : Nat} (hp : pc + 1 = pc')
    (k : ∀ (T' : State), Wk l Z R bytes mL ret own nm p e s m args below meth c T' cells slots → Keep T.heap T'.heap [a] → Arv Z T'.heap a kA (.object C) z (vs ++ [.ref y]) .null → Ends p e below s Z Q cC cS T' (mkF m pc' Ls st)) : Ends p e below s Z Q cC cS T (mkF m pc Ls (.ref y :: .int j :: .ref a :: st)) := by
  refine E_aastore X vs.length hd (V.pad (pad_rep vs .null 1)) Ov I hj hi (by simp) ha hp fun T' X' K' V' => k T' X' K' ?_
  have q : (vs ++ List.replicate 1 Value.null).set vs.length (.ref y) = vs ++ [.ref y] := by simp
  rw [q] at V'; exact V'
theorem E_iastore (X : Wk l Z R bytes mL ret own nm p e s m args below meth c T cells slots) {a : Addr} {kA : ClassId} {z j x : Int32} {vs : List Value} {dv : Value} {y : Int32} (i : Nat) (hd : decode bytes pc = .ok (.iastore, 1)) (hy : x = y) (V : Arv Z T.heap a kA .int z vs dv) (hj : ¬ j < 0 ∧ j < z) (hi : j.toNatClampNeg = i) (hl : i < vs.length) (ha : Z.heap.size ≤ a) {pc' : Nat} (hp : pc + 1 = pc')
    (k : ∀ (T' : State), Wk l Z R bytes mL ret own nm p e s m args below meth c T' cells slots → Keep T.heap T'.heap [a] → Arv Z T'.heap a kA .int z (vs.set i (.int y)) dv → Ends p e below s Z Q cC cS T' (mkF m pc' Ls st)) : Ends p e below s Z Q cC cS T (mkF m pc Ls (.int x :: .int j :: .ref a :: st)) := by
  subst hp hy; obtain ⟨q0, locs, Y, N, O⟩ := id X
  obtain ⟨cl, A, q1, S1, N1, H1, G1⟩ := V
  obtain ⟨T', h', Y', rfl, W, stp⟩ := stI Y X.hx X.hZ rfl A (j := j) (x := x) (inb_of S1 hj) (g := mkF m pc Ls (.int x :: .int j :: .ref a :: st)) rfl rfl (X.hb hd)
  exact E_by stp (k T' ⟨q0, _, Y', Fr.snoc Y' N ha, Keep.old O (Keep.of_wr W) (allS ha all0)⟩ (Keep.of_wr W) (Arv.set A q1 S1 N1 H1 G1 (rfl) W i hi hl))
theorem E_castore (X : Wk l Z R bytes mL ret own nm p e s m args below meth c T cells slots) {a : Addr} {kA : ClassId} {z j x : Int32} {vs : List Value} {dv : Value} {y : Int32} (i : Nat) (hd : decode bytes pc = .ok (.castore, 1)) (hy : nar .char x = y) (V : Arv Z T.heap a kA .char z vs dv) (hj : ¬ j < 0 ∧ j < z) (hi : j.toNatClampNeg = i) (hl : i < vs.length) (ha : Z.heap.size ≤ a) {pc' : Nat} (hp : pc + 1 = pc')
    (k : ∀ (T' : State), Wk l Z R bytes mL ret own nm p e s m args below meth c T' cells slots → Keep T.heap T'.heap [a] → Arv Z T'.heap a kA .char z (vs.set i (.int y)) dv → Ends p e below s Z Q cC cS T' (mkF m pc' Ls st)) : Ends p e below s Z Q cC cS T (mkF m pc Ls (.int x :: .int j :: .ref a :: st)) := by
  subst hp hy; obtain ⟨q0, locs, Y, N, O⟩ := id X
  obtain ⟨cl, A, q1, S1, N1, H1, G1⟩ := V
  obtain ⟨T', h', Y', rfl, W, stp⟩ := stC Y X.hx X.hZ rfl A (j := j) (x := x) (inb_of S1 hj) (g := mkF m pc Ls (.int x :: .int j :: .ref a :: st)) rfl rfl (X.hb hd)
  exact E_by stp (k T' ⟨q0, _, Y', Fr.snoc Y' N ha, Keep.old O (Keep.of_wr W) (allS ha all0)⟩ (Keep.of_wr W) (Arv.set A q1 S1 N1 H1 G1 (fits_nar_char _) W i hi hl))
theorem E_bastore (X : Wk l Z R bytes mL ret own nm p e s m args below meth c T cells slots) {a : Addr} {kA : ClassId} {z j x : Int32} {vs : List Value} {dv : Value} {y : Int32} (i : Nat) (hd : decode bytes pc = .ok (.bastore, 1)) (hy : x.toInt8.toInt32 = y) (V : Arv Z T.heap a kA .byte z vs dv) (hj : ¬ j < 0 ∧ j < z) (hi : j.toNatClampNeg = i) (hl : i < vs.length) (ha : Z.heap.size ≤ a) {pc' : Nat} (hp : pc + 1 = pc')
    (k : ∀ (T' : State), Wk l Z R bytes mL ret own nm p e s m args below meth c T' cells slots → Keep T.heap T'.heap [a] → Arv Z T'.heap a kA .byte z (vs.set i (.int y)) dv → Ends p e below s Z Q cC cS T' (mkF m pc' Ls st)) : Ends p e below s Z Q cC cS T (mkF m pc Ls (.int x :: .int j :: .ref a :: st)) := by
  subst hp hy; obtain ⟨q0, locs, Y, N, O⟩ := id X
  obtain ⟨cl, A, q1, S1, N1, H1, G1⟩ := V
  obtain ⟨T', h', Y', rfl, W, stp⟩ := stB Y X.hx X.hZ rfl A (j := j) (x := x) (inb_of S1 hj) (g := mkF m pc Ls (.int x :: .int j :: .ref a :: st)) rfl rfl (X.hb hd)
  exact E_by stp (k T' ⟨q0, _, Y', Fr.snoc Y' N ha, Keep.old O (Keep.of_wr W) (allS ha all0)⟩ (Keep.of_wr W) (Arv.set A q1 S1 N1 H1 G1 (fits_nar_byte _) W i hi hl))
theorem E_iastoreA (X : Wk l Z R bytes mL ret own nm p e s m args below meth c T cells slots) {a : Addr} {kA : ClassId} {z j x : Int32} {vs : List Value} {dv : Value} {y : Int32} (hd : decode bytes pc = .ok (.iastore, 1)) (hy : x = y) (V : Arv Z T.heap a kA .int z vs dv) (hj : ¬ j < 0 ∧ j < z) (hi : j.toNatClampNeg = vs.length) (ha : Z.heap.size ≤ a) {pc' : Nat} (hp : pc + 1 = pc')
    (k : ∀ (T' : State), Wk l Z R bytes mL ret own nm p e s m args below meth c T' cells slots → Keep T.heap T'.heap [a] → Arv Z T'.heap a kA .int z (vs ++ [.int y]) dv → Ends p e below s Z Q cC cS T' (mkF m pc' Ls st)) : Ends p e below s Z Q cC cS T (mkF m pc Ls (.int x :: .int j :: .ref a :: st)) := by
  refine E_iastore X vs.length hd hy (V.pad (pad_rep vs dv 1)) hj hi (by simp) ha hp fun T' X' K' V' => k T' X' K' ?_
  have q : (vs ++ List.replicate 1 dv).set vs.length (.int y) = vs ++ [.int y] := by simp
  rw [q] at V'; exact V'
theorem E_castoreA (X : Wk l Z R bytes mL ret own nm p e s m args below meth c T cells slots) {a : Addr} {kA : ClassId} {z j x : Int32} {vs : List Value} {dv : Value} {y : Int32} (hd : decode bytes pc = .ok (.castore, 1)) (hy : nar .char x = y) (V : Arv Z T.heap a kA .char z vs dv) (hj : ¬ j < 0 ∧ j < z) (hi : j.toNatClampNeg = vs.length) (ha : Z.heap.size ≤ a) {pc' : Nat} (hp : pc + 1 = pc')
    (k : ∀ (T' : State), Wk l Z R bytes mL ret own nm p e s m args below meth c T' cells slots → Keep T.heap T'.heap [a] → Arv Z T'.heap a kA .char z (vs ++ [.int y]) dv → Ends p e below s Z Q cC cS T' (mkF m pc' Ls st)) : Ends p e below s Z Q cC cS T (mkF m pc Ls (.int x :: .int j :: .ref a :: st)) := by
  refine E_castore X vs.length hd hy (V.pad (pad_rep vs dv 1)) hj hi (by simp) ha hp fun T' X' K' V' => k T' X' K' ?_
  have q : (vs ++ List.replicate 1 dv).set vs.length (.int y) = vs ++ [.int y] := by simp
  rw [q] at V'; exact V'
theorem E_bastoreA (X : Wk l Z R bytes mL ret own nm p e s m args below meth c T cells slots) {a : Addr} {kA : ClassId} {z j x : Int32} {vs : List Value} {dv : Value} {y : Int32} (hd : decode bytes pc = .ok (.bastore, 1)) (hy : x.toInt8.toInt32 = y) (V : Arv Z T.heap a kA .byte z vs dv) (hj : ¬ j < 0 ∧ j < z) (hi : j.toNatClampNeg = vs.length) (ha : Z.heap.size ≤ a) {pc' : Nat} (hp : pc + 1 = pc')
    (k : ∀ (T' : State), Wk l Z R bytes mL ret own nm p e s m args below meth c T' cells slots → Keep T.heap T'.heap [a] → Arv Z T'.heap a kA .byte z (vs ++ [.int y]) dv → Ends p e below s Z Q cC cS T' (mkF m pc' Ls st)) : Ends p e below s Z Q cC cS T (mkF m pc Ls (.int x :: .int j :: .ref a :: st)) := by
  refine E_bastore X vs.length hd hy (V.pad (pad_rep vs dv 1)) hj hi (by simp) ha hp fun T' X' K' V' => k T' X' K' ?_
  have q : (vs ++ List.replicate 1 dv).set vs.length (.int y) = vs ++ [.int y] := by simp
  rw [q] at V'; exact V'
theorem E_iaload (X : Wk l Z R bytes mL ret own nm p e s m args below meth c T cells slots) {a : Addr} {kA : ClassId} {z j : Int32} {vs : List Value} {dv v : Value} (hd : decode bytes pc = .ok (.iaload, 1)) (V : Arv Z T.heap a kA .int z vs dv) (hj : ¬ j < 0 ∧ j < z) (hv : vs.getD j.toNatClampNeg dv = v) {pc' : Nat} (hp : pc + 1 = pc')
    (k : Ends p e below s Z Q cC cS T (mkF m pc' Ls (v :: st))) : Ends p e below s Z Q cC cS T (mkF m pc Ls (.int j :: .ref a :: st)) := by
  subst hp; obtain ⟨q0, locs, Y, N, O⟩ := id X
  obtain ⟨cl, A, q1, S1, N1, H1, G1⟩ := V
  exact E_by (Y.iaload X.hx A.1 (State.isArrayOf_alike X.hZ.alike A.2.1) A.2.2 (inb_of S1 hj) (Has.at H1 (inb_of S1 hj) hv) (g := mkF m pc Ls (.int j :: .ref a :: st)) rfl rfl (X.hb hd)) k
theorem E_caload (X : Wk l Z R bytes mL ret own nm p e s m args below meth c T cells slots) {a : Addr} {kA : ClassId} {z j : Int32} {vs : List Value} {dv v : Value} (hd : decode bytes pc = .ok (.caload, 1)) (V : Arv Z T.heap a kA .char z vs dv) (hj : ¬ j < 0 ∧ j < z) (hv : vs.getD j.toNatClampNeg dv = v) {pc' : Nat} (hp : pc + 1 = pc')
    (k : Ends p e below s Z Q cC cS T (mkF m pc' Ls (v :: st))) : Ends p e below s Z Q cC cS T (mkF m pc Ls (.int j :: .ref a :: st)) := by
  subst hp; obtain ⟨q0, locs, Y, N, O⟩ := id X
  obtain ⟨cl, A, q1, S1, N1, H1, G1⟩ := V
  exact E_by (Y.caload X.hx A.1 (State.isArrayOf_alike X.hZ.alike A.2.1) A.2.2 (inb_of S1 hj) (Has.at H1 (inb_of S1 hj) hv) (g := mkF m pc Ls (.int j :: .ref a :: st)) rfl rfl (X.hb hd)) k
theorem E_baload (X : Wk l Z R bytes mL ret own nm p e s m args below meth c T cells slots) {a : Addr} {kA : ClassId} {z j : Int32} {vs : List Value} {dv v : Value} (hd : decode bytes pc = .ok (.baload, 1)) (V : Arv Z T.heap a kA .byte z vs dv) (hj : ¬ j < 0 ∧ j < z) (hv : vs.getD j.toNatClampNeg dv = v) {pc' : Nat} (hp : pc + 1 = pc')
    (k : Ends p e below s Z Q cC cS T (mkF m pc' Ls (v :: st))) : Ends p e below s Z Q cC cS T (mkF m pc Ls (.int j :: .ref a :: st)) := by
  subst hp; obtain ⟨q0, locs, Y, N, O⟩ := id X
  obtain ⟨cl, A, q1, S1, N1, H1, G1⟩ := V
  exact E_by (Y.baloadBytes X.hx A.1 (State.isArrayOf_alike X.hZ.alike A.2.1) A.2.2 (inb_of S1 hj) (Has.at H1 (inb_of S1 hj) hv) (g := mkF m pc Ls (.int j :: .ref a :: st)) rfl rfl (X.hb hd)) k
theorem E_aaload (X : Wk l Z R bytes mL ret own nm p e s m args below meth c T cells slots) {a : Addr} {kA : ClassId} {z j : Int32} {vs : List Value} {dv v : Value} {ty : FieldType} (hd : decode bytes pc = .ok (.aaload, 1)) (V : Arv Z T.heap a kA ty z vs dv) (hty : ty.isReference = true) (hj : ¬ j < 0 ∧ j < z) (hv : vs.getD j.toNatClampNeg dv = v) {pc' : Nat} (hp : pc + 1 = pc')
    (k : Ends p e below s Z Q cC cS T (mkF m pc' Ls (v :: st))) : Ends p e below s Z Q cC cS T (mkF m pc Ls (.int j :: .ref a :: st)) := by
  subst hp; obtain ⟨q0, locs, Y, N, O⟩ := id X
  obtain ⟨cl, A, q1, S1, N1, H1, G1⟩ := V
  exact E_by (Y.aaload X.hx A.1 (State.isArrayOf_alike X.hZ.alike A.2.1) hty A.2.2 (inb_of S1 hj) (Has.at H1 (inb_of S1 hj) hv) (g := mkF m pc Ls (.int j :: .ref a :: st)) rfl rfl (X.hb hd)) k
theorem E_arraylength (X : Wk l Z R bytes mL ret own nm p e s m args below meth c T cells slots) {a : Addr} {kA : ClassId} {z : Int32} {vs : List Value} {dv : Value} {ty : FieldType} (hd : decode bytes pc = .ok (.arraylength, 1)) (V : Arv Z T.heap a kA ty z vs dv) {pc' : Nat} (hp : pc + 1 = pc')
    (k : Ends p e below s Z Q cC cS T (mkF m pc' Ls (.int z :: st))) : Ends p e below s Z Q cC cS T (mkF m pc Ls (.ref a :: st)) := by
  subst hp; obtain ⟨q0, locs, Y, N, O⟩ := id X
  obtain ⟨cl, A, q1, S1, N1, H1, G1⟩ := V
  refine E_by (Y.arraylength X.hx A.1 (State.isArrayOf_alike X.hZ.alike A.2.1) (g := mkF m pc Ls (.ref a :: st)) rfl rfl (X.hb hd)) ?_
  rw [len_of S1 N1]; exact k
theorem E_getfield (X : Wk l Z R bytes mL ret own nm p e s m args below meth c T cells slots) {a : Addr} {O n d R0 : String} {ix : Nat} {v : Value} (hd : decode bytes pc = .ok (.getfield ix, 3)) (w : (Jvm.Cond.fieldLink own ix R0 n d).before a0 Z = true) (via : Via Z R0 O n d) (F : Fld Z T.heap a O n d v) {pc' : Nat} (hp : pc + 3 = pc')
    (k : ∀ (T' : State), Wk l Z R bytes mL ret own nm p e s m args below meth c T' cells slots → T'.heap = T.heap → Ends p e below s Z Q cC cS T' (mkF m pc' Ls (v :: st))) : Ends p e below s Z Q cC cS T (mkF m pc Ls (.ref a :: st)) := by
  subst hp; obtain ⟨q0, locs, Y, N, Od⟩ := id X
  obtain ⟨T', Y', e1, stp⟩ := getF Y X.hx X.hZ X.hown (host := "") (Or.inl w) via rfl F (g := mkF m pc Ls (.ref a :: st)) rfl rfl (X.hb hd)
  exact E_by stp (k T' ⟨q0, locs, Y', N, e1 ▸ Od⟩ e1)
theorem E_getstatic (X : Wk l Z R bytes mL ret own nm p e s m args below meth c T cells slots) {O n d R0 : String} {ix : Nat} {v : Value} (hd : decode bytes pc = .ok (.getstatic ix, 3)) (w : (Jvm.Cond.fieldLink own ix R0 n d).before a0 Z = true) (via : Via Z R0 O n d) (F : Sta Z Z.heap O n d v) {pc' : Nat} (hp : pc + 3 = pc')
    (k : ∀ (T' : State), Wk l Z R bytes mL ret own nm p e s m args below meth c T' cells slots → T'.heap = T.heap → Ends p e below s Z Q cC cS T' (mkF m pc' Ls (v :: st))) : Ends p e below s Z Q cC cS T (mkF m pc Ls st) := by
  subst hp; obtain ⟨q0, locs, Y, N, Od⟩ := id X
  obtain ⟨T', Y', e1, stp⟩ := getS Y X.hx X.hZ (host := "") X.hown w via rfl (F.ext Od) (g := mkF m pc Ls st) rfl (X.hb hd)
  exact E_by stp (k T' ⟨q0, locs, Y', N, e1 ▸ Od⟩ e1)
theorem E_putfield (X : Wk l Z R bytes mL ret own nm p e s m args below meth c T cells slots) {a : Addr} {O n d R0 C : String} {ix kk : Nat} {v old : Value} {ty : FieldType} (hd : decode bytes pc = .ok (.putfield ix, 3)) (w : (Jvm.Cond.fieldLink own ix R0 n d).before a0 Z = true) (via : Via Z R0 O n d) (F : Fld Z T.heap a O n d old) (E : Exa Z T.heap a C) (L : (Jvm.Cond.lays C O n d).before a0 Z = true ∨ ((Jvm.Cond.laysFinal C O n d).before a0 Z = true ∧ own = O ∧ nm = "<init>")) (wi : (Jvm.Cond.instantiable C kk).before a0 Z = true) (hty : parseFieldDescriptor d = some ty) (hn : narrow ty v = v) (hf : fits ty v = true) (ha : Z.heap.size ≤ a) {pc' : Nat} (hp : pc + 3 = pc')
    (k : ∀ (T' : State), Wk l Z R bytes mL ret own nm p e s m args below meth c T' cells slots → Wr T.heap T'.heap a (Jvm.RoadKit.slotOf Z O n d) v → Ends p e below s Z Q cC cS T' (mkF m pc' Ls st)) : Ends p e below s Z Q cC cS T (mkF m pc Ls (v :: .ref a :: st)) := by
  subst hp; obtain ⟨q0, locs, Y, N, Od⟩ := id X
  obtain ⟨T', h', Y', rfl, W, stp⟩ := putF Y X.hx X.hZ X.hown (host := "") (Or.inl w) via rfl F E (L.imp id fun q => ⟨q.1, q.2.1, q0.2.2.2.2.2.2.1.trans q.2.2⟩) wi hty hn hf (g := mkF m pc Ls (v :: .ref a :: st)) rfl rfl (X.hb hd)
  exact E_by stp (k T' ⟨q0, _, Y', Fr.snoc Y' N ha, Keep.old Od (Keep.of_wr W) (allS ha all0)⟩ W)
theorem E_initO (X : Wk l Z R bytes mL ret own nm p e s m args below meth c T cells slots) {a : Addr} {ix : Nat} (hd : decode bytes pc = .ok (.invokespecial ix, 3)) (w1 : (Jvm.Cond.methodLink own ix Lib.objectInit).before a0 Z = true) (w2 : (Jvm.Cond.instanceMethod Lib.objectInit).before a0 Z = true) (w3 : (Jvm.Cond.code Lib.objectInit ⟨#[0xb1]⟩ 1 none).before a0 Z = true) (hsz : Ls.size = mL) (hf : 1 ≤ R.frames) (hl : (st.map fun v => v.category).sum + 12 ≤ R.locals) {pc' : Nat} (hp : pc + 3 = pc')
    (k : ∀ (T' : State), Wk l Z R bytes mL ret own nm p e s m args below meth c T' cells slots → T'.heap = T.heap → Ends p e below s Z Q cC cS T' (mkF m pc' Ls st)) : Ends p e below s Z Q cC cS T (mkF m pc Ls (.ref a :: st)) := by
  subst hp; obtain ⟨q0, locs, Y, N, Od⟩ := id X
  obtain ⟨T', Y', e1, stp⟩ := initO Y X.hx X.hZ X.hown w1 w2 w3 rfl (g := mkF m pc Ls (.ref a :: st)) rfl (X.size hsz) rfl (X.hb hd) hf (W := (st.map fun v => v.category).sum) (by show 2 * 0 + _ ≤ _; omega) hl
  exact E_by stp (k T' ⟨q0, locs, Y', N, e1 ▸ Od⟩ e1)
theorem E_checkcast (X : Wk l Z R bytes mL ret own nm p e s m args below meth c T cells slots) {a : Addr} {K : String} {ix : Nat} (hd : decode bytes pc = .ok (.checkcast ix, 3)) (w : (Jvm.Cond.classLink own ix K).before a0 Z = true) (F : Ins Z T.heap a K true) {pc' : Nat} (hp : pc + 3 = pc')
    (k : ∀ (T' : State), Wk l Z R bytes mL ret own nm p e s m args below meth c T' cells slots → T'.heap = T.heap → Ends p e below s Z Q cC cS T' (mkF m pc' Ls (.ref a :: st))) : Ends p e below s Z Q cC cS T (mkF m pc Ls (.ref a :: st)) := by
  subst hp; obtain ⟨q0, locs, Y, N, Od⟩ := id X
  obtain ⟨T', Y', e1, stp⟩ := castY Y X.hx X.hZ X.hown w rfl F (g := mkF m pc Ls (.ref a :: st)) rfl rfl (X.hb hd)
  exact E_by stp (k T' ⟨q0, locs, Y', N, e1 ▸ Od⟩ e1)
theorem E_instY (X : Wk l Z R bytes mL ret own nm p e s m args below meth c T cells slots) {a : Addr} {K : String} {ix : Nat} (hd : decode bytes pc = .ok (.instanceof ix, 3)) (w : (Jvm.Cond.classLink own ix K).before a0 Z = true) (F : Ins Z T.heap a K true) {pc' : Nat} (hp : pc + 3 = pc')
    (k : ∀ (T' : State), Wk l Z R bytes mL ret own nm p e s m args below meth c T' cells slots → T'.heap = T.heap → Ends p e below s Z Q cC cS T' (mkF m pc' Ls (.int 1 :: st))) : Ends p e below s Z Q cC cS T (mkF m pc Ls (.ref a :: st)) := by
  subst hp; obtain ⟨q0, locs, Y, N, Od⟩ := id X
  obtain ⟨T', Y', e1, stp⟩ := instY Y X.hx X.hZ X.hown w rfl F (g := mkF m pc Ls (.ref a :: st)) rfl rfl (X.hb hd)
  exact E_by stp (k T' ⟨q0, locs, Y', N, e1 ▸ Od⟩ e1)
theorem E_staticB (X : Wk l Z R bytes mL ret own nm p e s m args below meth c T cells slots) {y : MethodName} {ix : Nat} {bytes' : ByteArray} {mL' : Nat} {ret' : Option FieldType} {Q' : Option Value → Heap → Prop} {argsL : List Value} {Q2 : Option Value → Heap → List Loc → Prop} {rC rS : Nat} (hd : decode bytes pc = .ok (.invokestatic ix, 3)) (w1 : (Jvm.Cond.methodLink own ix y).before a0 Z = true) (w2 : (Jvm.Cond.static y).before a0 Z = true) (w3 : (Jvm.Cond.initialized y.cls).before a0 Z = true) (w4 : (Jvm.Cond.code y bytes' mL' ret').before a0 Z = true) (hy : y.cls ≠ "java/lang/invoke/MethodHandle" ∧ y.cls ≠ "java/lang/invoke/VarHandle") {st0 : List Value} (hst : st0 = argsL.reverse ++ st) (hK : Back l R p e below s args y 3 ((st.map fun v => v.category).sum) (fun A aa => aa = argsL.toArray ∧ A.U.heap = T.heap ∧ A.cells + rC ≤ R.cells ∧ A.slots + rS ≤ R.slots) (fun A _ v B => ∃ L, Q2 v B.U.heap L ∧ B.locs = A.locs ++ L ∧ B.cells = A.cells + rC ∧ B.slots = A.slots + rS)) (hQ2 : ∀ v h L, Q2 v h L → Fr Z.heap.size L ∧ Ext Z.heap h ∧ Q' v h) (hlen : ∀ sig, parseMethodDescriptor y.desc = some sig → argsL.length = sig.parameters.length) (hsz : Ls.size = mL) (hcl : cells + rC ≤ R.cells) (hsl : slots + rS ≤ R.slots) {pc' : Nat} (hp : pc + 3 = pc')
    (k : ∀ (T' : State) (v : Option Value), Wk l Z R bytes mL ret own nm p e s m args below meth c T' (cells + rC) (slots + rS) → Q' v T'.heap → Ends p e below s Z Q cC cS T' (mkF m pc' Ls (v.toList ++ st))) : Ends p e below s Z Q cC cS T (mkF m pc Ls st0) := by
  subst hp hst; obtain ⟨q0, locs, Y, N, Od⟩ := id X
  obtain ⟨v, _, ⟨T', L1, k1, n1⟩, -, Y', ⟨Lc, hQ, l1, y1, z1⟩, stp⟩ := Jvm.LawKit.callS Y X.hx (y := y) X.hown (mvT X.hZ w1) (mvT X.hZ w2) (mvT X.hZ w3) (mvT X.hZ w4) hy hK (g := mkF m pc Ls (argsL.reverse ++ st)) rfl (X.size hsz) (argsL := argsL) (rest := st) hlen rfl (by show 2 * 0 + _ ≤ _; omega) (X.hb hd) (fun _ _ => ⟨rfl, rfl, hcl, hsl⟩)
  dsimp only [Pt.U, Pt.locs, Pt.cells, Pt.slots] at Y' l1 y1 z1 stp hQ
  subst l1 y1 z1
  obtain ⟨f1, f2, f3⟩ := hQ2 _ _ _ hQ
  exact E_by stp (k T' v ⟨q0, _, Y', Fr.app N f1, f2⟩ f3)
theorem E_static (X : Wk l Z R bytes mL ret own nm p e s m args below meth c T cells slots) {y : MethodName} {ix : Nat} {bytes' : ByteArray} {mL' : Nat} {ret' : Option FieldType} {Q' : Option Value → Heap → Prop} {argsL : List Value} {rm : Room} (hd : decode bytes pc = .ok (.invokestatic ix, 3)) (w1 : (Jvm.Cond.methodLink own ix y).before a0 Z = true) (w2 : (Jvm.Cond.static y).before a0 Z = true) (w3 : (Jvm.Cond.initialized y.cls).before a0 Z = true) (w4 : (Jvm.Cond.code y bytes' mL' ret').before a0 Z = true) (hy : y.cls ≠ "java/lang/invoke/MethodHandle" ∧ y.cls ≠ "java/lang/invoke/VarHandle")  {st0 : List Value} (hst : st0 = argsL.reverse ++ st) (hC : Ct l Z y bytes' mL' ret' rm argsL.toArray T.heap Q') (hlen : ∀ sig, parseMethodDescriptor y.desc = some sig → argsL.length = sig.parameters.length) (hsz : Ls.size = mL) (hcl : cells + rm.cells ≤ R.cells) (hsl : slots + rm.slots ≤ R.slots) (hfr : rm.frames + 1 ≤ R.frames) (hlo : (st.map fun v => v.category).sum + (mL' + 11) + rm.locals ≤ R.locals) {pc' : Nat} (hp : pc + 3 = pc')
    (k : ∀ (T' : State) (v : Option Value), Wk l Z R bytes mL ret own nm p e s m args below meth c T' (cells + rm.cells) (slots + rm.slots) → Q' v T'.heap → Ends p e below s Z Q cC cS T' (mkF m pc' Ls (v.toList ++ st))) : Ends p e below s Z Q cC cS T (mkF m pc Ls st0) :=
  E_staticB X hd w1 w2 w3 w4 hy hst (hC.back X.hZ w4 w3 hfr hlo) (fun _ _ _ q => q) hlen hsz hcl hsl hp k
theorem E_specialB (X : Wk l Z R bytes mL ret own nm p e s m args below meth c T cells slots) {y : MethodName} {ix : Nat} {bytes' : ByteArray} {mL' : Nat} {ret' : Option FieldType} {Q' : Option Value → Heap → Prop} {argsL : List Value} {Q2 : Option Value → Heap → List Loc → Prop} {rC rS : Nat} {a : Addr} (hd : decode bytes pc = .ok (.invokespecial ix, 3)) (hy1 : y.name = "<init>") (hret : ret' = none) (w1 : (Jvm.Cond.methodLink own ix y).before a0 Z = true) (w2 : (Jvm.Cond.instanceMethod y).before a0 Z = true) (w4 : (Jvm.Cond.code y bytes' mL' ret').before a0 Z = true) (hy : y.cls ≠ "java/lang/invoke/MethodHandle" ∧ y.cls ≠ "java/lang/invoke/VarHandle") {st0 : List Value} (hst : st0 = argsL.reverse ++ .ref a :: st) (hK : Back l R p e below s args y 3 ((st.map fun v => v.category).sum) (fun A aa => aa = (.ref a :: argsL).toArray ∧ A.U.heap = T.heap ∧ A.cells + rC ≤ R.cells ∧ A.slots + rS ≤ R.slots) (fun A _ v B => ∃ L, Q2 v B.U.heap L ∧ B.locs = A.locs ++ L ∧ B.cells = A.cells + rC ∧ B.slots = A.slots + rS)) (hQ2 : ∀ v h L, Q2 v h L → Fr Z.heap.size L ∧ Ext Z.heap h ∧ Q' v h) (hlen : ∀ sig, parseMethodDescriptor y.desc = some sig → argsL.length = sig.parameters.length) (hsz : Ls.size = mL) (hcl : cells + rC ≤ R.cells) (hsl : slots + rS ≤ R.slots) {pc' : Nat} (hp : pc + 3 = pc')
    (k : ∀ (T' : State) (v : Option Value), Wk l Z R bytes mL ret own nm p e s m args below meth c T' (cells + rC) (slots + rS) → Q' v T'.heap → Ends p e below s Z Q cC cS T' (mkF m pc' Ls (v.toList ++ st))) : Ends p e below s Z Q cC cS T (mkF m pc Ls st0) := by
  subst hp hst; obtain ⟨q0, locs, Y, N, Od⟩ := id X
  subst hret
  obtain ⟨v, _, ⟨T', L1, k1, n1⟩, -, Y', ⟨Lc, hQ, l1, y1, z1⟩, stp⟩ := Y.specialBack X.hx (y := y) hy1 X.hown (mvT X.hZ w1) (mvT X.hZ w2) (mvT X.hZ w4) hy hK (g := mkF m pc Ls (argsL.reverse ++ .ref a :: st)) rfl (X.size hsz) (Steps.refl _) (a := a) (argsL := argsL) (rest := st) hlen rfl (by show 2 * 0 + _ ≤ _; omega) (X.hb hd) (fun _ _ => ⟨rfl, rfl, hcl, hsl⟩)
  dsimp only [Pt.U, Pt.locs, Pt.cells, Pt.slots] at Y' l1 y1 z1 stp hQ
  subst l1 y1 z1
  obtain ⟨f1, f2, f3⟩ := hQ2 _ _ _ hQ
  exact E_tr stp (k T' v ⟨q0, _, Y', Fr.app N f1, f2⟩ f3)
theorem E_special (X : Wk l Z R bytes mL ret own nm p e s m args below meth c T cells slots) {y : MethodName} {ix : Nat} {bytes' : ByteArray} {mL' : Nat} {ret' : Option FieldType} {Q' : Option Value → Heap → Prop} {argsL : List Value} {rm : Room} {a : Addr} (hd : decode bytes pc = .ok (.invokespecial ix, 3)) (hy1 : y.name = "<init>") (hret : ret' = none) (w1 : (Jvm.Cond.methodLink own ix y).before a0 Z = true) (w2 : (Jvm.Cond.instanceMethod y).before a0 Z = true) (w4 : (Jvm.Cond.code y bytes' mL' ret').before a0 Z = true) (hy : y.cls ≠ "java/lang/invoke/MethodHandle" ∧ y.cls ≠ "java/lang/invoke/VarHandle") (w3 : (Jvm.Cond.initialized y.cls).before a0 Z = true) {st0 : List Value} (hst : st0 = argsL.reverse ++ .ref a :: st) (hC : Ct l Z y bytes' mL' ret' rm (.ref a :: argsL).toArray T.heap Q') (hlen : ∀ sig, parseMethodDescriptor y.desc = some sig → argsL.length = sig.parameters.length) (hsz : Ls.size = mL) (hcl : cells + rm.cells ≤ R.cells) (hsl : slots + rm.slots ≤ R.slots) (hfr : rm.frames + 1 ≤ R.frames) (hlo : (st.map fun v => v.category).sum + (mL' + 11) + rm.locals ≤ R.locals) {pc' : Nat} (hp : pc + 3 = pc')
    (k : ∀ (T' : State) (v : Option Value), Wk l Z R bytes mL ret own nm p e s m args below meth c T' (cells + rm.cells) (slots + rm.slots) → Q' v T'.heap → Ends p e below s Z Q cC cS T' (mkF m pc' Ls (v.toList ++ st))) : Ends p e below s Z Q cC cS T (mkF m pc Ls st0) :=
  E_specialB X hd hy1 hret w1 w2 w4 hy hst (hC.back X.hZ w4 w3 hfr hlo) (fun _ _ _ q => q) hlen hsz hcl hsl hp k
theorem E_virtualB (X : Wk l Z R bytes mL ret own nm p e s m args below meth c T cells slots) {y : MethodName} {ix : Nat} {Q' : Option Value → Heap → Prop} {argsL : List Value} {Q2 : Option Value → Heap → List Loc → Prop} {rC rS : Nat} {a : Addr} {z : MethodName} {D : String} (hd : decode bytes pc = .ok (.invokevirtual ix, 3)) (w1 : (Jvm.Cond.methodLink own ix y).before a0 Z = true) (w2 : (Jvm.Cond.declares y).before a0 Z = true) (w5 : (Jvm.Cond.selects D y z).before a0 Z = true) (w6 : (Jvm.Cond.instanceMethod z).before a0 Z = true) (hnf : NotFace s y) (hy : y.cls ≠ "java/lang/invoke/MethodHandle" ∧ y.cls ≠ "java/lang/invoke/VarHandle") (E : Exa Z T.heap a D) {st0 : List Value} (hst : st0 = argsL.reverse ++ .ref a :: st) (hK : Back l R p e below s args z 3 ((st.map fun v => v.category).sum) (fun A aa => aa = (.ref a :: argsL).toArray ∧ A.U.heap = T.heap ∧ A.cells + rC ≤ R.cells ∧ A.slots + rS ≤ R.slots) (fun A _ v B => ∃ L, Q2 v B.U.heap L ∧ B.locs = A.locs ++ L ∧ B.cells = A.cells + rC ∧ B.slots = A.slots + rS)) (hQ2 : ∀ v h L, Q2 v h L → Fr Z.heap.size L ∧ Ext Z.heap h ∧ Q' v h) (hlen : ∀ sig, parseMethodDescriptor y.desc = some sig → argsL.length = sig.parameters.length) (hsz : Ls.size = mL) (hcl : cells + rC ≤ R.cells) (hsl : slots + rS ≤ R.slots) {pc' : Nat} (hp : pc + 3 = pc')
    (k : ∀ (T' : State) (v : Option Value), Wk l Z R bytes mL ret own nm p e s m args below meth c T' (cells + rC) (slots + rS) → Q' v T'.heap → Ends p e below s Z Q cC cS T' (mkF m pc' Ls (v.toList ++ st))) : Ends p e below s Z Q cC cS T (mkF m pc Ls st0) := by
  subst hp hst; obtain ⟨q0, locs, Y, N, Od⟩ := id X
  obtain ⟨cq, kq, qa, qb, qc⟩ := isOf X.hZ rfl E
  obtain ⟨v, _, ⟨T', L1, k1, n1⟩, -, Y', ⟨Lc, hQ, l1, y1, z1⟩, stp⟩ := Y.virtualBack X.hx (y := y) (z := z) X.hown (mvT X.hZ w1) (mvT X.hZ w2) hnf (mvT X.hZ w5) (mvT X.hZ w6) hy hK qa qc (g := mkF m pc Ls (argsL.reverse ++ .ref a :: st)) rfl (X.size hsz) (Steps.refl _) (argsL := argsL) (rest := st) hlen rfl (by show 2 * 0 + _ ≤ _; omega) (X.hb hd) (fun _ _ => ⟨rfl, rfl, hcl, hsl⟩)
  dsimp only [Pt.U, Pt.locs, Pt.cells, Pt.slots] at Y' l1 y1 z1 stp hQ
  subst l1 y1 z1
  obtain ⟨f1, f2, f3⟩ := hQ2 _ _ _ hQ
  exact E_tr stp (k T' v ⟨q0, _, Y', Fr.app N f1, f2⟩ f3)
theorem E_virtual (X : Wk l Z R bytes mL ret own nm p e s m args below meth c T cells slots) {y : MethodName} {ix : Nat} {bytes' : ByteArray} {mL' : Nat} {ret' : Option FieldType} {Q' : Option Value → Heap → Prop} {argsL : List Value} {rm : Room} {a : Addr} {z : MethodName} {D : String} (hd : decode bytes pc = .ok (.invokevirtual ix, 3)) (w1 : (Jvm.Cond.methodLink own ix y).before a0 Z = true) (w2 : (Jvm.Cond.declares y).before a0 Z = true) (w5 : (Jvm.Cond.selects D y z).before a0 Z = true) (w6 : (Jvm.Cond.instanceMethod z).before a0 Z = true) (hnf : NotFace s y) (hy : y.cls ≠ "java/lang/invoke/MethodHandle" ∧ y.cls ≠ "java/lang/invoke/VarHandle") (E : Exa Z T.heap a D) (w3 : (Jvm.Cond.initialized z.cls).before a0 Z = true) (w4 : (Jvm.Cond.code z bytes' mL' ret').before a0 Z = true) {st0 : List Value} (hst : st0 = argsL.reverse ++ .ref a :: st) (hC : Ct l Z z bytes' mL' ret' rm (.ref a :: argsL).toArray T.heap Q') (hlen : ∀ sig, parseMethodDescriptor y.desc = some sig → argsL.length = sig.parameters.length) (hsz : Ls.size = mL) (hcl : cells + rm.cells ≤ R.cells) (hsl : slots + rm.slots ≤ R.slots) (hfr : rm.frames + 1 ≤ R.frames) (hlo : (st.map fun v => v.category).sum + (mL' + 11) + rm.locals ≤ R.locals) {pc' : Nat} (hp : pc + 3 = pc')
    (k : ∀ (T' : State) (v : Option Value), Wk l Z R bytes mL ret own nm p e s m args below meth c T' (cells + rm.cells) (slots + rm.slots) → Q' v T'.heap → Ends p e below s Z Q cC cS T' (mkF m pc' Ls (v.toList ++ st))) : Ends p e below s Z Q cC cS T (mkF m pc Ls st0) :=
  E_virtualB X hd w1 w2 w5 w6 hnf hy E hst (hC.back X.hZ w4 w3 hfr hlo) (fun _ _ _ q => q) hlen hsz hcl hsl hp k
theorem E_privateB (X : Wk l Z R bytes mL ret own nm p e s m args below meth c T cells slots) {y : MethodName} {ix : Nat} {bytes' : ByteArray} {mL' : Nat} {ret' : Option FieldType} {Q' : Option Value → Heap → Prop} {argsL : List Value} {Q2 : Option Value → Heap → List Loc → Prop} {rC rS : Nat} {a : Addr} {D : String} (hd : decode bytes pc = .ok (.invokevirtual ix, 3)) (w1 : (Jvm.Cond.methodLink own ix y).before a0 Z = true) (w6 : (Jvm.Cond.instanceMethod y).before a0 Z = true) (w5 : (Jvm.Cond.selects y.cls y y).before a0 Z = true) (wp : (Jvm.Cond.privateMethod y).before a0 Z = true) (w4 : (Jvm.Cond.code y bytes' mL' ret').before a0 Z = true) (hy : y.cls ≠ "java/lang/invoke/MethodHandle" ∧ y.cls ≠ "java/lang/invoke/VarHandle") (E : Exa Z T.heap a D) {st0 : List Value} (hst : st0 = argsL.reverse ++ .ref a :: st) (hK : Back l R p e below s args y 3 ((st.map fun v => v.category).sum) (fun A aa => aa = (.ref a :: argsL).toArray ∧ A.U.heap = T.heap ∧ A.cells + rC ≤ R.cells ∧ A.slots + rS ≤ R.slots) (fun A _ v B => ∃ L, Q2 v B.U.heap L ∧ B.locs = A.locs ++ L ∧ B.cells = A.cells + rC ∧ B.slots = A.slots + rS)) (hQ2 : ∀ v h L, Q2 v h L → Fr Z.heap.size L ∧ Ext Z.heap h ∧ Q' v h) (hlen : ∀ sig, parseMethodDescriptor y.desc = some sig → argsL.length = sig.parameters.length) (hsz : Ls.size = mL) (hcl : cells + rC ≤ R.cells) (hsl : slots + rS ≤ R.slots) {pc' : Nat} (hp : pc + 3 = pc')
    (k : ∀ (T' : State) (v : Option Value), Wk l Z R bytes mL ret own nm p e s m args below meth c T' (cells + rC) (slots + rS) → Q' v T'.heap → Ends p e below s Z Q cC cS T' (mkF m pc' Ls (v.toList ++ st))) : Ends p e below s Z Q cC cS T (mkF m pc Ls st0) := by
  subst hp hst; obtain ⟨q0, locs, Y, N, Od⟩ := id X
  obtain ⟨cell, kk, e1, -, -, e4, -⟩ := E
  obtain ⟨v, _, ⟨T', L1, k1, n1⟩, -, Y', ⟨Lc, hQ, l1, y1, z1⟩, stp⟩ := Y.privateBack X.hx (y := y) X.hown (mvT X.hZ w1) (mvT X.hZ w6) (mvT X.hZ w5) (Cond.privateMethod_at (mvP (args := args) X.hZ wp)) (mvT X.hZ w4) hy hK (g := mkF m pc Ls (argsL.reverse ++ .ref a :: st)) rfl (X.size hsz) (Steps.refl _) (a := a) e1 (fun q z => by rw [z] at e4; cases e4) (argsL := argsL) (rest := st) hlen rfl (by show 2 * 0 + _ ≤ _; omega) (X.hb hd) (fun _ _ => ⟨rfl, rfl, hcl, hsl⟩)
  dsimp only [Pt.U, Pt.locs, Pt.cells, Pt.slots] at Y' l1 y1 z1 stp hQ
  subst l1 y1 z1
  obtain ⟨f1, f2, f3⟩ := hQ2 _ _ _ hQ
  exact E_tr stp (k T' v ⟨q0, _, Y', Fr.app N f1, f2⟩ f3)
theorem E_private (X : Wk l Z R bytes mL ret own nm p e s m args below meth c T cells slots) {y : MethodName} {ix : Nat} {bytes' : ByteArray} {mL' : Nat} {ret' : Option FieldType} {Q' : Option Value → Heap → Prop} {argsL : List Value} {rm : Room} {a : Addr} {D : String} (hd : decode bytes pc = .ok (.invokevirtual ix, 3)) (w1 : (Jvm.Cond.methodLink own ix y).before a0 Z = true) (w6 : (Jvm.Cond.instanceMethod y).before a0 Z = true) (w5 : (Jvm.Cond.selects y.cls y y).before a0 Z = true) (wp : (Jvm.Cond.privateMethod y).before a0 Z = true) (w4 : (Jvm.Cond.code y bytes' mL' ret').before a0 Z = true) (hy : y.cls ≠ "java/lang/invoke/MethodHandle" ∧ y.cls ≠ "java/lang/invoke/VarHandle") (E : Exa Z T.heap a D) (w3 : (Jvm.Cond.initialized y.cls).before a0 Z = true) {st0 : List Value} (hst : st0 = argsL.reverse ++ .ref a :: st) (hC : Ct l Z y bytes' mL' ret' rm (.ref a :: argsL).toArray T.heap Q') (hlen : ∀ sig, parseMethodDescriptor y.desc = some sig → argsL.length = sig.parameters.length) (hsz : Ls.size = mL) (hcl : cells + rm.cells ≤ R.cells) (hsl : slots + rm.slots ≤ R.slots) (hfr : rm.frames + 1 ≤ R.frames) (hlo : (st.map fun v => v.category).sum + (mL' + 11) + rm.locals ≤ R.locals) {pc' : Nat} (hp : pc + 3 = pc')
    (k : ∀ (T' : State) (v : Option Value), Wk l Z R bytes mL ret own nm p e s m args below meth c T' (cells + rm.cells) (slots + rm.slots) → Q' v T'.heap → Ends p e below s Z Q cC cS T' (mkF m pc' Ls (v.toList ++ st))) : Ends p e below s Z Q cC cS T (mkF m pc Ls st0) :=
  E_privateB X hd w1 w6 w5 wp w4 hy E hst (hC.back X.hZ w4 w3 hfr hlo) (fun _ _ _ q => q) hlen hsz hcl hsl hp k
theorem E_interfaceB (X : Wk l Z R bytes mL ret own nm p e s m args below meth c T cells slots) {y : MethodName} {ix : Nat} {Q' : Option Value → Heap → Prop} {argsL : List Value} {Q2 : Option Value → Heap → List Loc → Prop} {rC rS : Nat} {a : Addr} {z : MethodName} {D : String} {ct : Nat} (hd : decode bytes pc = .ok (.invokeinterface ix ct, 5)) (w1 : (Jvm.Cond.methodLink own ix y).before a0 Z = true) (w2 : (Jvm.Cond.declares y).before a0 Z = true) (w5 : (Jvm.Cond.selects D y z).before a0 Z = true) (w6 : (Jvm.Cond.instanceMethod z).before a0 Z = true) (w7 : (Jvm.Cond.interfaceMethod y.cls y.cls y.name y.desc).before a0 Z = true) (hif : ((Jvm.Cond.interfaceMethod y.cls y.cls y.name y.desc).onTables && (Jvm.Cond.interfaceMethod y.cls y.cls y.name y.desc).keepsFace) = true) (w8 : (Jvm.Cond.publicMethod z).before a0 Z = true) (w9 : (Jvm.Cond.unhidden D y.name y.desc).before a0 Z = true) (wc : (Jvm.Cond.castable D y.cls).before a0 Z = true) (hy : y.cls ≠ "java/lang/invoke/MethodHandle" ∧ y.cls ≠ "java/lang/invoke/VarHandle") (E : Exa Z T.heap a D) {st0 : List Value} (hst : st0 = argsL.reverse ++ .ref a :: st) (hK : Back l R p e below s args z 5 ((st.map fun v => v.category).sum) (fun A aa => aa = (.ref a :: argsL).toArray ∧ A.U.heap = T.heap ∧ A.cells + rC ≤ R.cells ∧ A.slots + rS ≤ R.slots) (fun A _ v B => ∃ L, Q2 v B.U.heap L ∧ B.locs = A.locs ++ L ∧ B.cells = A.cells + rC ∧ B.slots = A.slots + rS)) (hQ2 : ∀ v h L, Q2 v h L → Fr Z.heap.size L ∧ Ext Z.heap h ∧ Q' v h) (hlen : ∀ sig, parseMethodDescriptor y.desc = some sig → argsL.length = sig.parameters.length) (hsz : Ls.size = mL) (hcl : cells + rC ≤ R.cells) (hsl : slots + rS ≤ R.slots) {pc' : Nat} (hp : pc + 5 = pc')
    (k : ∀ (T' : State) (v : Option Value), Wk l Z R bytes mL ret own nm p e s m args below meth c T' (cells + rC) (slots + rS) → Q' v T'.heap → Ends p e below s Z Q cC cS T' (mkF m pc' Ls (v.toList ++ st))) : Ends p e below s Z Q cC cS T (mkF m pc Ls st0) := by
  subst hp hst; obtain ⟨q0, locs, Y, N, Od⟩ := id X
  obtain ⟨cq, kq, qa, qb, qc⟩ := isOf X.hZ rfl E
  obtain ⟨v, _, ⟨T', L1, k1, n1⟩, -, Y', ⟨Lc, hQ, l1, y1, z1⟩, stp⟩ := Y.interfaceBack X.hx (xi := y) (y := z) X.hown (mvT X.hZ w1) (mvT X.hZ w2) (mvT X.hZ w7 hif) (mvT X.hZ w5) (mvT X.hZ w6) (mvT X.hZ w8) (mvT X.hZ w9) (mvT X.hZ wc) hy hK qa qb qc (g := mkF m pc Ls (argsL.reverse ++ .ref a :: st)) rfl (X.size hsz) (Steps.refl _) (argsL := argsL) (rest := st) hlen rfl (by show 2 * 0 + _ ≤ _; omega) (X.hb hd) (fun _ _ => ⟨rfl, rfl, hcl, hsl⟩)
  dsimp only [Pt.U, Pt.locs, Pt.cells, Pt.slots] at Y' l1 y1 z1 stp hQ
  subst l1 y1 z1
  obtain ⟨f1, f2, f3⟩ := hQ2 _ _ _ hQ
  exact E_tr stp (k T' v ⟨q0, _, Y', Fr.app N f1, f2⟩ f3)
theorem E_interface (X : Wk l Z R bytes mL ret own nm p e s m args below meth c T cells slots) {y : MethodName} {ix : Nat} {bytes' : ByteArray} {mL' : Nat} {ret' : Option FieldType} {Q' : Option Value → Heap → Prop} {argsL : List Value} {rm : Room} {a : Addr} {z : MethodName} {D : String} {ct : Nat} (hd : decode bytes pc = .ok (.invokeinterface ix ct, 5)) (w1 : (Jvm.Cond.methodLink own ix y).before a0 Z = true) (w2 : (Jvm.Cond.declares y).before a0 Z = true) (w5 : (Jvm.Cond.selects D y z).before a0 Z = true) (w6 : (Jvm.Cond.instanceMethod z).before a0 Z = true) (w7 : (Jvm.Cond.interfaceMethod y.cls y.cls y.name y.desc).before a0 Z = true) (hif : ((Jvm.Cond.interfaceMethod y.cls y.cls y.name y.desc).onTables && (Jvm.Cond.interfaceMethod y.cls y.cls y.name y.desc).keepsFace) = true) (w8 : (Jvm.Cond.publicMethod z).before a0 Z = true) (w9 : (Jvm.Cond.unhidden D y.name y.desc).before a0 Z = true) (wc : (Jvm.Cond.castable D y.cls).before a0 Z = true) (hy : y.cls ≠ "java/lang/invoke/MethodHandle" ∧ y.cls ≠ "java/lang/invoke/VarHandle") (E : Exa Z T.heap a D) (w3 : (Jvm.Cond.initialized z.cls).before a0 Z = true) (w4 : (Jvm.Cond.code z bytes' mL' ret').before a0 Z = true) {st0 : List Value} (hst : st0 = argsL.reverse ++ .ref a :: st) (hC : Ct l Z z bytes' mL' ret' rm (.ref a :: argsL).toArray T.heap Q') (hlen : ∀ sig, parseMethodDescriptor y.desc = some sig → argsL.length = sig.parameters.length) (hsz : Ls.size = mL) (hcl : cells + rm.cells ≤ R.cells) (hsl : slots + rm.slots ≤ R.slots) (hfr : rm.frames + 1 ≤ R.frames) (hlo : (st.map fun v => v.category).sum + (mL' + 11) + rm.locals ≤ R.locals) {pc' : Nat} (hp : pc + 5 = pc')
    (k : ∀ (T' : State) (v : Option Value), Wk l Z R bytes mL ret own nm p e s m args below meth c T' (cells + rm.cells) (slots + rm.slots) → Q' v T'.heap → Ends p e below s Z Q cC cS T' (mkF m pc' Ls (v.toList ++ st))) : Ends p e below s Z Q cC cS T (mkF m pc Ls st0) :=
  E_interfaceB X hd w1 w2 w5 w6 w7 hif w8 w9 wc hy E hst (hC.back X.hZ w4 w3 hfr hlo) (fun _ _ _ q => q) hlen hsz hcl hsl hp k
theorem Wk.out (X : Wk l Z R bytes mL ret own nm p e s m args below meth c T cells slots) {v : Option Value} (hv : ret = none → v = none) (hQ : Q v T.heap) (h1 : cells ≤ cC) (h2 : slots ≤ cS) (hs : ∀ fs, (∀ (f : JFrame) (acts : List Action), f.method = m → f.locked = none → f.entered = [] → (doReturn e (T.setTop f) acts v).1 = T.setFrames fs) → Steps p.tables e below (T.setTop g) (T.setFrames fs)) : Ends p e below s Z Q cC cS T g := by
  obtain ⟨q0, locs, Y, N, Od⟩ := id X
  obtain ⟨fs, hr, hrun, hended, hW, hsame⟩ := Y.leave (v := v) (fun h => hv (q0.2.2.2.1.symm.trans h)) q0.2.2.2.2.1
  exact ⟨_, _, hs fs hr, hrun, hended, _, _, rfl, ⟨N, Od, hQ⟩, ⟨_, rfl⟩, hW, hsame.mono h1 h2⟩
theorem E_return (X : Wk l Z R bytes mL ret own nm p e s m args below meth c T cells slots) (hd : decode bytes pc = .ok (.return_, 1)) (hret : ret = none) (h1 : cells ≤ cC) (h2 : slots ≤ cS) (hQ : Q none T.heap) : Ends p e below s Z Q cC cS T (mkF m pc Ls []) := by
  refine X.out (v := none) (fun _ => rfl) hQ h1 h2 fun fs hr => ?_
  obtain ⟨q0, locs, Y, N, Od⟩ := id X
  exact Y.returnOut X.hx (q0.2.2.2.1.trans hret) (X.hb hd) hr
theorem E_ireturnI (X : Wk l Z R bytes mL ret own nm p e s m args below meth c T cells slots) {z : Int32} (hd : decode bytes pc = .ok (.ireturn, 1)) (hret : ret = some .int) (h1 : cells ≤ cC) (h2 : slots ≤ cS) (hQ : Q (some (.int z)) T.heap) : Ends p e below s Z Q cC cS T (mkF m pc Ls (.int z :: st)) := by
  refine X.out (v := some (.int z)) (fun h => by rw [hret] at h; cases h) hQ h1 h2 fun fs hr => ?_
  obtain ⟨q0, locs, Y, N, Od⟩ := id X
  exact retOut Y X.hx (q0.2.2.2.1.trans hret) rfl (Or.inl ⟨rfl, Or.inl rfl, z, rfl⟩) (X.hb hd) hr
theorem E_ireturnN (X : Wk l Z R bytes mL ret own nm p e s m args below meth c T cells slots) {z : Int32} {t : FieldType} (hd : decode bytes pc = .ok (.ireturn, 1)) (hret : ret = some t) (ht : t = .boolean ∨ t = .byte ∨ t = .char ∨ t = .short) (h1 : cells ≤ cC) (h2 : slots ≤ cS) (hQ : Q (some (.int (nar t z))) T.heap) : Ends p e below s Z Q cC cS T (mkF m pc Ls (.int z :: st)) := by
  refine X.out (v := some (.int (nar t z))) (fun h => by rw [hret] at h; cases h) hQ h1 h2 fun fs hr => ?_
  obtain ⟨q0, locs, Y, N, Od⟩ := id X
  exact retN Y X.hx (q0.2.2.2.1.trans hret) ht (X.hb hd) hr
theorem E_areturn (X : Wk l Z R bytes mL ret own nm p e s m args below meth c T cells slots) {v : Value} {t : FieldType} (hd : decode bytes pc = .ok (.areturn, 1)) (hret : ret = some t) (ht : t.isReference = true) (hv : v.isRef = true) (hn : narrow t v = v) (h1 : cells ≤ cC) (h2 : slots ≤ cS) (hQ : Q (some v) T.heap) : Ends p e below s Z Q cC cS T (mkF m pc Ls (v :: st)) := by
  refine X.out (v := some v) (fun h => by rw [hret] at h; cases h) hQ h1 h2 fun fs hr => ?_
  obtain ⟨q0, locs, Y, N, Od⟩ := id X
  exact retOut Y X.hx (q0.2.2.2.1.trans hret) hn (Or.inr (Or.inr (Or.inr (Or.inr ⟨rfl, ht, hv⟩)))) (X.hb hd) hr
end Own
section OwnW
variable {p : Program} {l : Launch} {e : Env} {R : Room} {s : State} {m : MethodId} {args : Array Value} {below : List Frame} {meth : Method} {c : Code} {T T' : State} {cells slots : Nat} {Z : State} {bytes : ByteArray} {mL : Nat} {ret : Option FieldType} {own nm : String} {Q : Option Value → Heap → Prop} {cC cS : Nat} {pc : Nat} {Ls : Array Slot} {st : List Value} {a0 : Array Value} {g g' : JFrame} {vm : Vm}
abbrev EL : List (String × Nat) := consts_1
/-- the walk stands at T over the start with the tables vm; it may have loaded String constants -/
def Ww (l : Launch) (Z : State) (R : Room) (bytes : ByteArray) (mL : Nat) (ret : Option FieldType) (own nm : String) (p : Program) (e : Env) (s : State) (m : MethodId) (args : Array Value) (below : List Frame) (meth : Method) (c : Code) (vm : Vm) (T : State) (cells slots : Nat) : Prop :=
  (p.tables.exec = Jvm.exec ∧ c.code = bytes ∧ c.maxLocals = mL ∧ meth.sig.returnType = ret ∧ meth.locks = false ∧ vm.findClass own = some m.cls ∧ meth.name = nm ∧ Z.Warmed39 vm) ∧
  ((∃ k0, s.Since vm k0 ∧ k0 ≤ T.heap.size) ∧ (∃ a1, EW Z a1 EL) ∧ CHr Z EL s.vm s.heap vm T.heap) ∧
  ∃ locs, Stand p l e R (s.setVm vm) m args below meth c T locs cells slots ∧ Fr Z.heap.size locs ∧ Ext Z.heap T.heap
def EndW (p : Program) (e : Env) (below : List Frame) (s : State) (Z : State) (Q : Option Value → Heap → Prop) (cC cS : Nat) (T : State) (g : JFrame) : Prop :=
  ∃ t o, Steps p.tables e below (T.setTop g) t ∧ t.status = .running ∧ Ended t below o ∧ ∃ v L, o = .returned v ∧ (Fr Z.heap.size L ∧ Ext Z.heap t.heap ∧ Q v t.heap) ∧ CHr Z EL s.vm s.heap t.vm t.heap ∧ ReturnedEndW s o t L cC cS
def CtW (l : Launch) (Z : State) (y : MethodName) (bytes : ByteArray) (mL : Nat) (ret : Option FieldType) (rm : Room) (as' : Array Value) (h : Heap) (Q : Option Value → Heap → Prop) : Prop :=
  ∀ ws, MetFree l y (head1 (Jvm.Cond.code y bytes mL ret :: ws) rm) (fun a U => a = as' ∧ Z.Warmed39 U.vm ∧ U.heap = h ∧ CHv Z EL U.vm h) (fun _ _ _ _ _ => True) (fun _ U o U' => ∃ v L, o = .returned v ∧ (Fr Z.heap.size L ∧ Ext Z.heap U'.heap ∧ Q v U'.heap) ∧ CHr Z EL U.vm U.heap U'.vm U'.heap ∧ ReturnedEndW U o U' L rm.cells rm.slots)
theorem Ww.hx (X : Ww l Z R bytes mL ret own nm p e s m args below meth c vm T cells slots) : p.tables.exec = Jvm.exec := X.1.1
theorem Ww.hb (X : Ww l Z R bytes mL ret own nm p e s m args below meth c vm T cells slots) {pc : Nat} {r : Except DecodeError (Instr × Nat)} (h : decode bytes pc = r) : decode c.code pc = r := X.1.2.1 ▸ h
theorem Ww.hown (X : Ww l Z R bytes mL ret own nm p e s m args below meth c vm T cells slots) : vm.findClass own = some m.cls := X.1.2.2.2.2.2.1
theorem Ww.hZ (X : Ww l Z R bytes mL ret own nm p e s m args below meth c vm T cells slots) : Z.Warmed39 vm := X.1.2.2.2.2.2.2.2
theorem Ww.at (X : Ww l Z R bytes mL ret own nm p e s m args below meth c vm T cells slots) : At T m c below := by obtain ⟨-, -, _, X, -⟩ := X; exact X.here
theorem Ww.old (X : Ww l Z R bytes mL ret own nm p e s m args below meth c vm T cells slots) : Ext Z.heap T.heap := by obtain ⟨-, -, _, -, -, X⟩ := X; exact X
theorem Ww.le (X : Ww l Z R bytes mL ret own nm p e s m args below meth c vm T cells slots) : Z.heap.size ≤ T.heap.size := X.old.1
theorem Ww.size (X : Ww l Z R bytes mL ret own nm p e s m args below meth c vm T cells slots) (h : Ls.size = mL) {pc : Nat} {st : List Value} : (mkF m pc Ls st).locals.size = c.maxLocals := h.trans X.1.2.2.1.symm
theorem Ww.more (X : Ww l Z R bytes mL ret own nm p e s m args below meth c vm T cells slots) {cells' slots' : Nat} (h1 : cells ≤ cells') (h2 : slots ≤ slots') : Ww l Z R bytes mL ret own nm p e s m args below meth c vm T cells' slots' := by
  obtain ⟨q, q2, locs, Y, r⟩ := X; exact ⟨q, q2, locs, Y.more h1 h2, r⟩

theorem Ww.ch (X : Ww l Z R bytes mL ret own nm p e s m args below meth c vm T cells slots) : CHv Z EL vm T.heap := X.2.1.2.2.1
theorem Ww.al (X : Ww l Z R bytes mL ret own nm p e s m args below meth c vm T cells slots) : Z.vm.Alike vm := X.hZ.alike
theorem F_by (f : ∀ target, Steps p.tables e below (T'.setTop g') target → Steps p.tables e below (T.setTop g) target) (k : EndW p e below s Z Q cC cS T' g') : EndW p e below s Z Q cC cS T g := by
  obtain ⟨t, o, h1, r⟩ := k; exact ⟨t, o, f _ h1, r⟩
theorem F_tr (f : Steps p.tables e below (T.setTop g) (T'.setTop g')) (k : EndW p e below s Z Q cC cS T' g') : EndW p e below s Z Q cC cS T g := F_by (fun _ q => f.trans q) k
theorem own_ks {h h' : Heap} (q : h' = h) : Keep h h' [] := q ▸ Keep.refl _ _
/-- the walk goes on: same tables, heap kept but for safe places -/
theorem Ww.go {ws : List Addr} {T' : State} {cells' slots' : Nat} {locs' : List Loc} (X : Ww l Z R bytes mL ret own nm p e s m args below meth c vm T cells slots) (Y : Stand p l e R (s.setVm vm) m args below meth c T' locs' cells' slots') (N : Fr Z.heap.size locs') (K : Keep T.heap T'.heap ws) (hw : ∀ x ∈ ws, Z.heap.size ≤ x) (hs : ∀ x ∈ ws, Safe Z EL vm T.heap x) : Ww l Z R bytes mL ret own nm p e s m args below meth c vm T' cells' slots' := by
  obtain ⟨q0, ⟨⟨k0, hS, hk⟩, hE, hC⟩, locs, Y0, N0, O⟩ := X
  exact ⟨q0, ⟨⟨k0, hS, Nat.le_trans hk K.1⟩, hE, hC.trans (CHr.keep K hs hC.1)⟩, locs', Y, N, Keep.old O K hw⟩
theorem Ww.go2 {ws : List Addr} {T' : State} {cells' slots' : Nat} {locs' : List Loc} (X : Ww l Z R bytes mL ret own nm p e s m args below meth c vm T cells slots) (Y : Stand p l e R (s.setVm vm) m args below meth c T' locs' cells' slots') (N : Fr Z.heap.size locs') (O' : Ext Z.heap T'.heap) (K : Keep T.heap T'.heap ws) (hs : ∀ x ∈ ws, Safe Z EL vm T.heap x) : Ww l Z R bytes mL ret own nm p e s m args below meth c vm T' cells' slots' := by
  obtain ⟨q0, ⟨⟨k0, hS, hk⟩, hE, hC⟩, locs, Y0, N0, O⟩ := X
  exact ⟨q0, ⟨⟨k0, hS, Nat.le_trans hk K.1⟩, hE, hC.trans (CHr.keep K hs hC.1)⟩, locs', Y, N, O'⟩
/-- a String whose array isn't set is no booked one -/
theorem own_safe {h : Heap} {x : Addr} (hal : Z.vm.Alike vm) (E : Exa Z h x "java/lang/String") (F : Fld Z h x "java/lang/String" "value" "[B" .null) (wi : (Jvm.Cond.instantiable "java/lang/String" 4).before a0 Z = true) : Safe Z EL vm h x := fun B => by
  obtain ⟨cell, cf, k, i, f, h1, h2, h3, h4, h5, h6, h7⟩ := F
  obtain ⟨pr, -, u, a, -, q, -, G, rfl | rfl⟩ := B
  · have ha := G.ha
    obtain ⟨cS, ⟨⟨-, -, -, ⟨cv, kv, iv, s4, -⟩, -, -, -, s8, -⟩, -⟩, -⟩ := G
    cases (show h[q.sa]? = some q.sC from ha).symm.trans h1
    obtain ⟨kv', z4⟩ := ff_back (U := Wst Z vm h) hal s4
    have e4 := z4.symm.trans h2
    simp only [Option.some.injEq, Prod.mk.injEq] at e4
    rw [e4.2.2.2, h7] at s8
    cases s8
  · have hd := G.hd
    obtain ⟨cS, ⟨⟨-, -, -, -, -, -, -, -, -, -, ⟨-, kB, hkB, compB, hkindB⟩, -⟩, -, -⟩, -⟩ := G
    obtain ⟨cell2, k2, e1, e2, e3, -⟩ := E
    cases (show h[q.sd]? = some q.SA from hd).symm.trans e1
    obtain ⟨c4, k4, i1, i2, i3, -⟩ := Cond.instantiable_spec wi
    cases e2.symm.trans i1
    obtain ⟨k5, q1, q2⟩ := hal.2.2 _ _ i2
    cases (show vm.classes[q.SA.cls]? = some kB from hkB).symm.trans q1
    rw [q2] at hkindB
    have := i3.symm.trans hkindB
    cases this
theorem CtW.of_body {y1 y2 y3 : String} {rm : Room} {as' : Array Value} {h : Heap} (pn : plainFor ⟨y1, y2, y3⟩ = true) (O : Ext Z.heap h) (hE : EW Z a0 EL) (ef : ∀ m, entryFrame m as' mL = mkF m 0 Ls [])
    (k : ∀ {p : Program} {e : Env} {s : State} {m : MethodId} {below : List Frame} {meth : Method} {c : Code} {T : State}, Ww l Z rm bytes mL ret y1 y2 p e s m as' below meth c s.vm T 0 0 → T.heap = h → EndW p e below s Z Q rm.cells rm.slots T (mkF m 0 Ls [])) : CtW l Z ⟨y1, y2, y3⟩ bytes mL ret rm as' h Q := by
  intro ws
  refine MetFree.of_bodySF pn hisR ?_
  intro p e s m args below meth c s₁ Bd hml0 hP hK
  obtain ⟨rfl, hZ, hh, hC⟩ := hP
  have e0 : s₁.heap = h := by rw [← hh, Bd.state]; rfl
  have X : Ww l Z rm bytes mL ret y1 y2 p e s m args below meth c s.vm s₁ 0 0 := ⟨⟨Bd.exec, Bd.bytes, hml0, Bd.returns, Bd.notSynchronized, findClass_of_methodNamed Bd.named, (name_of_methodNamed Bd.named Bd.method).1, hZ⟩, ⟨⟨0, (State.WarmedH.refl s).since 0, Nat.zero_le _⟩, ⟨_, hE⟩, by rw [hh, e0]; exact CHr.refl hC⟩, [], by rw [State.setVm_self]; exact Stand.of_body Bd, Fr.nil _, e0 ▸ O⟩
  obtain ⟨t, o, h1, r⟩ := k X e0
  exact ⟨t, o, castTop (ef m) h1, r⟩
theorem CtW.back {y : MethodName} {rm : Room} {as' : Array Value} {h : Heap} {mL' : Nat} {bytes' : ByteArray} {ret' : Option FieldType} {Q' : Option Value → Heap → Prop} (hC : CtW l Z y bytes' mL' ret' rm as' h Q') {len W : Nat}
    (hZ : Z.Warmed39 vm) (wc : (Jvm.Cond.code y bytes' mL' ret').before a0 Z = true) (wz : (Jvm.Cond.initialized y.cls).before a0 Z = true) (hf : rm.frames + 1 ≤ R.frames) (hl : W + (mL' + 11) + rm.locals ≤ R.locals) {a1 : Array Value} (hE : EW Z a1 EL) (H : CHv Z EL vm h) :
    BackS l R p e below (s.setVm vm) args y len W (fun A aa => aa = as' ∧ A.U.heap = h ∧ A.cells + rm.cells ≤ R.cells ∧ A.slots + rm.slots ≤ R.slots)
      (fun A _ v B => ∃ L, (Fr Z.heap.size L ∧ Ext Z.heap B.U.heap ∧ Q' v B.U.heap) ∧ B.locs = A.locs ++ L ∧ B.cells = A.cells + rm.cells ∧ B.slots = A.slots + rm.slots ∧ CHr Z EL vm h B.U.vm B.U.heap) :=
  backOfSH (Q := fun v h L => Fr Z.heap.size L ∧ Ext Z.heap h ∧ Q' v h) (hC []) hZ wc wz hf hl hE H

theorem F_aloadN (X : Ww l Z R bytes mL ret own nm p e s m args below meth c vm T cells slots) {j : Fin 4} {v : Value} (hd : decode bytes pc = .ok (.aload_n j, 1)) (hl : Ls[j.val]? = some (.val v)) (hv : v.isRef = true) {pc' : Nat} (hp : pc + 1 = pc') (k : EndW p e below s Z Q cC cS T (mkF m pc' Ls (v :: st))) : EndW p e below s Z Q cC cS T (mkF m pc Ls (st)) := by
  subst hp; exact F_by (fun _ q => XS.aloadN X.at X.hx rfl (X.hb hd) hl hv q) k
theorem F_aload (X : Ww l Z R bytes mL ret own nm p e s m args below meth c vm T cells slots) {j : Nat} {v : Value} (hd : decode bytes pc = .ok (.aload j, 2)) (hl : Ls[j]? = some (.val v)) (hv : v.isRef = true) {pc' : Nat} (hp : pc + 2 = pc') (k : EndW p e below s Z Q cC cS T (mkF m pc' Ls (v :: st))) : EndW p e below s Z Q cC cS T (mkF m pc Ls (st)) := by
  subst hp; exact F_by (fun _ q => XS.aload X.at X.hx rfl (X.hb hd) hl hv q) k
theorem F_iloadN (X : Ww l Z R bytes mL ret own nm p e s m args below meth c vm T cells slots) {j : Fin 4} {v : Int32} (hd : decode bytes pc = .ok (.iload_n j, 1)) (hl : Ls[j.val]? = some (.val (.int v))) {pc' : Nat} (hp : pc + 1 = pc') (k : EndW p e below s Z Q cC cS T (mkF m pc' Ls (.int v :: st))) : EndW p e below s Z Q cC cS T (mkF m pc Ls (st)) := by
  subst hp; exact F_by (fun _ q => XS.iloadN X.at X.hx rfl (X.hb hd) hl q) k
theorem F_iload (X : Ww l Z R bytes mL ret own nm p e s m args below meth c vm T cells slots) {j : Nat} {v : Int32} (hd : decode bytes pc = .ok (.iload j, 2)) (hl : Ls[j]? = some (.val (.int v))) {pc' : Nat} (hp : pc + 2 = pc') (k : EndW p e below s Z Q cC cS T (mkF m pc' Ls (.int v :: st))) : EndW p e below s Z Q cC cS T (mkF m pc Ls (st)) := by
  subst hp; exact F_by (fun _ q => XS.iload X.at X.hx rfl (X.hb hd) hl q) k
theorem F_aconstNull (X : Ww l Z R bytes mL ret own nm p e s m args below meth c vm T cells slots) (hd : decode bytes pc = .ok (.aconst_null, 1)) {pc' : Nat} (hp : pc + 1 = pc') (k : EndW p e below s Z Q cC cS T (mkF m pc' Ls (.null :: st))) : EndW p e below s Z Q cC cS T (mkF m pc Ls (st)) := by
  subst hp; exact F_by (fun _ q => XS.aconstNull X.at X.hx rfl (X.hb hd) q) k
theorem F_iconst (X : Ww l Z R bytes mL ret own nm p e s m args below meth c vm T cells slots) {i : Int} {v : Int32} (hd : decode bytes pc = .ok (.iconst i, 1)) (hv : Int32.ofInt i = v) {pc' : Nat} (hp : pc + 1 = pc') (k : EndW p e below s Z Q cC cS T (mkF m pc' Ls (.int v :: st))) : EndW p e below s Z Q cC cS T (mkF m pc Ls st) := by
  subst hp hv; exact F_by (fun _ q => XS.iconst X.at X.hx rfl (X.hb hd) q) k
theorem F_bipush (X : Ww l Z R bytes mL ret own nm p e s m args below meth c vm T cells slots) {i : Int} {v : Int32} (hd : decode bytes pc = .ok (.bipush i, 2)) (hv : (Int8.ofInt i).toInt32 = v) {pc' : Nat} (hp : pc + 2 = pc') (k : EndW p e below s Z Q cC cS T (mkF m pc' Ls (.int v :: st))) : EndW p e below s Z Q cC cS T (mkF m pc Ls st) := by
  subst hp hv; exact F_by (fun _ q => XS.bipush X.at X.hx rfl (X.hb hd) q) k
theorem F_sipush (X : Ww l Z R bytes mL ret own nm p e s m args below meth c vm T cells slots) {i : Int} {v : Int32} (hd : decode bytes pc = .ok (.sipush i, 3)) (hv : (Int16.ofInt i).toInt32 = v) {pc' : Nat} (hp : pc + 3 = pc') (k : EndW p e below s Z Q cC cS T (mkF m pc' Ls (.int v :: st))) : EndW p e below s Z Q cC cS T (mkF m pc Ls st) := by
  subst hp hv; exact F_by (fun _ q => XS.sipush X.at X.hx rfl (X.hb hd) q) k
theorem F_iadd (X : Ww l Z R bytes mL ret own nm p e s m args below meth c vm T cells slots) {x y v : Int32} (hd : decode bytes pc = .ok (.iadd, 1)) (hv : x + y = v) {pc' : Nat} (hp : pc + 1 = pc') (k : EndW p e below s Z Q cC cS T (mkF m pc' Ls (.int v :: st))) : EndW p e below s Z Q cC cS T (mkF m pc Ls (.int y :: .int x :: st)) := by
  subst hp hv; exact F_by (fun _ q => XS.iadd X.at X.hx rfl (X.hb hd) rfl q) k
theorem F_isub (X : Ww l Z R bytes mL ret own nm p e s m args below meth c vm T cells slots) {x y v : Int32} (hd : decode bytes pc = .ok (.isub, 1)) (hv : x - y = v) {pc' : Nat} (hp : pc + 1 = pc') (k : EndW p e below s Z Q cC cS T (mkF m pc' Ls (.int v :: st))) : EndW p e below s Z Q cC cS T (mkF m pc Ls (.int y :: .int x :: st)) := by
  subst hp hv; exact F_by (fun _ q => XS.isub X.at X.hx rfl (X.hb hd) rfl q) k
theorem F_imul (X : Ww l Z R bytes mL ret own nm p e s m args below meth c vm T cells slots) {x y v : Int32} (hd : decode bytes pc = .ok (.imul, 1)) (hv : x * y = v) {pc' : Nat} (hp : pc + 1 = pc') (k : EndW p e below s Z Q cC cS T (mkF m pc' Ls (.int v :: st))) : EndW p e below s Z Q cC cS T (mkF m pc Ls (.int y :: .int x :: st)) := by
  subst hp hv; exact F_by (fun _ q => XS.imul X.at X.hx rfl (X.hb hd) rfl q) k
theorem F_iand (X : Ww l Z R bytes mL ret own nm p e s m args below meth c vm T cells slots) {x y v : Int32} (hd : decode bytes pc = .ok (.iand, 1)) (hv : x &&& y = v) {pc' : Nat} (hp : pc + 1 = pc') (k : EndW p e below s Z Q cC cS T (mkF m pc' Ls (.int v :: st))) : EndW p e below s Z Q cC cS T (mkF m pc Ls (.int y :: .int x :: st)) := by
  subst hp hv; exact F_by (fun _ q => XS.iand X.at X.hx rfl (X.hb hd) rfl q) k
theorem F_ior (X : Ww l Z R bytes mL ret own nm p e s m args below meth c vm T cells slots) {x y v : Int32} (hd : decode bytes pc = .ok (.ior, 1)) (hv : x ||| y = v) {pc' : Nat} (hp : pc + 1 = pc') (k : EndW p e below s Z Q cC cS T (mkF m pc' Ls (.int v :: st))) : EndW p e below s Z Q cC cS T (mkF m pc Ls (.int y :: .int x :: st)) := by
  subst hp hv; exact F_by (fun _ q => XS.ior X.at X.hx rfl (X.hb hd) rfl q) k
theorem F_ixor (X : Ww l Z R bytes mL ret own nm p e s m args below meth c vm T cells slots) {x y v : Int32} (hd : decode bytes pc = .ok (.ixor, 1)) (hv : x ^^^ y = v) {pc' : Nat} (hp : pc + 1 = pc') (k : EndW p e below s Z Q cC cS T (mkF m pc' Ls (.int v :: st))) : EndW p e below s Z Q cC cS T (mkF m pc Ls (.int y :: .int x :: st)) := by
  subst hp hv; exact F_by (fun _ q => XS.ixor X.at X.hx rfl (X.hb hd) rfl q) k
theorem F_ishl (X : Ww l Z R bytes mL ret own nm p e s m args below meth c vm T cells slots) {x y v : Int32} (hd : decode bytes pc = .ok (.ishl, 1)) (hv : x <<< (y &&& 31) = v) {pc' : Nat} (hp : pc + 1 = pc') (k : EndW p e below s Z Q cC cS T (mkF m pc' Ls (.int v :: st))) : EndW p e below s Z Q cC cS T (mkF m pc Ls (.int y :: .int x :: st)) := by
  subst hp hv; exact F_by (fun _ q => XS.ishl X.at X.hx rfl (X.hb hd) rfl q) k
theorem F_ishr (X : Ww l Z R bytes mL ret own nm p e s m args below meth c vm T cells slots) {x y v : Int32} (hd : decode bytes pc = .ok (.ishr, 1)) (hv : x >>> (y &&& 31) = v) {pc' : Nat} (hp : pc + 1 = pc') (k : EndW p e below s Z Q cC cS T (mkF m pc' Ls (.int v :: st))) : EndW p e below s Z Q cC cS T (mkF m pc Ls (.int y :: .int x :: st)) := by
  subst hp hv; exact F_by (fun _ q => XS.ishr X.at X.hx rfl (X.hb hd) rfl q) k
theorem F_iushr (X : Ww l Z R bytes mL ret own nm p e s m args below meth c vm T cells slots) {x y v : Int32} (hd : decode bytes pc = .ok (.iushr, 1)) (hv : (x.toUInt32 >>> (y &&& 31).toUInt32).toInt32 = v) {pc' : Nat} (hp : pc + 1 = pc') (k : EndW p e below s Z Q cC cS T (mkF m pc' Ls (.int v :: st))) : EndW p e below s Z Q cC cS T (mkF m pc Ls (.int y :: .int x :: st)) := by
  subst hp hv; exact F_by (fun _ q => XS.iushr X.at X.hx rfl (X.hb hd) rfl q) k
theorem F_ineg (X : Ww l Z R bytes mL ret own nm p e s m args below meth c vm T cells slots) {x v : Int32} (hd : decode bytes pc = .ok (.ineg, 1)) (hv : -x = v) {pc' : Nat} (hp : pc + 1 = pc') (k : EndW p e below s Z Q cC cS T (mkF m pc' Ls (.int v :: st))) : EndW p e below s Z Q cC cS T (mkF m pc Ls (.int x :: st)) := by
  subst hp hv; exact F_by (fun _ q => XS.ineg X.at X.hx rfl (X.hb hd) rfl q) k
theorem F_i2c (X : Ww l Z R bytes mL ret own nm p e s m args below meth c vm T cells slots) {x v : Int32} (hd : decode bytes pc = .ok (.i2c, 1)) (hv : x.toUInt32.toUInt16.toUInt32.toInt32 = v) {pc' : Nat} (hp : pc + 1 = pc') (k : EndW p e below s Z Q cC cS T (mkF m pc' Ls (.int v :: st))) : EndW p e below s Z Q cC cS T (mkF m pc Ls (.int x :: st)) := by
  subst hp hv; exact F_by (fun _ q => XS.i2c X.at X.hx rfl (X.hb hd) rfl q) k
theorem F_i2b (X : Ww l Z R bytes mL ret own nm p e s m args below meth c vm T cells slots) {x v : Int32} (hd : decode bytes pc = .ok (.i2b, 1)) (hv : x.toInt8.toInt32 = v) {pc' : Nat} (hp : pc + 1 = pc') (k : EndW p e below s Z Q cC cS T (mkF m pc' Ls (.int v :: st))) : EndW p e below s Z Q cC cS T (mkF m pc Ls (.int x :: st)) := by
  subst hp hv; exact F_by (fun _ q => XS.i2b X.at X.hx rfl (X.hb hd) rfl q) k
theorem F_i2s (X : Ww l Z R bytes mL ret own nm p e s m args below meth c vm T cells slots) {x v : Int32} (hd : decode bytes pc = .ok (.i2s, 1)) (hv : x.toInt16.toInt32 = v) {pc' : Nat} (hp : pc + 1 = pc') (k : EndW p e below s Z Q cC cS T (mkF m pc' Ls (.int v :: st))) : EndW p e below s Z Q cC cS T (mkF m pc Ls (.int x :: st)) := by
  subst hp hv; exact F_by (fun _ q => XS.i2s X.at X.hx rfl (X.hb hd) rfl q) k
theorem F_dup (X : Ww l Z R bytes mL ret own nm p e s m args below meth c vm T cells slots) {v : Value} (hd : decode bytes pc = .ok (.dup, 1)) (hc : v.category = 1) {pc' : Nat} (hp : pc + 1 = pc') (k : EndW p e below s Z Q cC cS T (mkF m pc' Ls (v :: v :: st))) : EndW p e below s Z Q cC cS T (mkF m pc Ls (v :: st)) := by
  subst hp; exact F_by (fun _ q => XS.dup X.at X.hx rfl (X.hb hd) rfl hc q) k
theorem F_dupx1 (X : Ww l Z R bytes mL ret own nm p e s m args below meth c vm T cells slots) {v u : Value} (hd : decode bytes pc = .ok (.dup_x1, 1)) (hc : v.category = 1) (hc2 : u.category = 1) {pc' : Nat} (hp : pc + 1 = pc') (k : EndW p e below s Z Q cC cS T (mkF m pc' Ls (v :: u :: v :: st))) : EndW p e below s Z Q cC cS T (mkF m pc Ls (v :: u :: st)) := by
  subst hp; exact F_by (fun _ q => XT.dupX1 X.at X.hx rfl (X.hb hd) rfl hc hc2 q) k
theorem F_pop (X : Ww l Z R bytes mL ret own nm p e s m args below meth c vm T cells slots) {v : Value} (hd : decode bytes pc = .ok (.pop, 1)) (hc : v.category = 1) {pc' : Nat} (hp : pc + 1 = pc') (k : EndW p e below s Z Q cC cS T (mkF m pc' Ls (st))) : EndW p e below s Z Q cC cS T (mkF m pc Ls (v :: st)) := by
  subst hp; exact F_by (fun _ q => XS.pop X.at X.hx rfl (X.hb hd) rfl hc q) k
theorem F_istoreN (X : Ww l Z R bytes mL ret own nm p e s m args below meth c vm T cells slots) {j : Fin 4} {x : Int32} (hd : decode bytes pc = .ok (.istore_n j, 1)) {l' : Array Slot} (hl : storeLocals Ls j.val (.int x) = some l') {pc' : Nat} (hp : pc + 1 = pc') (k : EndW p e below s Z Q cC cS T (mkF m pc' l' (st))) : EndW p e below s Z Q cC cS T (mkF m pc Ls (.int x :: st)) := by
  subst hp; exact F_by (fun _ q => XS.istoreN X.at X.hx rfl (X.hb hd) rfl hl q) k
theorem F_istore (X : Ww l Z R bytes mL ret own nm p e s m args below meth c vm T cells slots) {j : Nat} {x : Int32} (hd : decode bytes pc = .ok (.istore j, 2)) {l' : Array Slot} (hl : storeLocals Ls j (.int x) = some l') {pc' : Nat} (hp : pc + 2 = pc') (k : EndW p e below s Z Q cC cS T (mkF m pc' l' (st))) : EndW p e below s Z Q cC cS T (mkF m pc Ls (.int x :: st)) := by
  subst hp; exact F_by (fun _ q => XS.istore X.at X.hx rfl (X.hb hd) rfl hl q) k
theorem F_astoreN (X : Ww l Z R bytes mL ret own nm p e s m args below meth c vm T cells slots) {j : Fin 4} {x : Value} (hd : decode bytes pc = .ok (.astore_n j, 1)) (hv : x.isRef = true) {l' : Array Slot} (hl : storeLocals Ls j.val x = some l') {pc' : Nat} (hp : pc + 1 = pc') (k : EndW p e below s Z Q cC cS T (mkF m pc' l' (st))) : EndW p e below s Z Q cC cS T (mkF m pc Ls (x :: st)) := by
  subst hp; exact F_by (fun _ q => XS.astoreN X.at X.hx rfl (X.hb hd) rfl hv hl q) k
theorem F_astore (X : Ww l Z R bytes mL ret own nm p e s m args below meth c vm T cells slots) {j : Nat} {x : Value} (hd : decode bytes pc = .ok (.astore j, 2)) (hv : x.isRef = true) {l' : Array Slot} (hl : storeLocals Ls j x = some l') {pc' : Nat} (hp : pc + 2 = pc') (k : EndW p e below s Z Q cC cS T (mkF m pc' l' (st))) : EndW p e below s Z Q cC cS T (mkF m pc Ls (x :: st)) := by
  subst hp; exact F_by (fun _ q => XS.astore X.at X.hx rfl (X.hb hd) rfl hv hl q) k
theorem F_iinc (X : Ww l Z R bytes mL ret own nm p e s m args below meth c vm T cells slots) {j : Nat} {i : Int} {x y : Int32} (hd : decode bytes pc = .ok (.iinc j i, 3)) (hy : x + Int32.ofInt i = y) (hl : Ls[j]? = some (.val (.int x))) {l' : Array Slot} (hl' : storeLocals Ls j (.int y) = some l') {pc' : Nat} (hp : pc + 3 = pc') (k : EndW p e below s Z Q cC cS T (mkF m pc' l' st)) : EndW p e below s Z Q cC cS T (mkF m pc Ls st) := by
  subst hp hy; exact F_by (fun _ q => XS.iinc X.at X.hx rfl (X.hb hd) hl hl' q) k
theorem F_irem (X : Ww l Z R bytes mL ret own nm p e s m args below meth c vm T cells slots) {x y v : Int32} (hd : decode bytes pc = .ok (.irem, 1)) (hy : y ≠ 0) (hv : x % y = v) {pc' : Nat} (hp : pc + 1 = pc') (k : EndW p e below s Z Q cC cS T (mkF m pc' Ls (.int v :: st))) : EndW p e below s Z Q cC cS T (mkF m pc Ls (.int y :: .int x :: st)) := by
  subst hp hv; obtain ⟨q, q2, locs, Y, r⟩ := id X; exact F_by (fun _ k => iremM Y X.hx rfl (X.hb hd) rfl hy k) k
theorem F_idiv (X : Ww l Z R bytes mL ret own nm p e s m args below meth c vm T cells slots) {x y v : Int32} (hd : decode bytes pc = .ok (.idiv, 1)) (hy : y ≠ 0) (hv : x / y = v) {pc' : Nat} (hp : pc + 1 = pc') (k : EndW p e below s Z Q cC cS T (mkF m pc' Ls (.int v :: st))) : EndW p e below s Z Q cC cS T (mkF m pc Ls (.int y :: .int x :: st)) := by
  subst hp hv; exact F_by (fun _ k => XS.idiv X.at X.hx rfl (X.hb hd) rfl hy k) k
theorem F_goto (X : Ww l Z R bytes mL ret own nm p e s m args below meth c vm T cells slots) {o : Int} (hd : decode bytes pc = .ok (.goto o, 3)) {pc' : Nat} (ho : 0 ≤ (pc : Int) + o) (hp : ((pc : Int) + o).toNat = pc') (k : EndW p e below s Z Q cC cS T (mkF m pc' Ls st)) : EndW p e below s Z Q cC cS T (mkF m pc Ls st) :=
  F_by (fun _ q => XS.goto X.at X.hx rfl (pc0 := pc) rfl (X.hb hd) ho hp q) k
theorem F_ifT (X : Ww l Z R bytes mL ret own nm p e s m args below meth c vm T cells slots) {cd : ClassFile.Cond} {o : Int} {x : Int32} (hd : decode bytes pc = .ok (.ifCond cd o, 3)) (hc : ifCond.holds cd x = true) {pc' : Nat} (ho : 0 ≤ (pc : Int) + o) (hp : ((pc : Int) + o).toNat = pc') (k : EndW p e below s Z Q cC cS T (mkF m pc' Ls st)) : EndW p e below s Z Q cC cS T (mkF m pc Ls (.int x :: st)) :=
  F_by (fun _ q => XS.ifYes X.at X.hx rfl (pc0 := pc) rfl (X.hb hd) rfl hc ho hp q) k
theorem F_ifF (X : Ww l Z R bytes mL ret own nm p e s m args below meth c vm T cells slots) {cd : ClassFile.Cond} {o : Int} {x : Int32} (hd : decode bytes pc = .ok (.ifCond cd o, 3)) (hc : ifCond.holds cd x = false) {pc' : Nat} (hp : pc + 3 = pc') (k : EndW p e below s Z Q cC cS T (mkF m pc' Ls st)) : EndW p e below s Z Q cC cS T (mkF m pc Ls (.int x :: st)) := by
  subst hp; exact F_by (fun _ q => XS.ifNo X.at X.hx rfl (X.hb hd) rfl hc q) k
theorem F_icT (X : Ww l Z R bytes mL ret own nm p e s m args below meth c vm T cells slots) {cd : ClassFile.Cond} {o : Int} {x y : Int32} (hd : decode bytes pc = .ok (.if_icmp cd o, 3)) (hc : if_icmp.holds cd x y = true) {pc' : Nat} (ho : 0 ≤ (pc : Int) + o) (hp : ((pc : Int) + o).toNat = pc') (k : EndW p e below s Z Q cC cS T (mkF m pc' Ls st)) : EndW p e below s Z Q cC cS T (mkF m pc Ls (.int y :: .int x :: st)) :=
  F_by (fun _ q => XS.icmpYes X.at X.hx rfl (pc0 := pc) rfl (X.hb hd) rfl hc ho hp q) k
theorem F_icF (X : Ww l Z R bytes mL ret own nm p e s m args below meth c vm T cells slots) {cd : ClassFile.Cond} {o : Int} {x y : Int32} (hd : decode bytes pc = .ok (.if_icmp cd o, 3)) (hc : if_icmp.holds cd x y = false) {pc' : Nat} (hp : pc + 3 = pc') (k : EndW p e below s Z Q cC cS T (mkF m pc' Ls st)) : EndW p e below s Z Q cC cS T (mkF m pc Ls (.int y :: .int x :: st)) := by
  subst hp; exact F_by (fun _ q => XS.icmpNo X.at X.hx rfl (X.hb hd) rfl hc q) k
theorem F_nullT (X : Ww l Z R bytes mL ret own nm p e s m args below meth c vm T cells slots) {o : Int} (hd : decode bytes pc = .ok (.ifnull o, 3)) {pc' : Nat} (ho : 0 ≤ (pc : Int) + o) (hp : ((pc : Int) + o).toNat = pc') (k : EndW p e below s Z Q cC cS T (mkF m pc' Ls st)) : EndW p e below s Z Q cC cS T (mkF m pc Ls (.null :: st)) :=
  F_by (fun _ q => XS.ifnullYes X.at X.hx rfl (pc0 := pc) rfl (X.hb hd) rfl ho hp q) k
theorem F_nullF (X : Ww l Z R bytes mL ret own nm p e s m args below meth c vm T cells slots) {o : Int} {b : Addr} (hd : decode bytes pc = .ok (.ifnull o, 3)) {pc' : Nat} (hp : pc + 3 = pc') (k : EndW p e below s Z Q cC cS T (mkF m pc' Ls st)) : EndW p e below s Z Q cC cS T (mkF m pc Ls (.ref b :: st)) := by
  subst hp; exact F_by (fun _ q => XS.ifnullNo X.at X.hx rfl (X.hb hd) rfl q) k
theorem F_nonnullT (X : Ww l Z R bytes mL ret own nm p e s m args below meth c vm T cells slots) {o : Int} {b : Addr} (hd : decode bytes pc = .ok (.ifnonnull o, 3)) {pc' : Nat} (ho : 0 ≤ (pc : Int) + o) (hp : ((pc : Int) + o).toNat = pc') (k : EndW p e below s Z Q cC cS T (mkF m pc' Ls st)) : EndW p e below s Z Q cC cS T (mkF m pc Ls (.ref b :: st)) :=
  F_by (fun _ q => XT.nonnullYes X.at X.hx rfl (pc0 := pc) rfl (X.hb hd) rfl rfl (fun q => nomatch q) ho hp q) k
theorem F_nonnullF (X : Ww l Z R bytes mL ret own nm p e s m args below meth c vm T cells slots) {o : Int} (hd : decode bytes pc = .ok (.ifnonnull o, 3)) {pc' : Nat} (hp : pc + 3 = pc') (k : EndW p e below s Z Q cC cS T (mkF m pc' Ls st)) : EndW p e below s Z Q cC cS T (mkF m pc Ls (.null :: st)) := by
  subst hp; exact F_by (fun _ q => XT.nonnullNo X.at X.hx rfl (X.hb hd) rfl rfl q) k
theorem F_acmp (X : Ww l Z R bytes mL ret own nm p e s m args below meth c vm T cells slots) {cd : ACond} {o : Int} {x y : Value} (hd : decode bytes pc = .ok (.if_acmp cd o, 3)) (h1 : x.isRef = true) (h2 : y.isRef = true) (same : Bool) (hq : decide (x = y) = same) {pc' : Nat} (ho : 0 ≤ (pc : Int) + o) (hp : pc' = if acV cd same = true then ((pc : Int) + o).toNat else pc + 3) (k : EndW p e below s Z Q cC cS T (mkF m pc' Ls st)) : EndW p e below s Z Q cC cS T (mkF m pc Ls (y :: x :: st)) := by
  obtain ⟨_, _, locs, Y, r⟩ := id X; exact F_by (fun _ q => acmp Y X.hx rfl h1 h2 (pc0 := pc) rfl (X.hb hd) rfl hq ho hp q) k
theorem F_ldcI (X : Ww l Z R bytes mL ret own nm p e s m args below meth c vm T cells slots) {ix : Nat} {v : Int32} (hd : decode bytes pc = .ok (.ldc ix, 2)) (w : (Jvm.Cond.constant own ix v).before a0 Z = true) {pc' : Nat} (hp : pc + 2 = pc') (k : EndW p e below s Z Q cC cS T (mkF m pc' Ls (.int v :: st))) : EndW p e below s Z Q cC cS T (mkF m pc Ls st) := by
  subst hp; obtain ⟨_, _, locs, Y, r⟩ := id X; exact F_by (fun _ q => Y.ldcI X.hx X.hown (mvT X.hZ w) rfl (X.hb hd) q) k

theorem F_new (X : Ww l Z R bytes mL ret own nm p e s m args below meth c vm T cells slots) {C : String} {ix n : Nat} (hd : decode bytes pc = .ok (.new ix, 3)) (w1 : (Jvm.Cond.classLink own ix C).before a0 Z = true) (w2 : (Jvm.Cond.instantiable C n).before a0 Z = true) (w3 : (Jvm.Cond.initialized C).before a0 Z = true) (hc : cells + 1 ≤ R.cells) (hs : slots + n ≤ R.slots) {pc' : Nat} (hp : pc + 3 = pc')
    (k : ∀ (T' : State) (b : Addr), Ww l Z R bytes mL ret own nm p e s m args below meth c vm T' (cells + 1) (slots + n) → b = T.heap.size → Keep T.heap T'.heap [] → Exa Z T'.heap b C → (∀ {O nm d : String} {ty : FieldType}, Laid Z a0 C O nm d → parseFieldDescriptor d = some ty → Fld Z T'.heap b O nm d (defaultValue ty)) → EndW p e below s Z Q cC cS T' (mkF m pc' Ls (.ref b :: st))) : EndW p e below s Z Q cC cS T (mkF m pc Ls st) := by
  subst hp; obtain ⟨q0, qq, locs, Y, N, O⟩ := id X
  obtain ⟨T', h', Y', rfl, E, A, D, -, stp⟩ := newO Y X.hx X.hZ X.hown w1 w2 w3 rfl (g := mkF m pc Ls st) rfl (X.hb hd) hc hs
  exact F_by stp (k T' _ (X.go Y' N (Keep.of_ext E) all0 sf0) rfl (Keep.of_ext E) A D)
theorem F_newarray (X : Ww l Z R bytes mL ret own nm p e s m args below meth c vm T cells slots) {aty : ArrayType} {n : Int32} (cap : Nat) (hd : decode bytes pc = .ok (.newarray aty, 2)) (w : (Jvm.Cond.arrayClass (newarray.typeOf aty)).before a0 Z = true) (hn : ¬ n < 0) (hcap : n.toNatClampNeg ≤ cap) (hb : cap * 8 ≤ 536870912) (hc : cells + 1 ≤ R.cells) (hs : slots + cap ≤ R.slots) {pc' : Nat} (hp : pc + 2 = pc')
    (k : ∀ (T' : State) (b : Addr) (kA : ClassId), Ww l Z R bytes mL ret own nm p e s m args below meth c vm T' (cells + 1) (slots + cap) → b = T.heap.size → Keep T.heap T'.heap [] → Arv Z T'.heap b kA (newarray.typeOf aty) n [] (defaultValue (newarray.typeOf aty)) → EndW p e below s Z Q cC cS T' (mkF m pc' Ls (.ref b :: st))) : EndW p e below s Z Q cC cS T (mkF m pc Ls (.int n :: st)) := by
  subst hp; obtain ⟨q0, qq, locs, Y, N, O⟩ := id X
  obtain ⟨T', h', kA, Y', rfl, E, A, stp⟩ := newP Y X.hx X.hZ w rfl (g := mkF m pc Ls (.int n :: st)) rfl (X.hb hd) rfl hn hcap hb hc hs
  exact F_by stp (k T' _ kA (X.go Y' N (Keep.of_ext E) all0 sf0) rfl (Keep.of_ext E) (Arv.new A hn))
theorem F_anewarray (X : Ww l Z R bytes mL ret own nm p e s m args below meth c vm T cells slots) {C : String} {ix : Nat} {n : Int32} (cap : Nat) (hd : decode bytes pc = .ok (.anewarray ix, 3)) (w1 : (Jvm.Cond.classLink own ix C).before a0 Z = true) (w2 : (Jvm.Cond.arrayOver (.object C)).before a0 Z = true) (hn : ¬ n < 0) (hcap : n.toNatClampNeg ≤ cap) (hb : cap * 8 ≤ 536870912) (hc : cells + 1 ≤ R.cells) (hs : slots + cap ≤ R.slots) {pc' : Nat} (hp : pc + 3 = pc')
    (k : ∀ (T' : State) (b : Addr) (kA : ClassId), Ww l Z R bytes mL ret own nm p e s m args below meth c vm T' (cells + 1) (slots + cap) → b = T.heap.size → Keep T.heap T'.heap [] → Arv Z T'.heap b kA (.object C) n [] .null → Ovr Z kA C → EndW p e below s Z Q cC cS T' (mkF m pc' Ls (.ref b :: st))) : EndW p e below s Z Q cC cS T (mkF m pc Ls (.int n :: st)) := by
  subst hp; obtain ⟨q0, qq, locs, Y, N, O⟩ := id X
  obtain ⟨T', h', kA, Y', rfl, E, A, Ov, stp⟩ := newR Y X.hx X.hZ X.hown w1 w2 rfl (g := mkF m pc Ls (.int n :: st)) rfl (X.hb hd) rfl hn hcap hb hc hs
  exact F_by stp (k T' _ kA (X.go Y' N (Keep.of_ext E) all0 sf0) rfl (Keep.of_ext E) (Arv.new A hn) Ov)
theorem F_aastore (X : Ww l Z R bytes mL ret own nm p e s m args below meth c vm T cells slots) {a y : Addr} {kA : ClassId} {z j : Int32} {vs : List Value} {C : String} (i : Nat) (hd : decode bytes pc = .ok (.aastore, 1)) (V : Arv Z T.heap a kA (.object C) z vs .null) (Ov : Ovr Z kA C) (I : Ins Z T.heap y C true) (hj : ¬ j < 0 ∧ j < z) (hi : j.toNatClampNeg = i) (hl : i < vs.length) (ha : Z.heap.size ≤ a) {pc' : Nat} (hp : pc + 1 = pc')
    (k : ∀ (T' : State), Ww l Z R bytes mL ret own nm p e s m args below meth c vm T' cells slots → Keep T.heap T'.heap [a] → Arv Z T'.heap a kA (.object C) z (vs.set i (.ref y)) .null → EndW p e below s Z Q cC cS T' (mkF m pc' Ls st)) : EndW p e below s Z Q cC cS T (mkF m pc Ls (.ref y :: .int j :: .ref a :: st)) := by
  subst hp; obtain ⟨q0, qq, locs, Y, N, O⟩ := id X
  obtain ⟨cl, A, q1, S1, N1, H1, G1⟩ := V
  obtain ⟨T', h', Y', rfl, W, stp⟩ := stR Y X.hx X.hZ rfl A (j := j) (inb_of S1 hj) rfl (Sto.ofV A q1 Ov I) (g := mkF m pc Ls (.ref y :: .int j :: .ref a :: st)) rfl rfl (X.hb hd)
  exact F_by stp (k T' (X.go Y' (Fr.snoc Y' N ha) (Keep.of_wr W) (allS ha all0) (sfS (Safe.arr X.al A (by simp)) sf0)) (Keep.of_wr W) (Arv.set A q1 S1 N1 H1 G1 rfl W i hi hl))
theorem F_aastoreA (X : Ww l Z R bytes mL ret own nm p e s m args below meth c vm T cells slots) {a y : Addr} {kA : ClassId} {z j : Int32} {vs : List Value} {C : String} (hd : decode bytes pc = .ok (.aastore, 1)) (V : Arv Z T.heap a kA (.object C) z vs .null) (Ov : Ovr Z kA C) (I : Ins Z T.heap y C true) (hj : ¬ j < 0 ∧ j < z) (hi : j.toNatClampNeg = vs.length) (ha : Z.heap.size ≤ a) {pc' : Nat} (hp : pc + 1 = pc')
    (k : ∀ (T' : State), Ww l Z R bytes mL ret own nm p e s m args below meth c vm T' cells slots → Keep T.heap T'.heap [a] → Arv Z T'.heap a kA (.object C) z (vs ++ [.ref y]) .null → EndW p e below s Z Q cC cS T' (mkF m pc' Ls st)) : EndW p e below s Z Q cC cS T (mkF m pc Ls (.ref y :: .int j :: .ref a :: st)) := by
  refine F_aastore X vs.length hd (V.pad (pad_rep vs .null 1)) Ov I hj hi (by simp) ha hp fun T' X' K' V' => k T' X' K' ?_
  have q : (vs ++ List.replicate 1 Value.null).set vs.length (.ref y) = vs ++ [.ref y] := by simp
  rw [q] at V'; exact V'
theorem F_iastore (X : Ww l Z R bytes mL ret own nm p e s m args below meth c vm T cells slots) {a : Addr} {kA : ClassId} {z j x : Int32} {vs : List Value} {dv : Value} {y : Int32} (i : Nat) (hd : decode bytes pc = .ok (.iastore, 1)) (hy : x = y) (V : Arv Z T.heap a kA .int z vs dv) (hj : ¬ j < 0 ∧ j < z) (hi : j.toNatClampNeg = i) (hl : i < vs.length) (ha : Z.heap.size ≤ a) {pc' : Nat} (hp : pc + 1 = pc')
    (k : ∀ (T' : State), Ww l Z R bytes mL ret own nm p e s m args below meth c vm T' cells slots → Keep T.heap T'.heap [a] → Arv Z T'.heap a kA .int z (vs.set i (.int y)) dv → EndW p e below s Z Q cC cS T' (mkF m pc' Ls st)) : EndW p e below s Z Q cC cS T (mkF m pc Ls (.int x :: .int j :: .ref a :: st)) := by
  subst hp hy; obtain ⟨q0, qq, locs, Y, N, O⟩ := id X
  obtain ⟨cl, A, q1, S1, N1, H1, G1⟩ := V
  obtain ⟨T', h', Y', rfl, W, stp⟩ := stI Y X.hx X.hZ rfl A (j := j) (x := x) (inb_of S1 hj) (g := mkF m pc Ls (.int x :: .int j :: .ref a :: st)) rfl rfl (X.hb hd)
  exact F_by stp (k T' (X.go Y' (Fr.snoc Y' N ha) (Keep.of_wr W) (allS ha all0) (sfS (Safe.arr X.al A (by simp)) sf0)) (Keep.of_wr W) (Arv.set A q1 S1 N1 H1 G1 (rfl) W i hi hl))
theorem F_castore (X : Ww l Z R bytes mL ret own nm p e s m args below meth c vm T cells slots) {a : Addr} {kA : ClassId} {z j x : Int32} {vs : List Value} {dv : Value} {y : Int32} (i : Nat) (hd : decode bytes pc = .ok (.castore, 1)) (hy : nar .char x = y) (V : Arv Z T.heap a kA .char z vs dv) (hj : ¬ j < 0 ∧ j < z) (hi : j.toNatClampNeg = i) (hl : i < vs.length) (ha : Z.heap.size ≤ a) {pc' : Nat} (hp : pc + 1 = pc')
    (k : ∀ (T' : State), Ww l Z R bytes mL ret own nm p e s m args below meth c vm T' cells slots → Keep T.heap T'.heap [a] → Arv Z T'.heap a kA .char z (vs.set i (.int y)) dv → EndW p e below s Z Q cC cS T' (mkF m pc' Ls st)) : EndW p e below s Z Q cC cS T (mkF m pc Ls (.int x :: .int j :: .ref a :: st)) := by
  subst hp hy; obtain ⟨q0, qq, locs, Y, N, O⟩ := id X
  obtain ⟨cl, A, q1, S1, N1, H1, G1⟩ := V
  obtain ⟨T', h', Y', rfl, W, stp⟩ := stC Y X.hx X.hZ rfl A (j := j) (x := x) (inb_of S1 hj) (g := mkF m pc Ls (.int x :: .int j :: .ref a :: st)) rfl rfl (X.hb hd)
  exact F_by stp (k T' (X.go Y' (Fr.snoc Y' N ha) (Keep.of_wr W) (allS ha all0) (sfS (Safe.arr X.al A (by simp)) sf0)) (Keep.of_wr W) (Arv.set A q1 S1 N1 H1 G1 (fits_nar_char _) W i hi hl))
theorem F_iastoreA (X : Ww l Z R bytes mL ret own nm p e s m args below meth c vm T cells slots) {a : Addr} {kA : ClassId} {z j x : Int32} {vs : List Value} {dv : Value} {y : Int32} (hd : decode bytes pc = .ok (.iastore, 1)) (hy : x = y) (V : Arv Z T.heap a kA .int z vs dv) (hj : ¬ j < 0 ∧ j < z) (hi : j.toNatClampNeg = vs.length) (ha : Z.heap.size ≤ a) {pc' : Nat} (hp : pc + 1 = pc')
    (k : ∀ (T' : State), Ww l Z R bytes mL ret own nm p e s m args below meth c vm T' cells slots → Keep T.heap T'.heap [a] → Arv Z T'.heap a kA .int z (vs ++ [.int y]) dv → EndW p e below s Z Q cC cS T' (mkF m pc' Ls st)) : EndW p e below s Z Q cC cS T (mkF m pc Ls (.int x :: .int j :: .ref a :: st)) := by
  refine F_iastore X vs.length hd hy (V.pad (pad_rep vs dv 1)) hj hi (by simp) ha hp fun T' X' K' V' => k T' X' K' ?_
  have q : (vs ++ List.replicate 1 dv).set vs.length (.int y) = vs ++ [.int y] := by simp
  rw [q] at V'; exact V'
theorem F_castoreA (X : Ww l Z R bytes mL ret own nm p e s m args below meth c vm T cells slots) {a : Addr} {kA : ClassId} {z j x : Int32} {vs : List Value} {dv : Value} {y : Int32} (hd : decode bytes pc = .ok (.castore, 1)) (hy : nar .char x = y) (V : Arv Z T.heap a kA .char z vs dv) (hj : ¬ j < 0 ∧ j < z) (hi : j.toNatClampNeg = vs.length) (ha : Z.heap.size ≤ a) {pc' : Nat} (hp : pc + 1 = pc')
    (k : ∀ (T' : State), Ww l Z R bytes mL ret own nm p e s m args below meth c vm T' cells slots → Keep T.heap T'.heap [a] → Arv Z T'.heap a kA .char z (vs ++ [.int y]) dv → EndW p e below s Z Q cC cS T' (mkF m pc' Ls st)) : EndW p e below s Z Q cC cS T (mkF m pc Ls (.int x :: .int j :: .ref a :: st)) := by
  refine F_castore X vs.length hd hy (V.pad (pad_rep vs dv 1)) hj hi (by simp) ha hp fun T' X' K' V' => k T' X' K' ?_
  have q : (vs ++ List.replicate 1 dv).set vs.length (.int y) = vs ++ [.int y] := by simp
  rw [q] at V'; exact V'
theorem F_iaload (X : Ww l Z R bytes mL ret own nm p e s m args below meth c vm T cells slots) {a : Addr} {kA : ClassId} {z j : Int32} {vs : List Value} {dv v : Value} (hd : decode bytes pc = .ok (.iaload, 1)) (V : Arv Z T.heap a kA .int z vs dv) (hj : ¬ j < 0 ∧ j < z) (hv : vs.getD j.toNatClampNeg dv = v) {pc' : Nat} (hp : pc + 1 = pc')
    (k : EndW p e below s Z Q cC cS T (mkF m pc' Ls (v :: st))) : EndW p e below s Z Q cC cS T (mkF m pc Ls (.int j :: .ref a :: st)) := by
  subst hp; obtain ⟨q0, qq, locs, Y, N, O⟩ := id X
  obtain ⟨cl, A, q1, S1, N1, H1, G1⟩ := V
  exact F_by (Y.iaload X.hx A.1 (State.isArrayOf_alike X.hZ.alike A.2.1) A.2.2 (inb_of S1 hj) (Has.at H1 (inb_of S1 hj) hv) (g := mkF m pc Ls (.int j :: .ref a :: st)) rfl rfl (X.hb hd)) k
theorem F_caload (X : Ww l Z R bytes mL ret own nm p e s m args below meth c vm T cells slots) {a : Addr} {kA : ClassId} {z j : Int32} {vs : List Value} {dv v : Value} (hd : decode bytes pc = .ok (.caload, 1)) (V : Arv Z T.heap a kA .char z vs dv) (hj : ¬ j < 0 ∧ j < z) (hv : vs.getD j.toNatClampNeg dv = v) {pc' : Nat} (hp : pc + 1 = pc')
    (k : EndW p e below s Z Q cC cS T (mkF m pc' Ls (v :: st))) : EndW p e below s Z Q cC cS T (mkF m pc Ls (.int j :: .ref a :: st)) := by
  subst hp; obtain ⟨q0, qq, locs, Y, N, O⟩ := id X
  obtain ⟨cl, A, q1, S1, N1, H1, G1⟩ := V
  exact F_by (Y.caload X.hx A.1 (State.isArrayOf_alike X.hZ.alike A.2.1) A.2.2 (inb_of S1 hj) (Has.at H1 (inb_of S1 hj) hv) (g := mkF m pc Ls (.int j :: .ref a :: st)) rfl rfl (X.hb hd)) k
theorem F_baload (X : Ww l Z R bytes mL ret own nm p e s m args below meth c vm T cells slots) {a : Addr} {kA : ClassId} {z j : Int32} {vs : List Value} {dv v : Value} (hd : decode bytes pc = .ok (.baload, 1)) (V : Arv Z T.heap a kA .byte z vs dv) (hj : ¬ j < 0 ∧ j < z) (hv : vs.getD j.toNatClampNeg dv = v) {pc' : Nat} (hp : pc + 1 = pc')
    (k : EndW p e below s Z Q cC cS T (mkF m pc' Ls (v :: st))) : EndW p e below s Z Q cC cS T (mkF m pc Ls (.int j :: .ref a :: st)) := by
  subst hp; obtain ⟨q0, qq, locs, Y, N, O⟩ := id X
  obtain ⟨cl, A, q1, S1, N1, H1, G1⟩ := V
  exact F_by (Y.baloadBytes X.hx A.1 (State.isArrayOf_alike X.hZ.alike A.2.1) A.2.2 (inb_of S1 hj) (Has.at H1 (inb_of S1 hj) hv) (g := mkF m pc Ls (.int j :: .ref a :: st)) rfl rfl (X.hb hd)) k
theorem F_aaload (X : Ww l Z R bytes mL ret own nm p e s m args below meth c vm T cells slots) {a : Addr} {kA : ClassId} {z j : Int32} {vs : List Value} {dv v : Value} {ty : FieldType} (hd : decode bytes pc = .ok (.aaload, 1)) (V : Arv Z T.heap a kA ty z vs dv) (hty : ty.isReference = true) (hj : ¬ j < 0 ∧ j < z) (hv : vs.getD j.toNatClampNeg dv = v) {pc' : Nat} (hp : pc + 1 = pc')
    (k : EndW p e below s Z Q cC cS T (mkF m pc' Ls (v :: st))) : EndW p e below s Z Q cC cS T (mkF m pc Ls (.int j :: .ref a :: st)) := by
  subst hp; obtain ⟨q0, qq, locs, Y, N, O⟩ := id X
  obtain ⟨cl, A, q1, S1, N1, H1, G1⟩ := V
  exact F_by (Y.aaload X.hx A.1 (State.isArrayOf_alike X.hZ.alike A.2.1) hty A.2.2 (inb_of S1 hj) (Has.at H1 (inb_of S1 hj) hv) (g := mkF m pc Ls (.int j :: .ref a :: st)) rfl rfl (X.hb hd)) k
theorem F_arraylength (X : Ww l Z R bytes mL ret own nm p e s m args below meth c vm T cells slots) {a : Addr} {kA : ClassId} {z : Int32} {vs : List Value} {dv : Value} {ty : FieldType} (hd : decode bytes pc = .ok (.arraylength, 1)) (V : Arv Z T.heap a kA ty z vs dv) {pc' : Nat} (hp : pc + 1 = pc')
    (k : EndW p e below s Z Q cC cS T (mkF m pc' Ls (.int z :: st))) : EndW p e below s Z Q cC cS T (mkF m pc Ls (.ref a :: st)) := by
  subst hp; obtain ⟨q0, qq, locs, Y, N, O⟩ := id X
  obtain ⟨cl, A, q1, S1, N1, H1, G1⟩ := V
  refine F_by (Y.arraylength X.hx A.1 (State.isArrayOf_alike X.hZ.alike A.2.1) (g := mkF m pc Ls (.ref a :: st)) rfl rfl (X.hb hd)) ?_
  rw [len_of S1 N1]; exact k
theorem F_getfield (X : Ww l Z R bytes mL ret own nm p e s m args below meth c vm T cells slots) {a : Addr} {O n d R0 : String} {ix : Nat} {v : Value} (hd : decode bytes pc = .ok (.getfield ix, 3)) (w : (Jvm.Cond.fieldLink own ix R0 n d).before a0 Z = true) (via : Via Z R0 O n d) (F : Fld Z T.heap a O n d v) {pc' : Nat} (hp : pc + 3 = pc')
    (k : ∀ (T' : State), Ww l Z R bytes mL ret own nm p e s m args below meth c vm T' cells slots → T'.heap = T.heap → EndW p e below s Z Q cC cS T' (mkF m pc' Ls (v :: st))) : EndW p e below s Z Q cC cS T (mkF m pc Ls (.ref a :: st)) := by
  subst hp; obtain ⟨q0, qq, locs, Y, N, Od⟩ := id X
  obtain ⟨T', Y', e1, stp⟩ := getF Y X.hx X.hZ X.hown (host := "") (Or.inl w) via rfl F (g := mkF m pc Ls (.ref a :: st)) rfl rfl (X.hb hd)
  exact F_by stp (k T' (X.go Y' N (own_ks e1) all0 sf0) e1)
theorem F_getstatic (X : Ww l Z R bytes mL ret own nm p e s m args below meth c vm T cells slots) {O n d R0 : String} {ix : Nat} {v : Value} (hd : decode bytes pc = .ok (.getstatic ix, 3)) (w : (Jvm.Cond.fieldLink own ix R0 n d).before a0 Z = true) (via : Via Z R0 O n d) (F : Sta Z Z.heap O n d v) {pc' : Nat} (hp : pc + 3 = pc')
    (k : ∀ (T' : State), Ww l Z R bytes mL ret own nm p e s m args below meth c vm T' cells slots → T'.heap = T.heap → EndW p e below s Z Q cC cS T' (mkF m pc' Ls (v :: st))) : EndW p e below s Z Q cC cS T (mkF m pc Ls st) := by
  subst hp; obtain ⟨q0, qq, locs, Y, N, Od⟩ := id X
  obtain ⟨T', Y', e1, stp⟩ := getS Y X.hx X.hZ (host := "") X.hown w via rfl (F.ext Od) (g := mkF m pc Ls st) rfl (X.hb hd)
  exact F_by stp (k T' (X.go Y' N (own_ks e1) all0 sf0) e1)
theorem F_putfield (X : Ww l Z R bytes mL ret own nm p e s m args below meth c vm T cells slots) {a : Addr} {O n d R0 C : String} {ix kk : Nat} {v old : Value} {ty : FieldType} (hd : decode bytes pc = .ok (.putfield ix, 3)) (w : (Jvm.Cond.fieldLink own ix R0 n d).before a0 Z = true) (via : Via Z R0 O n d) (F : Fld Z T.heap a O n d old) (E : Exa Z T.heap a C) (L : (Jvm.Cond.lays C O n d).before a0 Z = true ∨ ((Jvm.Cond.laysFinal C O n d).before a0 Z = true ∧ own = O ∧ nm = "<init>")) (wi : (Jvm.Cond.instantiable C kk).before a0 Z = true) (hty : parseFieldDescriptor d = some ty) (hn : narrow ty v = v) (hf : fits ty v = true) (ha : Z.heap.size ≤ a) (hsf : Safe Z EL vm T.heap a) {pc' : Nat} (hp : pc + 3 = pc')
    (k : ∀ (T' : State), Ww l Z R bytes mL ret own nm p e s m args below meth c vm T' cells slots → Wr T.heap T'.heap a (Jvm.RoadKit.slotOf Z O n d) v → EndW p e below s Z Q cC cS T' (mkF m pc' Ls st)) : EndW p e below s Z Q cC cS T (mkF m pc Ls (v :: .ref a :: st)) := by
  subst hp; obtain ⟨q0, qq, locs, Y, N, Od⟩ := id X
  obtain ⟨T', h', Y', rfl, W, stp⟩ := putF Y X.hx X.hZ X.hown (host := "") (Or.inl w) via rfl F E (L.imp id fun q => ⟨q.1, q.2.1, q0.2.2.2.2.2.2.1.trans q.2.2⟩) wi hty hn hf (g := mkF m pc Ls (v :: .ref a :: st)) rfl rfl (X.hb hd)
  exact F_by stp (k T' (X.go Y' (Fr.snoc Y' N ha) (Keep.of_wr W) (allS ha all0) (sfS hsf sf0)) W)
theorem F_initO (X : Ww l Z R bytes mL ret own nm p e s m args below meth c vm T cells slots) {a : Addr} {ix : Nat} (hd : decode bytes pc = .ok (.invokespecial ix, 3)) (w1 : (Jvm.Cond.methodLink own ix Lib.objectInit).before a0 Z = true) (w2 : (Jvm.Cond.instanceMethod Lib.objectInit).before a0 Z = true) (w3 : (Jvm.Cond.code Lib.objectInit ⟨#[0xb1]⟩ 1 none).before a0 Z = true) (hsz : Ls.size = mL) (hf : 1 ≤ R.frames) (hl : (st.map fun v => v.category).sum + 12 ≤ R.locals) {pc' : Nat} (hp : pc + 3 = pc')
    (k : ∀ (T' : State), Ww l Z R bytes mL ret own nm p e s m args below meth c vm T' cells slots → T'.heap = T.heap → EndW p e below s Z Q cC cS T' (mkF m pc' Ls st)) : EndW p e below s Z Q cC cS T (mkF m pc Ls (.ref a :: st)) := by
  subst hp; obtain ⟨q0, qq, locs, Y, N, Od⟩ := id X
  obtain ⟨T', Y', e1, stp⟩ := initO Y X.hx X.hZ X.hown w1 w2 w3 rfl (g := mkF m pc Ls (.ref a :: st)) rfl (X.size hsz) rfl (X.hb hd) hf (W := (st.map fun v => v.category).sum) (by show 2 * 0 + _ ≤ _; omega) hl
  exact F_by stp (k T' (X.go Y' N (own_ks e1) all0 sf0) e1)
theorem F_checkcast (X : Ww l Z R bytes mL ret own nm p e s m args below meth c vm T cells slots) {a : Addr} {K : String} {ix : Nat} (hd : decode bytes pc = .ok (.checkcast ix, 3)) (w : (Jvm.Cond.classLink own ix K).before a0 Z = true) (F : Ins Z T.heap a K true) {pc' : Nat} (hp : pc + 3 = pc')
    (k : ∀ (T' : State), Ww l Z R bytes mL ret own nm p e s m args below meth c vm T' cells slots → T'.heap = T.heap → EndW p e below s Z Q cC cS T' (mkF m pc' Ls (.ref a :: st))) : EndW p e below s Z Q cC cS T (mkF m pc Ls (.ref a :: st)) := by
  subst hp; obtain ⟨q0, qq, locs, Y, N, Od⟩ := id X
  obtain ⟨T', Y', e1, stp⟩ := castY Y X.hx X.hZ X.hown w rfl F (g := mkF m pc Ls (.ref a :: st)) rfl rfl (X.hb hd)
  exact F_by stp (k T' (X.go Y' N (own_ks e1) all0 sf0) e1)
theorem F_instY (X : Ww l Z R bytes mL ret own nm p e s m args below meth c vm T cells slots) {a : Addr} {K : String} {ix : Nat} (hd : decode bytes pc = .ok (.instanceof ix, 3)) (w : (Jvm.Cond.classLink own ix K).before a0 Z = true) (F : Ins Z T.heap a K true) {pc' : Nat} (hp : pc + 3 = pc')
    (k : ∀ (T' : State), Ww l Z R bytes mL ret own nm p e s m args below meth c vm T' cells slots → T'.heap = T.heap → EndW p e below s Z Q cC cS T' (mkF m pc' Ls (.int 1 :: st))) : EndW p e below s Z Q cC cS T (mkF m pc Ls (.ref a :: st)) := by
  subst hp; obtain ⟨q0, qq, locs, Y, N, Od⟩ := id X
  obtain ⟨T', Y', e1, stp⟩ := instY Y X.hx X.hZ X.hown w rfl F (g := mkF m pc Ls (.ref a :: st)) rfl rfl (X.hb hd)
  exact F_by stp (k T' (X.go Y' N (own_ks e1) all0 sf0) e1)

theorem F_ldcS (X : Ww l Z R bytes mL ret own nm p e s m args below meth c vm T cells slots) {ix n : Nat} {text : String} {vs : List Value} {z : Int32} (hd : decode bytes pc = .ok (.ldc ix, 2)) (w : (Jvm.Cond.stringLink own ix text).before a0 Z = true) (wS : ∀ a ∈ Bundle.stringAtoms, a.before a0 Z = true) (hE : EW Z a0 EL) (hmem : (own, ix) ∈ EL) (ht : (∀ c ∈ text.toList, c.toNat < 256) ∧ text.toList.map (fun c => Value.int (Jvm.Lit.byteI c.toNat.toUInt16)) = vs) (hz : ¬ z < 0) (hl : z.toNatClampNeg = vs.length) (hn : 4 * text.toList.length ≤ n) (hbig : n ≤ 536870912) (hc : cells + 2 ≤ R.cells) (hs : slots + (n + 4) ≤ R.slots) {pc' : Nat} (hp : pc + 2 = pc')
    (k : ∀ (T' : State) (a b : Addr) (kb : ClassId), Ww l Z R bytes mL ret own nm p e s m args below meth c T'.vm T' (cells + 2) (slots + (n + 4)) → Keep T.heap T'.heap [] → Exa Z T'.heap a "java/lang/String" → Fld Z T'.heap a "java/lang/String" "coder" "B" (.int 0) → Fld Z T'.heap a "java/lang/String" "value" "[B" (.ref b) → Arv Z T'.heap b kb .byte z vs (.int 0) → (∀ x, x < T.heap.size → Safe Z EL vm T.heap x → Safe Z EL T'.vm T'.heap x ∧ x ≠ a ∧ x ≠ b) → EndW p e below s Z Q cC cS T' (mkF m pc' Ls (.ref a :: st))) : EndW p e below s Z Q cC cS T (mkF m pc Ls st) := by
  subst hp; obtain ⟨q0, ⟨⟨k0, hS, hk⟩, hE1, hC⟩, locs, Y, N, O⟩ := id X
  obtain ⟨a, T', h', k1, b, kb, Y', rfl, E, hS', hk', hW', hf', x1, x2, x3, x4, l1, l2, hC', hL, hsf, stp⟩ := ldcCH Y X.hx X.hZ X.hown w wS rfl hS hk hE hmem X.ch ht hz hl (g := mkF m pc Ls st) rfl (X.hb hd) hn hbig hc hs
  refine F_by stp (k T' a b kb ⟨⟨q0.1, q0.2.1, q0.2.2.1, q0.2.2.2.1, q0.2.2.2.2.1, hf', q0.2.2.2.2.2.2.1, hW'⟩, ⟨⟨k1, hS', hk'⟩, hE1, hC.trans hC'⟩, locs, Y', N, Keep.old O (Keep.of_ext E) all0⟩ (Keep.of_ext E) x1 x2 x3 x4 fun x hx hs => ?_)
  have q := hC'.safe hx hs
  exact ⟨q, hsf x q⟩
theorem F_staticB (X : Ww l Z R bytes mL ret own nm p e s m args below meth c vm T cells slots) {y : MethodName} {ix : Nat} {bytes' : ByteArray} {mL' : Nat} {ret' : Option FieldType} {Q' : Option Value → Heap → Prop} {argsL : List Value} {Q2 : Option Value → Heap → List Loc → Prop} {rC rS : Nat} (hd : decode bytes pc = .ok (.invokestatic ix, 3)) (w1 : (Jvm.Cond.methodLink own ix y).before a0 Z = true) (w2 : (Jvm.Cond.static y).before a0 Z = true) (w3 : (Jvm.Cond.initialized y.cls).before a0 Z = true) (w4 : (Jvm.Cond.code y bytes' mL' ret').before a0 Z = true) (hy : y.cls ≠ "java/lang/invoke/MethodHandle" ∧ y.cls ≠ "java/lang/invoke/VarHandle") {st0 : List Value} (hst : st0 = argsL.reverse ++ st) (hK : Back l R p e below (s.setVm vm) args y 3 ((st.map fun v => v.category).sum) (fun A aa => aa = argsL.toArray ∧ A.U.heap = T.heap ∧ A.cells + rC ≤ R.cells ∧ A.slots + rS ≤ R.slots) (fun A _ v B => ∃ L, Q2 v B.U.heap L ∧ B.locs = A.locs ++ L ∧ B.cells = A.cells + rC ∧ B.slots = A.slots + rS)) (hQ2 : ∀ v h L, Q2 v h L → Fr Z.heap.size L ∧ Ext Z.heap h ∧ Q' v h) (hlen : ∀ sig, parseMethodDescriptor y.desc = some sig → argsL.length = sig.parameters.length) (hsz : Ls.size = mL) (hcl : cells + rC ≤ R.cells) (hsl : slots + rS ≤ R.slots) (ws : List Addr) (hkp : ∀ v h, Q' v h → Keep T.heap h ws) (hsf : ∀ x ∈ ws, Safe Z EL vm T.heap x) {pc' : Nat} (hp : pc + 3 = pc')
    (k : ∀ (T' : State) (v : Option Value), Ww l Z R bytes mL ret own nm p e s m args below meth c vm T' (cells + rC) (slots + rS) → Q' v T'.heap → EndW p e below s Z Q cC cS T' (mkF m pc' Ls (v.toList ++ st))) : EndW p e below s Z Q cC cS T (mkF m pc Ls st0) := by
  subst hp hst; obtain ⟨q0, qq, locs, Y, N, Od⟩ := id X
  obtain ⟨v, _, ⟨T', L1, k1, n1⟩, -, Y', ⟨Lc, hQ, l1, y1, z1⟩, stp⟩ := Jvm.LawKit.callS Y X.hx (y := y) X.hown (mvT X.hZ w1) (mvT X.hZ w2) (mvT X.hZ w3) (mvT X.hZ w4) hy hK (g := mkF m pc Ls (argsL.reverse ++ st)) rfl (X.size hsz) (argsL := argsL) (rest := st) hlen rfl (by show 2 * 0 + _ ≤ _; omega) (X.hb hd) (fun _ _ => ⟨rfl, rfl, hcl, hsl⟩)
  dsimp only [Pt.U, Pt.locs, Pt.cells, Pt.slots] at Y' l1 y1 z1 stp hQ
  subst l1 y1 z1
  obtain ⟨f1, f2, f3⟩ := hQ2 _ _ _ hQ
  exact F_by stp (k T' v (X.go2 Y' (Fr.app N f1) f2 (hkp _ _ f3) hsf) f3)

theorem F_static (X : Ww l Z R bytes mL ret own nm p e s m args below meth c vm T cells slots) {y : MethodName} {ix : Nat} {bytes' : ByteArray} {mL' : Nat} {ret' : Option FieldType} {Q' : Option Value → Heap → Prop} {argsL : List Value} {rm : Room} (hd : decode bytes pc = .ok (.invokestatic ix, 3)) (w1 : (Jvm.Cond.methodLink own ix y).before a0 Z = true) (w2 : (Jvm.Cond.static y).before a0 Z = true) (w3 : (Jvm.Cond.initialized y.cls).before a0 Z = true) (w4 : (Jvm.Cond.code y bytes' mL' ret').before a0 Z = true) (hy : y.cls ≠ "java/lang/invoke/MethodHandle" ∧ y.cls ≠ "java/lang/invoke/VarHandle")  {st0 : List Value} (hst : st0 = argsL.reverse ++ st) (hC : Ct l Z y bytes' mL' ret' rm argsL.toArray T.heap Q') (hlen : ∀ sig, parseMethodDescriptor y.desc = some sig → argsL.length = sig.parameters.length) (hsz : Ls.size = mL) (hcl : cells + rm.cells ≤ R.cells) (hsl : slots + rm.slots ≤ R.slots) (hfr : rm.frames + 1 ≤ R.frames) (hlo : (st.map fun v => v.category).sum + (mL' + 11) + rm.locals ≤ R.locals) (ws : List Addr) (hkp : ∀ v h, Q' v h → Keep T.heap h ws) (hsf : ∀ x ∈ ws, Safe Z EL vm T.heap x) {pc' : Nat} (hp : pc + 3 = pc')
    (k : ∀ (T' : State) (v : Option Value), Ww l Z R bytes mL ret own nm p e s m args below meth c vm T' (cells + rm.cells) (slots + rm.slots) → Q' v T'.heap → EndW p e below s Z Q cC cS T' (mkF m pc' Ls (v.toList ++ st))) : EndW p e below s Z Q cC cS T (mkF m pc Ls st0) :=
  F_staticB X hd w1 w2 w3 w4 hy hst (hC.back X.hZ w4 w3 hfr hlo) (fun _ _ _ q => q) hlen hsz hcl hsl ws hkp hsf hp k

theorem G_static (X : Ww l Z R bytes mL ret own nm p e s m args below meth c vm T cells slots) {y : MethodName} {ix : Nat} {bytes' : ByteArray} {mL' : Nat} {ret' : Option FieldType} {Q' : Option Value → Heap → Prop} {argsL : List Value} {rm : Room} (hd : decode bytes pc = .ok (.invokestatic ix, 3)) (w1 : (Jvm.Cond.methodLink own ix y).before a0 Z = true) (w2 : (Jvm.Cond.static y).before a0 Z = true) (w3 : (Jvm.Cond.initialized y.cls).before a0 Z = true) (w4 : (Jvm.Cond.code y bytes' mL' ret').before a0 Z = true) (hy : y.cls ≠ "java/lang/invoke/MethodHandle" ∧ y.cls ≠ "java/lang/invoke/VarHandle")  {st0 : List Value} (hst : st0 = argsL.reverse ++ st) (hC : CtW l Z y bytes' mL' ret' rm argsL.toArray T.heap Q') (hlen : ∀ sig, parseMethodDescriptor y.desc = some sig → argsL.length = sig.parameters.length) (hsz : Ls.size = mL) (hcl : cells + rm.cells ≤ R.cells) (hsl : slots + rm.slots ≤ R.slots) (hfr : rm.frames + 1 ≤ R.frames) (hlo : (st.map fun v => v.category).sum + (mL' + 11) + rm.locals ≤ R.locals) {pc' : Nat} (hp : pc + 3 = pc')
    (k : ∀ (T' : State) (v : Option Value), Ww l Z R bytes mL ret own nm p e s m args below meth c T'.vm T' (cells + rm.cells) (slots + rm.slots) → Q' v T'.heap → (∀ x, x < T.heap.size → Safe Z EL vm T.heap x → Safe Z EL T'.vm T'.heap x) → EndW p e below s Z Q cC cS T' (mkF m pc' Ls (v.toList ++ st))) : EndW p e below s Z Q cC cS T (mkF m pc Ls st0) := by
  subst hp hst; obtain ⟨q0, ⟨⟨k0, hS, hk⟩, ⟨a1, hE1⟩, hC0⟩, locs, Y, N, Od⟩ := id X
  obtain ⟨v, _, ⟨T', L1, k1, n1⟩, -, Y', hS2, hgr, ⟨Lc, hQ, l1, y1, z1, hC1⟩, stp⟩ := callSS Y X.hx (y := y) X.hown (mvT (s := s.setVm vm) X.hZ w1) (mvT (s := s.setVm vm) X.hZ w2) (mvT (s := s.setVm vm) X.hZ w3) (mvT (s := s.setVm vm) X.hZ w4) hy (hC.back X.hZ w4 w3 hfr hlo hE1 X.ch) (g := mkF m pc Ls (argsL.reverse ++ st)) rfl (X.size hsz) (argsL := argsL) (rest := st) hlen rfl (by show 2 * 0 + _ ≤ _; omega) (X.hb hd) (fun _ _ => ⟨rfl, rfl, hcl, hsl⟩)
  dsimp only [Pt.U, Pt.locs, Pt.cells, Pt.slots] at Y' l1 y1 z1 stp hQ hS2 hgr hC1
  subst l1 y1 z1
  have hW2 : Z.Warmed39 T'.vm := State.Warmed39.trans (t := s.setVm vm) X.hZ hS2.1
  have hf2 : T'.vm.findClass own = some m.cls := by rw [hS2.1.alike.findClass]; exact X.hown
  exact F_tr stp (k T' v ⟨⟨q0.1, q0.2.1, q0.2.2.1, q0.2.2.2.1, q0.2.2.2.2.1, hf2, q0.2.2.2.2.2.2.1, hW2⟩, ⟨⟨_, foldS hS hk hS2 hgr, Nat.le_refl _⟩, ⟨a1, hE1⟩, hC0.trans hC1⟩, _, Y', Fr.app N hQ.1, hQ.2.1⟩ hQ.2.2 (fun x hx hs => hC1.safe hx hs))

theorem F_specialB (X : Ww l Z R bytes mL ret own nm p e s m args below meth c vm T cells slots) {y : MethodName} {ix : Nat} {bytes' : ByteArray} {mL' : Nat} {ret' : Option FieldType} {Q' : Option Value → Heap → Prop} {argsL : List Value} {Q2 : Option Value → Heap → List Loc → Prop} {rC rS : Nat} {a : Addr} (hd : decode bytes pc = .ok (.invokespecial ix, 3)) (hy1 : y.name = "<init>") (hret : ret' = none) (w1 : (Jvm.Cond.methodLink own ix y).before a0 Z = true) (w2 : (Jvm.Cond.instanceMethod y).before a0 Z = true) (w4 : (Jvm.Cond.code y bytes' mL' ret').before a0 Z = true) (hy : y.cls ≠ "java/lang/invoke/MethodHandle" ∧ y.cls ≠ "java/lang/invoke/VarHandle") {st0 : List Value} (hst : st0 = argsL.reverse ++ .ref a :: st) (hK : Back l R p e below (s.setVm vm) args y 3 ((st.map fun v => v.category).sum) (fun A aa => aa = (.ref a :: argsL).toArray ∧ A.U.heap = T.heap ∧ A.cells + rC ≤ R.cells ∧ A.slots + rS ≤ R.slots) (fun A _ v B => ∃ L, Q2 v B.U.heap L ∧ B.locs = A.locs ++ L ∧ B.cells = A.cells + rC ∧ B.slots = A.slots + rS)) (hQ2 : ∀ v h L, Q2 v h L → Fr Z.heap.size L ∧ Ext Z.heap h ∧ Q' v h) (hlen : ∀ sig, parseMethodDescriptor y.desc = some sig → argsL.length = sig.parameters.length) (hsz : Ls.size = mL) (hcl : cells + rC ≤ R.cells) (hsl : slots + rS ≤ R.slots) (ws : List Addr) (hkp : ∀ v h, Q' v h → Keep T.heap h ws) (hsf : ∀ x ∈ ws, Safe Z EL vm T.heap x) {pc' : Nat} (hp : pc + 3 = pc')
    (k : ∀ (T' : State) (v : Option Value), Ww l Z R bytes mL ret own nm p e s m args below meth c vm T' (cells + rC) (slots + rS) → Q' v T'.heap → EndW p e below s Z Q cC cS T' (mkF m pc' Ls (v.toList ++ st))) : EndW p e below s Z Q cC cS T (mkF m pc Ls st0) := by
  subst hp hst; obtain ⟨q0, qq, locs, Y, N, Od⟩ := id X
  subst hret
  obtain ⟨v, _, ⟨T', L1, k1, n1⟩, -, Y', ⟨Lc, hQ, l1, y1, z1⟩, stp⟩ := Y.specialBack X.hx (y := y) hy1 X.hown (mvT X.hZ w1) (mvT X.hZ w2) (mvT X.hZ w4) hy hK (g := mkF m pc Ls (argsL.reverse ++ .ref a :: st)) rfl (X.size hsz) (Steps.refl _) (a := a) (argsL := argsL) (rest := st) hlen rfl (by show 2 * 0 + _ ≤ _; omega) (X.hb hd) (fun _ _ => ⟨rfl, rfl, hcl, hsl⟩)
  dsimp only [Pt.U, Pt.locs, Pt.cells, Pt.slots] at Y' l1 y1 z1 stp hQ
  subst l1 y1 z1
  obtain ⟨f1, f2, f3⟩ := hQ2 _ _ _ hQ
  exact F_tr stp (k T' v (X.go2 Y' (Fr.app N f1) f2 (hkp _ _ f3) hsf) f3)

theorem F_special (X : Ww l Z R bytes mL ret own nm p e s m args below meth c vm T cells slots) {y : MethodName} {ix : Nat} {bytes' : ByteArray} {mL' : Nat} {ret' : Option FieldType} {Q' : Option Value → Heap → Prop} {argsL : List Value} {rm : Room} {a : Addr} (hd : decode bytes pc = .ok (.invokespecial ix, 3)) (hy1 : y.name = "<init>") (hret : ret' = none) (w1 : (Jvm.Cond.methodLink own ix y).before a0 Z = true) (w2 : (Jvm.Cond.instanceMethod y).before a0 Z = true) (w4 : (Jvm.Cond.code y bytes' mL' ret').before a0 Z = true) (hy : y.cls ≠ "java/lang/invoke/MethodHandle" ∧ y.cls ≠ "java/lang/invoke/VarHandle") (w3 : (Jvm.Cond.initialized y.cls).before a0 Z = true) {st0 : List Value} (hst : st0 = argsL.reverse ++ .ref a :: st) (hC : Ct l Z y bytes' mL' ret' rm (.ref a :: argsL).toArray T.heap Q') (hlen : ∀ sig, parseMethodDescriptor y.desc = some sig → argsL.length = sig.parameters.length) (hsz : Ls.size = mL) (hcl : cells + rm.cells ≤ R.cells) (hsl : slots + rm.slots ≤ R.slots) (hfr : rm.frames + 1 ≤ R.frames) (hlo : (st.map fun v => v.category).sum + (mL' + 11) + rm.locals ≤ R.locals) (ws : List Addr) (hkp : ∀ v h, Q' v h → Keep T.heap h ws) (hsf : ∀ x ∈ ws, Safe Z EL vm T.heap x) {pc' : Nat} (hp : pc + 3 = pc')
    (k : ∀ (T' : State) (v : Option Value), Ww l Z R bytes mL ret own nm p e s m args below meth c vm T' (cells + rm.cells) (slots + rm.slots) → Q' v T'.heap → EndW p e below s Z Q cC cS T' (mkF m pc' Ls (v.toList ++ st))) : EndW p e below s Z Q cC cS T (mkF m pc Ls st0) :=
  F_specialB X hd hy1 hret w1 w2 w4 hy hst (hC.back X.hZ w4 w3 hfr hlo) (fun _ _ _ q => q) hlen hsz hcl hsl ws hkp hsf hp k

theorem G_special (X : Ww l Z R bytes mL ret own nm p e s m args below meth c vm T cells slots) {y : MethodName} {ix : Nat} {bytes' : ByteArray} {mL' : Nat} {ret' : Option FieldType} {Q' : Option Value → Heap → Prop} {argsL : List Value} {rm : Room} {a : Addr} (hd : decode bytes pc = .ok (.invokespecial ix, 3)) (hy1 : y.name = "<init>") (hret : ret' = none) (w1 : (Jvm.Cond.methodLink own ix y).before a0 Z = true) (w2 : (Jvm.Cond.instanceMethod y).before a0 Z = true) (w4 : (Jvm.Cond.code y bytes' mL' ret').before a0 Z = true) (hy : y.cls ≠ "java/lang/invoke/MethodHandle" ∧ y.cls ≠ "java/lang/invoke/VarHandle") (w3 : (Jvm.Cond.initialized y.cls).before a0 Z = true) {st0 : List Value} (hst : st0 = argsL.reverse ++ .ref a :: st) (hC : CtW l Z y bytes' mL' ret' rm (.ref a :: argsL).toArray T.heap Q') (hlen : ∀ sig, parseMethodDescriptor y.desc = some sig → argsL.length = sig.parameters.length) (hsz : Ls.size = mL) (hcl : cells + rm.cells ≤ R.cells) (hsl : slots + rm.slots ≤ R.slots) (hfr : rm.frames + 1 ≤ R.frames) (hlo : (st.map fun v => v.category).sum + (mL' + 11) + rm.locals ≤ R.locals) {pc' : Nat} (hp : pc + 3 = pc')
    (k : ∀ (T' : State) (v : Option Value), Ww l Z R bytes mL ret own nm p e s m args below meth c T'.vm T' (cells + rm.cells) (slots + rm.slots) → Q' v T'.heap → (∀ x, x < T.heap.size → Safe Z EL vm T.heap x → Safe Z EL T'.vm T'.heap x) → EndW p e below s Z Q cC cS T' (mkF m pc' Ls (v.toList ++ st))) : EndW p e below s Z Q cC cS T (mkF m pc Ls st0) := by
  subst hp hst; obtain ⟨q0, ⟨⟨k0, hS, hk⟩, ⟨a1, hE1⟩, hC0⟩, locs, Y, N, Od⟩ := id X
  subst hret
  obtain ⟨v, _, ⟨T', L1, k1, n1⟩, -, Y', hS2, hgr, ⟨Lc, hQ, l1, y1, z1, hC1⟩, stp⟩ := Y.specialBackS X.hx (y := y) hy1 X.hown (mvT (s := s.setVm vm) X.hZ w1) (mvT (s := s.setVm vm) X.hZ w2) (mvT (s := s.setVm vm) X.hZ w4) hy (hC.back X.hZ w4 w3 hfr hlo hE1 X.ch) (g := mkF m pc Ls (argsL.reverse ++ .ref a :: st)) rfl (X.size hsz) (Steps.refl _) (a := a) (argsL := argsL) (rest := st) hlen rfl (by show 2 * 0 + _ ≤ _; omega) (X.hb hd) (fun _ _ => ⟨rfl, rfl, hcl, hsl⟩)
  dsimp only [Pt.U, Pt.locs, Pt.cells, Pt.slots] at Y' l1 y1 z1 stp hQ hS2 hgr hC1
  subst l1 y1 z1
  have hW2 : Z.Warmed39 T'.vm := State.Warmed39.trans (t := s.setVm vm) X.hZ hS2.1
  have hf2 : T'.vm.findClass own = some m.cls := by rw [hS2.1.alike.findClass]; exact X.hown
  exact F_tr stp (k T' v ⟨⟨q0.1, q0.2.1, q0.2.2.1, q0.2.2.2.1, q0.2.2.2.2.1, hf2, q0.2.2.2.2.2.2.1, hW2⟩, ⟨⟨_, foldS hS hk hS2 hgr, Nat.le_refl _⟩, ⟨a1, hE1⟩, hC0.trans hC1⟩, _, Y', Fr.app N hQ.1, hQ.2.1⟩ hQ.2.2 (fun x hx hs => hC1.safe hx hs))

theorem F_virtualB (X : Ww l Z R bytes mL ret own nm p e s m args below meth c vm T cells slots) {y : MethodName} {ix : Nat} {Q' : Option Value → Heap → Prop} {argsL : List Value} {Q2 : Option Value → Heap → List Loc → Prop} {rC rS : Nat} {a : Addr} {z : MethodName} {D : String} (hd : decode bytes pc = .ok (.invokevirtual ix, 3)) (w1 : (Jvm.Cond.methodLink own ix y).before a0 Z = true) (w2 : (Jvm.Cond.declares y).before a0 Z = true) (w5 : (Jvm.Cond.selects D y z).before a0 Z = true) (w6 : (Jvm.Cond.instanceMethod z).before a0 Z = true) (hnf : NotFace (s.setVm vm) y) (hy : y.cls ≠ "java/lang/invoke/MethodHandle" ∧ y.cls ≠ "java/lang/invoke/VarHandle") (E : Exa Z T.heap a D) {st0 : List Value} (hst : st0 = argsL.reverse ++ .ref a :: st) (hK : Back l R p e below (s.setVm vm) args z 3 ((st.map fun v => v.category).sum) (fun A aa => aa = (.ref a :: argsL).toArray ∧ A.U.heap = T.heap ∧ A.cells + rC ≤ R.cells ∧ A.slots + rS ≤ R.slots) (fun A _ v B => ∃ L, Q2 v B.U.heap L ∧ B.locs = A.locs ++ L ∧ B.cells = A.cells + rC ∧ B.slots = A.slots + rS)) (hQ2 : ∀ v h L, Q2 v h L → Fr Z.heap.size L ∧ Ext Z.heap h ∧ Q' v h) (hlen : ∀ sig, parseMethodDescriptor y.desc = some sig → argsL.length = sig.parameters.length) (hsz : Ls.size = mL) (hcl : cells + rC ≤ R.cells) (hsl : slots + rS ≤ R.slots) (ws : List Addr) (hkp : ∀ v h, Q' v h → Keep T.heap h ws) (hsf : ∀ x ∈ ws, Safe Z EL vm T.heap x) {pc' : Nat} (hp : pc + 3 = pc')
    (k : ∀ (T' : State) (v : Option Value), Ww l Z R bytes mL ret own nm p e s m args below meth c vm T' (cells + rC) (slots + rS) → Q' v T'.heap → EndW p e below s Z Q cC cS T' (mkF m pc' Ls (v.toList ++ st))) : EndW p e below s Z Q cC cS T (mkF m pc Ls st0) := by
  subst hp hst; obtain ⟨q0, qq, locs, Y, N, Od⟩ := id X
  obtain ⟨cq, kq, qa, qb, qc⟩ := isOf (s := s.setVm vm) X.hZ rfl E
  obtain ⟨v, _, ⟨T', L1, k1, n1⟩, -, Y', ⟨Lc, hQ, l1, y1, z1⟩, stp⟩ := Y.virtualBack X.hx (y := y) (z := z) X.hown (mvT X.hZ w1) (mvT X.hZ w2) hnf (mvT X.hZ w5) (mvT X.hZ w6) hy hK qa qc (g := mkF m pc Ls (argsL.reverse ++ .ref a :: st)) rfl (X.size hsz) (Steps.refl _) (argsL := argsL) (rest := st) hlen rfl (by show 2 * 0 + _ ≤ _; omega) (X.hb hd) (fun _ _ => ⟨rfl, rfl, hcl, hsl⟩)
  dsimp only [Pt.U, Pt.locs, Pt.cells, Pt.slots] at Y' l1 y1 z1 stp hQ
  subst l1 y1 z1
  obtain ⟨f1, f2, f3⟩ := hQ2 _ _ _ hQ
  exact F_tr stp (k T' v (X.go2 Y' (Fr.app N f1) f2 (hkp _ _ f3) hsf) f3)

theorem F_virtual (X : Ww l Z R bytes mL ret own nm p e s m args below meth c vm T cells slots) {y : MethodName} {ix : Nat} {bytes' : ByteArray} {mL' : Nat} {ret' : Option FieldType} {Q' : Option Value → Heap → Prop} {argsL : List Value} {rm : Room} {a : Addr} {z : MethodName} {D : String} (hd : decode bytes pc = .ok (.invokevirtual ix, 3)) (w1 : (Jvm.Cond.methodLink own ix y).before a0 Z = true) (w2 : (Jvm.Cond.declares y).before a0 Z = true) (w5 : (Jvm.Cond.selects D y z).before a0 Z = true) (w6 : (Jvm.Cond.instanceMethod z).before a0 Z = true) (hnf : NotFace (s.setVm vm) y) (hy : y.cls ≠ "java/lang/invoke/MethodHandle" ∧ y.cls ≠ "java/lang/invoke/VarHandle") (E : Exa Z T.heap a D) (w3 : (Jvm.Cond.initialized z.cls).before a0 Z = true) (w4 : (Jvm.Cond.code z bytes' mL' ret').before a0 Z = true) {st0 : List Value} (hst : st0 = argsL.reverse ++ .ref a :: st) (hC : Ct l Z z bytes' mL' ret' rm (.ref a :: argsL).toArray T.heap Q') (hlen : ∀ sig, parseMethodDescriptor y.desc = some sig → argsL.length = sig.parameters.length) (hsz : Ls.size = mL) (hcl : cells + rm.cells ≤ R.cells) (hsl : slots + rm.slots ≤ R.slots) (hfr : rm.frames + 1 ≤ R.frames) (hlo : (st.map fun v => v.category).sum + (mL' + 11) + rm.locals ≤ R.locals) (ws : List Addr) (hkp : ∀ v h, Q' v h → Keep T.heap h ws) (hsf : ∀ x ∈ ws, Safe Z EL vm T.heap x) {pc' : Nat} (hp : pc + 3 = pc')
    (k : ∀ (T' : State) (v : Option Value), Ww l Z R bytes mL ret own nm p e s m args below meth c vm T' (cells + rm.cells) (slots + rm.slots) → Q' v T'.heap → EndW p e below s Z Q cC cS T' (mkF m pc' Ls (v.toList ++ st))) : EndW p e below s Z Q cC cS T (mkF m pc Ls st0) :=
  F_virtualB X hd w1 w2 w5 w6 hnf hy E hst (hC.back X.hZ w4 w3 hfr hlo) (fun _ _ _ q => q) hlen hsz hcl hsl ws hkp hsf hp k

theorem G_virtual (X : Ww l Z R bytes mL ret own nm p e s m args below meth c vm T cells slots) {y : MethodName} {ix : Nat} {bytes' : ByteArray} {mL' : Nat} {ret' : Option FieldType} {Q' : Option Value → Heap → Prop} {argsL : List Value} {rm : Room} {a : Addr} {z : MethodName} {D : String} (hd : decode bytes pc = .ok (.invokevirtual ix, 3)) (w1 : (Jvm.Cond.methodLink own ix y).before a0 Z = true) (w2 : (Jvm.Cond.declares y).before a0 Z = true) (w5 : (Jvm.Cond.selects D y z).before a0 Z = true) (w6 : (Jvm.Cond.instanceMethod z).before a0 Z = true) (hnf : NotFace (s.setVm vm) y) (hy : y.cls ≠ "java/lang/invoke/MethodHandle" ∧ y.cls ≠ "java/lang/invoke/VarHandle") (E : Exa Z T.heap a D) (w3 : (Jvm.Cond.initialized z.cls).before a0 Z = true) (w4 : (Jvm.Cond.code z bytes' mL' ret').before a0 Z = true) {st0 : List Value} (hst : st0 = argsL.reverse ++ .ref a :: st) (hC : CtW l Z z bytes' mL' ret' rm (.ref a :: argsL).toArray T.heap Q') (hlen : ∀ sig, parseMethodDescriptor y.desc = some sig → argsL.length = sig.parameters.length) (hsz : Ls.size = mL) (hcl : cells + rm.cells ≤ R.cells) (hsl : slots + rm.slots ≤ R.slots) (hfr : rm.frames + 1 ≤ R.frames) (hlo : (st.map fun v => v.category).sum + (mL' + 11) + rm.locals ≤ R.locals) {pc' : Nat} (hp : pc + 3 = pc')
    (k : ∀ (T' : State) (v : Option Value), Ww l Z R bytes mL ret own nm p e s m args below meth c T'.vm T' (cells + rm.cells) (slots + rm.slots) → Q' v T'.heap → (∀ x, x < T.heap.size → Safe Z EL vm T.heap x → Safe Z EL T'.vm T'.heap x) → EndW p e below s Z Q cC cS T' (mkF m pc' Ls (v.toList ++ st))) : EndW p e below s Z Q cC cS T (mkF m pc Ls st0) := by
  subst hp hst; obtain ⟨q0, ⟨⟨k0, hS, hk⟩, ⟨a1, hE1⟩, hC0⟩, locs, Y, N, Od⟩ := id X
  obtain ⟨cq, kq, qa, qb, qc⟩ := isOf (s := s.setVm vm) X.hZ rfl E
  obtain ⟨v, _, ⟨T', L1, k1, n1⟩, -, Y', hS2, hgr, ⟨Lc, hQ, l1, y1, z1, hC1⟩, stp⟩ := Y.virtualBackS X.hx (y := y) (z := z) X.hown (mvT (s := s.setVm vm) X.hZ w1) (mvT (s := s.setVm vm) X.hZ w2) hnf (mvT (s := s.setVm vm) X.hZ w5) (mvT (s := s.setVm vm) X.hZ w6) hy (hC.back X.hZ w4 w3 hfr hlo hE1 X.ch) qa qc (g := mkF m pc Ls (argsL.reverse ++ .ref a :: st)) rfl (X.size hsz) (Steps.refl _) (argsL := argsL) (rest := st) hlen rfl (by show 2 * 0 + _ ≤ _; omega) (X.hb hd) (fun _ _ => ⟨rfl, rfl, hcl, hsl⟩)
  dsimp only [Pt.U, Pt.locs, Pt.cells, Pt.slots] at Y' l1 y1 z1 stp hQ hS2 hgr hC1
  subst l1 y1 z1
  have hW2 : Z.Warmed39 T'.vm := State.Warmed39.trans (t := s.setVm vm) X.hZ hS2.1
  have hf2 : T'.vm.findClass own = some m.cls := by rw [hS2.1.alike.findClass]; exact X.hown
  exact F_tr stp (k T' v ⟨⟨q0.1, q0.2.1, q0.2.2.1, q0.2.2.2.1, q0.2.2.2.2.1, hf2, q0.2.2.2.2.2.2.1, hW2⟩, ⟨⟨_, foldS hS hk hS2 hgr, Nat.le_refl _⟩, ⟨a1, hE1⟩, hC0.trans hC1⟩, _, Y', Fr.app N hQ.1, hQ.2.1⟩ hQ.2.2 (fun x hx hs => hC1.safe hx hs))

theorem F_privateB (X : Ww l Z R bytes mL ret own nm p e s m args below meth c vm T cells slots) {y : MethodName} {ix : Nat} {bytes' : ByteArray} {mL' : Nat} {ret' : Option FieldType} {Q' : Option Value → Heap → Prop} {argsL : List Value} {Q2 : Option Value → Heap → List Loc → Prop} {rC rS : Nat} {a : Addr} {D : String} (hd : decode bytes pc = .ok (.invokevirtual ix, 3)) (w1 : (Jvm.Cond.methodLink own ix y).before a0 Z = true) (w6 : (Jvm.Cond.instanceMethod y).before a0 Z = true) (w5 : (Jvm.Cond.selects y.cls y y).before a0 Z = true) (wp : (Jvm.Cond.privateMethod y).before a0 Z = true) (w4 : (Jvm.Cond.code y bytes' mL' ret').before a0 Z = true) (hy : y.cls ≠ "java/lang/invoke/MethodHandle" ∧ y.cls ≠ "java/lang/invoke/VarHandle") (E : Exa Z T.heap a D) {st0 : List Value} (hst : st0 = argsL.reverse ++ .ref a :: st) (hK : Back l R p e below (s.setVm vm) args y 3 ((st.map fun v => v.category).sum) (fun A aa => aa = (.ref a :: argsL).toArray ∧ A.U.heap = T.heap ∧ A.cells + rC ≤ R.cells ∧ A.slots + rS ≤ R.slots) (fun A _ v B => ∃ L, Q2 v B.U.heap L ∧ B.locs = A.locs ++ L ∧ B.cells = A.cells + rC ∧ B.slots = A.slots + rS)) (hQ2 : ∀ v h L, Q2 v h L → Fr Z.heap.size L ∧ Ext Z.heap h ∧ Q' v h) (hlen : ∀ sig, parseMethodDescriptor y.desc = some sig → argsL.length = sig.parameters.length) (hsz : Ls.size = mL) (hcl : cells + rC ≤ R.cells) (hsl : slots + rS ≤ R.slots) (ws : List Addr) (hkp : ∀ v h, Q' v h → Keep T.heap h ws) (hsf : ∀ x ∈ ws, Safe Z EL vm T.heap x) {pc' : Nat} (hp : pc + 3 = pc')
    (k : ∀ (T' : State) (v : Option Value), Ww l Z R bytes mL ret own nm p e s m args below meth c vm T' (cells + rC) (slots + rS) → Q' v T'.heap → EndW p e below s Z Q cC cS T' (mkF m pc' Ls (v.toList ++ st))) : EndW p e below s Z Q cC cS T (mkF m pc Ls st0) := by
  subst hp hst; obtain ⟨q0, qq, locs, Y, N, Od⟩ := id X
  obtain ⟨cell, kk, e1, -, -, e4, -⟩ := E
  obtain ⟨v, _, ⟨T', L1, k1, n1⟩, -, Y', ⟨Lc, hQ, l1, y1, z1⟩, stp⟩ := Y.privateBack X.hx (y := y) X.hown (mvT X.hZ w1) (mvT X.hZ w6) (mvT X.hZ w5) (Cond.privateMethod_at (mvP (args := args) X.hZ wp)) (mvT X.hZ w4) hy hK (g := mkF m pc Ls (argsL.reverse ++ .ref a :: st)) rfl (X.size hsz) (Steps.refl _) (a := a) e1 (fun q z => by rw [z] at e4; cases e4) (argsL := argsL) (rest := st) hlen rfl (by show 2 * 0 + _ ≤ _; omega) (X.hb hd) (fun _ _ => ⟨rfl, rfl, hcl, hsl⟩)
  dsimp only [Pt.U, Pt.locs, Pt.cells, Pt.slots] at Y' l1 y1 z1 stp hQ
  subst l1 y1 z1
  obtain ⟨f1, f2, f3⟩ := hQ2 _ _ _ hQ
  exact F_tr stp (k T' v (X.go2 Y' (Fr.app N f1) f2 (hkp _ _ f3) hsf) f3)

theorem F_private (X : Ww l Z R bytes mL ret own nm p e s m args below meth c vm T cells slots) {y : MethodName} {ix : Nat} {bytes' : ByteArray} {mL' : Nat} {ret' : Option FieldType} {Q' : Option Value → Heap → Prop} {argsL : List Value} {rm : Room} {a : Addr} {D : String} (hd : decode bytes pc = .ok (.invokevirtual ix, 3)) (w1 : (Jvm.Cond.methodLink own ix y).before a0 Z = true) (w6 : (Jvm.Cond.instanceMethod y).before a0 Z = true) (w5 : (Jvm.Cond.selects y.cls y y).before a0 Z = true) (wp : (Jvm.Cond.privateMethod y).before a0 Z = true) (w4 : (Jvm.Cond.code y bytes' mL' ret').before a0 Z = true) (hy : y.cls ≠ "java/lang/invoke/MethodHandle" ∧ y.cls ≠ "java/lang/invoke/VarHandle") (E : Exa Z T.heap a D) (w3 : (Jvm.Cond.initialized y.cls).before a0 Z = true) {st0 : List Value} (hst : st0 = argsL.reverse ++ .ref a :: st) (hC : Ct l Z y bytes' mL' ret' rm (.ref a :: argsL).toArray T.heap Q') (hlen : ∀ sig, parseMethodDescriptor y.desc = some sig → argsL.length = sig.parameters.length) (hsz : Ls.size = mL) (hcl : cells + rm.cells ≤ R.cells) (hsl : slots + rm.slots ≤ R.slots) (hfr : rm.frames + 1 ≤ R.frames) (hlo : (st.map fun v => v.category).sum + (mL' + 11) + rm.locals ≤ R.locals) (ws : List Addr) (hkp : ∀ v h, Q' v h → Keep T.heap h ws) (hsf : ∀ x ∈ ws, Safe Z EL vm T.heap x) {pc' : Nat} (hp : pc + 3 = pc')
    (k : ∀ (T' : State) (v : Option Value), Ww l Z R bytes mL ret own nm p e s m args below meth c vm T' (cells + rm.cells) (slots + rm.slots) → Q' v T'.heap → EndW p e below s Z Q cC cS T' (mkF m pc' Ls (v.toList ++ st))) : EndW p e below s Z Q cC cS T (mkF m pc Ls st0) :=
  F_privateB X hd w1 w6 w5 wp w4 hy E hst (hC.back X.hZ w4 w3 hfr hlo) (fun _ _ _ q => q) hlen hsz hcl hsl ws hkp hsf hp k

theorem G_private (X : Ww l Z R bytes mL ret own nm p e s m args below meth c vm T cells slots) {y : MethodName} {ix : Nat} {bytes' : ByteArray} {mL' : Nat} {ret' : Option FieldType} {Q' : Option Value → Heap → Prop} {argsL : List Value} {rm : Room} {a : Addr} {D : String} (hd : decode bytes pc = .ok (.invokevirtual ix, 3)) (w1 : (Jvm.Cond.methodLink own ix y).before a0 Z = true) (w6 : (Jvm.Cond.instanceMethod y).before a0 Z = true) (w5 : (Jvm.Cond.selects y.cls y y).before a0 Z = true) (wp : (Jvm.Cond.privateMethod y).before a0 Z = true) (w4 : (Jvm.Cond.code y bytes' mL' ret').before a0 Z = true) (hy : y.cls ≠ "java/lang/invoke/MethodHandle" ∧ y.cls ≠ "java/lang/invoke/VarHandle") (E : Exa Z T.heap a D) (w3 : (Jvm.Cond.initialized y.cls).before a0 Z = true) {st0 : List Value} (hst : st0 = argsL.reverse ++ .ref a :: st) (hC : CtW l Z y bytes' mL' ret' rm (.ref a :: argsL).toArray T.heap Q') (hlen : ∀ sig, parseMethodDescriptor y.desc = some sig → argsL.length = sig.parameters.length) (hsz : Ls.size = mL) (hcl : cells + rm.cells ≤ R.cells) (hsl : slots + rm.slots ≤ R.slots) (hfr : rm.frames + 1 ≤ R.frames) (hlo : (st.map fun v => v.category).sum + (mL' + 11) + rm.locals ≤ R.locals) {pc' : Nat} (hp : pc + 3 = pc')
    (k : ∀ (T' : State) (v : Option Value), Ww l Z R bytes mL ret own nm p e s m args below meth c T'.vm T' (cells + rm.cells) (slots + rm.slots) → Q' v T'.heap → (∀ x, x < T.heap.size → Safe Z EL vm T.heap x → Safe Z EL T'.vm T'.heap x) → EndW p e below s Z Q cC cS T' (mkF m pc' Ls (v.toList ++ st))) : EndW p e below s Z Q cC cS T (mkF m pc Ls st0) := by
  subst hp hst; obtain ⟨q0, ⟨⟨k0, hS, hk⟩, ⟨a1, hE1⟩, hC0⟩, locs, Y, N, Od⟩ := id X
  obtain ⟨cell, kk, e1, -, -, e4, -⟩ := E
  obtain ⟨v, _, ⟨T', L1, k1, n1⟩, -, Y', hS2, hgr, ⟨Lc, hQ, l1, y1, z1, hC1⟩, stp⟩ := Y.privateBackS X.hx (y := y) X.hown (mvT (s := s.setVm vm) X.hZ w1) (mvT (s := s.setVm vm) X.hZ w6) (mvT (s := s.setVm vm) X.hZ w5) (Cond.privateMethod_at (mvP (s := s.setVm vm) (args := args) X.hZ wp)) (mvT (s := s.setVm vm) X.hZ w4) hy (hC.back X.hZ w4 w3 hfr hlo hE1 X.ch) (g := mkF m pc Ls (argsL.reverse ++ .ref a :: st)) rfl (X.size hsz) (Steps.refl _) (a := a) e1 (fun q z => by rw [z] at e4; cases e4) (argsL := argsL) (rest := st) hlen rfl (by show 2 * 0 + _ ≤ _; omega) (X.hb hd) (fun _ _ => ⟨rfl, rfl, hcl, hsl⟩)
  dsimp only [Pt.U, Pt.locs, Pt.cells, Pt.slots] at Y' l1 y1 z1 stp hQ hS2 hgr hC1
  subst l1 y1 z1
  have hW2 : Z.Warmed39 T'.vm := State.Warmed39.trans (t := s.setVm vm) X.hZ hS2.1
  have hf2 : T'.vm.findClass own = some m.cls := by rw [hS2.1.alike.findClass]; exact X.hown
  exact F_tr stp (k T' v ⟨⟨q0.1, q0.2.1, q0.2.2.1, q0.2.2.2.1, q0.2.2.2.2.1, hf2, q0.2.2.2.2.2.2.1, hW2⟩, ⟨⟨_, foldS hS hk hS2 hgr, Nat.le_refl _⟩, ⟨a1, hE1⟩, hC0.trans hC1⟩, _, Y', Fr.app N hQ.1, hQ.2.1⟩ hQ.2.2 (fun x hx hs => hC1.safe hx hs))

theorem F_interfaceB (X : Ww l Z R bytes mL ret own nm p e s m args below meth c vm T cells slots) {y : MethodName} {ix : Nat} {Q' : Option Value → Heap → Prop} {argsL : List Value} {Q2 : Option Value → Heap → List Loc → Prop} {rC rS : Nat} {a : Addr} {z : MethodName} {D : String} {ct : Nat} (hd : decode bytes pc = .ok (.invokeinterface ix ct, 5)) (w1 : (Jvm.Cond.methodLink own ix y).before a0 Z = true) (w2 : (Jvm.Cond.declares y).before a0 Z = true) (w5 : (Jvm.Cond.selects D y z).before a0 Z = true) (w6 : (Jvm.Cond.instanceMethod z).before a0 Z = true) (w7 : (Jvm.Cond.interfaceMethod y.cls y.cls y.name y.desc).before a0 Z = true) (hif : ((Jvm.Cond.interfaceMethod y.cls y.cls y.name y.desc).onTables && (Jvm.Cond.interfaceMethod y.cls y.cls y.name y.desc).keepsFace) = true) (w8 : (Jvm.Cond.publicMethod z).before a0 Z = true) (w9 : (Jvm.Cond.unhidden D y.name y.desc).before a0 Z = true) (wc : (Jvm.Cond.castable D y.cls).before a0 Z = true) (hy : y.cls ≠ "java/lang/invoke/MethodHandle" ∧ y.cls ≠ "java/lang/invoke/VarHandle") (E : Exa Z T.heap a D) {st0 : List Value} (hst : st0 = argsL.reverse ++ .ref a :: st) (hK : Back l R p e below (s.setVm vm) args z 5 ((st.map fun v => v.category).sum) (fun A aa => aa = (.ref a :: argsL).toArray ∧ A.U.heap = T.heap ∧ A.cells + rC ≤ R.cells ∧ A.slots + rS ≤ R.slots) (fun A _ v B => ∃ L, Q2 v B.U.heap L ∧ B.locs = A.locs ++ L ∧ B.cells = A.cells + rC ∧ B.slots = A.slots + rS)) (hQ2 : ∀ v h L, Q2 v h L → Fr Z.heap.size L ∧ Ext Z.heap h ∧ Q' v h) (hlen : ∀ sig, parseMethodDescriptor y.desc = some sig → argsL.length = sig.parameters.length) (hsz : Ls.size = mL) (hcl : cells + rC ≤ R.cells) (hsl : slots + rS ≤ R.slots) (ws : List Addr) (hkp : ∀ v h, Q' v h → Keep T.heap h ws) (hsf : ∀ x ∈ ws, Safe Z EL vm T.heap x) {pc' : Nat} (hp : pc + 5 = pc')
    (k : ∀ (T' : State) (v : Option Value), Ww l Z R bytes mL ret own nm p e s m args below meth c vm T' (cells + rC) (slots + rS) → Q' v T'.heap → EndW p e below s Z Q cC cS T' (mkF m pc' Ls (v.toList ++ st))) : EndW p e below s Z Q cC cS T (mkF m pc Ls st0) := by
  subst hp hst; obtain ⟨q0, qq, locs, Y, N, Od⟩ := id X
  obtain ⟨cq, kq, qa, qb, qc⟩ := isOf (s := s.setVm vm) X.hZ rfl E
  obtain ⟨v, _, ⟨T', L1, k1, n1⟩, -, Y', ⟨Lc, hQ, l1, y1, z1⟩, stp⟩ := Y.interfaceBack X.hx (xi := y) (y := z) X.hown (mvT X.hZ w1) (mvT X.hZ w2) (mvT X.hZ w7 hif) (mvT X.hZ w5) (mvT X.hZ w6) (mvT X.hZ w8) (mvT X.hZ w9) (mvT X.hZ wc) hy hK qa qb qc (g := mkF m pc Ls (argsL.reverse ++ .ref a :: st)) rfl (X.size hsz) (Steps.refl _) (argsL := argsL) (rest := st) hlen rfl (by show 2 * 0 + _ ≤ _; omega) (X.hb hd) (fun _ _ => ⟨rfl, rfl, hcl, hsl⟩)
  dsimp only [Pt.U, Pt.locs, Pt.cells, Pt.slots] at Y' l1 y1 z1 stp hQ
  subst l1 y1 z1
  obtain ⟨f1, f2, f3⟩ := hQ2 _ _ _ hQ
  exact F_tr stp (k T' v (X.go2 Y' (Fr.app N f1) f2 (hkp _ _ f3) hsf) f3)

theorem F_interface (X : Ww l Z R bytes mL ret own nm p e s m args below meth c vm T cells slots) {y : MethodName} {ix : Nat} {bytes' : ByteArray} {mL' : Nat} {ret' : Option FieldType} {Q' : Option Value → Heap → Prop} {argsL : List Value} {rm : Room} {a : Addr} {z : MethodName} {D : String} {ct : Nat} (hd : decode bytes pc = .ok (.invokeinterface ix ct, 5)) (w1 : (Jvm.Cond.methodLink own ix y).before a0 Z = true) (w2 : (Jvm.Cond.declares y).before a0 Z = true) (w5 : (Jvm.Cond.selects D y z).before a0 Z = true) (w6 : (Jvm.Cond.instanceMethod z).before a0 Z = true) (w7 : (Jvm.Cond.interfaceMethod y.cls y.cls y.name y.desc).before a0 Z = true) (hif : ((Jvm.Cond.interfaceMethod y.cls y.cls y.name y.desc).onTables && (Jvm.Cond.interfaceMethod y.cls y.cls y.name y.desc).keepsFace) = true) (w8 : (Jvm.Cond.publicMethod z).before a0 Z = true) (w9 : (Jvm.Cond.unhidden D y.name y.desc).before a0 Z = true) (wc : (Jvm.Cond.castable D y.cls).before a0 Z = true) (hy : y.cls ≠ "java/lang/invoke/MethodHandle" ∧ y.cls ≠ "java/lang/invoke/VarHandle") (E : Exa Z T.heap a D) (w3 : (Jvm.Cond.initialized z.cls).before a0 Z = true) (w4 : (Jvm.Cond.code z bytes' mL' ret').before a0 Z = true) {st0 : List Value} (hst : st0 = argsL.reverse ++ .ref a :: st) (hC : Ct l Z z bytes' mL' ret' rm (.ref a :: argsL).toArray T.heap Q') (hlen : ∀ sig, parseMethodDescriptor y.desc = some sig → argsL.length = sig.parameters.length) (hsz : Ls.size = mL) (hcl : cells + rm.cells ≤ R.cells) (hsl : slots + rm.slots ≤ R.slots) (hfr : rm.frames + 1 ≤ R.frames) (hlo : (st.map fun v => v.category).sum + (mL' + 11) + rm.locals ≤ R.locals) (ws : List Addr) (hkp : ∀ v h, Q' v h → Keep T.heap h ws) (hsf : ∀ x ∈ ws, Safe Z EL vm T.heap x) {pc' : Nat} (hp : pc + 5 = pc')
    (k : ∀ (T' : State) (v : Option Value), Ww l Z R bytes mL ret own nm p e s m args below meth c vm T' (cells + rm.cells) (slots + rm.slots) → Q' v T'.heap → EndW p e below s Z Q cC cS T' (mkF m pc' Ls (v.toList ++ st))) : EndW p e below s Z Q cC cS T (mkF m pc Ls st0) :=
  F_interfaceB X hd w1 w2 w5 w6 w7 hif w8 w9 wc hy E hst (hC.back X.hZ w4 w3 hfr hlo) (fun _ _ _ q => q) hlen hsz hcl hsl ws hkp hsf hp k

theorem G_interface (X : Ww l Z R bytes mL ret own nm p e s m args below meth c vm T cells slots) {y : MethodName} {ix : Nat} {bytes' : ByteArray} {mL' : Nat} {ret' : Option FieldType} {Q' : Option Value → Heap → Prop} {argsL : List Value} {rm : Room} {a : Addr} {z : MethodName} {D : String} {ct : Nat} (hd : decode bytes pc = .ok (.invokeinterface ix ct, 5)) (w1 : (Jvm.Cond.methodLink own ix y).before a0 Z = true) (w2 : (Jvm.Cond.declares y).before a0 Z = true) (w5 : (Jvm.Cond.selects D y z).before a0 Z = true) (w6 : (Jvm.Cond.instanceMethod z).before a0 Z = true) (w7 : (Jvm.Cond.interfaceMethod y.cls y.cls y.name y.desc).before a0 Z = true) (hif : ((Jvm.Cond.interfaceMethod y.cls y.cls y.name y.desc).onTables && (Jvm.Cond.interfaceMethod y.cls y.cls y.name y.desc).keepsFace) = true) (w8 : (Jvm.Cond.publicMethod z).before a0 Z = true) (w9 : (Jvm.Cond.unhidden D y.name y.desc).before a0 Z = true) (wc : (Jvm.Cond.castable D y.cls).before a0 Z = true) (hy : y.cls ≠ "java/lang/invoke/MethodHandle" ∧ y.cls ≠ "java/lang/invoke/VarHandle") (E : Exa Z T.heap a D) (w3 : (Jvm.Cond.initialized z.cls).before a0 Z = true) (w4 : (Jvm.Cond.code z bytes' mL' ret').before a0 Z = true) {st0 : List Value} (hst : st0 = argsL.reverse ++ .ref a :: st) (hC : CtW l Z z bytes' mL' ret' rm (.ref a :: argsL).toArray T.heap Q') (hlen : ∀ sig, parseMethodDescriptor y.desc = some sig → argsL.length = sig.parameters.length) (hsz : Ls.size = mL) (hcl : cells + rm.cells ≤ R.cells) (hsl : slots + rm.slots ≤ R.slots) (hfr : rm.frames + 1 ≤ R.frames) (hlo : (st.map fun v => v.category).sum + (mL' + 11) + rm.locals ≤ R.locals) {pc' : Nat} (hp : pc + 5 = pc')
    (k : ∀ (T' : State) (v : Option Value), Ww l Z R bytes mL ret own nm p e s m args below meth c T'.vm T' (cells + rm.cells) (slots + rm.slots) → Q' v T'.heap → (∀ x, x < T.heap.size → Safe Z EL vm T.heap x → Safe Z EL T'.vm T'.heap x) → EndW p e below s Z Q cC cS T' (mkF m pc' Ls (v.toList ++ st))) : EndW p e below s Z Q cC cS T (mkF m pc Ls st0) := by
  subst hp hst; obtain ⟨q0, ⟨⟨k0, hS, hk⟩, ⟨a1, hE1⟩, hC0⟩, locs, Y, N, Od⟩ := id X
  obtain ⟨cq, kq, qa, qb, qc⟩ := isOf (s := s.setVm vm) X.hZ rfl E
  obtain ⟨v, _, ⟨T', L1, k1, n1⟩, -, Y', hS2, hgr, ⟨Lc, hQ, l1, y1, z1, hC1⟩, stp⟩ := Y.interfaceBackS X.hx (xi := y) (y := z) X.hown (mvT (s := s.setVm vm) X.hZ w1) (mvT (s := s.setVm vm) X.hZ w2) (mvT (s := s.setVm vm) X.hZ w7 hif) (mvT (s := s.setVm vm) X.hZ w5) (mvT (s := s.setVm vm) X.hZ w6) (mvT (s := s.setVm vm) X.hZ w8) (mvT (s := s.setVm vm) X.hZ w9) (mvT (s := s.setVm vm) X.hZ wc) hy (hC.back X.hZ w4 w3 hfr hlo hE1 X.ch) qa qb qc (g := mkF m pc Ls (argsL.reverse ++ .ref a :: st)) rfl (X.size hsz) (Steps.refl _) (argsL := argsL) (rest := st) hlen rfl (by show 2 * 0 + _ ≤ _; omega) (X.hb hd) (fun _ _ => ⟨rfl, rfl, hcl, hsl⟩)
  dsimp only [Pt.U, Pt.locs, Pt.cells, Pt.slots] at Y' l1 y1 z1 stp hQ hS2 hgr hC1
  subst l1 y1 z1
  have hW2 : Z.Warmed39 T'.vm := State.Warmed39.trans (t := s.setVm vm) X.hZ hS2.1
  have hf2 : T'.vm.findClass own = some m.cls := by rw [hS2.1.alike.findClass]; exact X.hown
  exact F_tr stp (k T' v ⟨⟨q0.1, q0.2.1, q0.2.2.1, q0.2.2.2.1, q0.2.2.2.2.1, hf2, q0.2.2.2.2.2.2.1, hW2⟩, ⟨⟨_, foldS hS hk hS2 hgr, Nat.le_refl _⟩, ⟨a1, hE1⟩, hC0.trans hC1⟩, _, Y', Fr.app N hQ.1, hQ.2.1⟩ hQ.2.2 (fun x hx hs => hC1.safe hx hs))

theorem Ww.out (X : Ww l Z R bytes mL ret own nm p e s m args below meth c vm T cells slots) {v : Option Value} (hv : ret = none → v = none) (hQ : Q v T.heap) (h1 : cells ≤ cC) (h2 : slots ≤ cS) (hs : ∀ fs, (∀ (f : JFrame) (acts : List Action), f.method = m → f.locked = none → f.entered = [] → (doReturn e (T.setTop f) acts v).1 = T.setFrames fs) → Steps p.tables e below (T.setTop g) (T.setFrames fs)) : EndW p e below s Z Q cC cS T g := by
  obtain ⟨q0, ⟨⟨k0, hS, hk⟩, ⟨a1, hE1⟩, hC0⟩, locs, Y, N, Od⟩ := id X
  obtain ⟨fs, hr, hrun, hended, hW⟩ := Y.leaveW hS hk (v := v) (fun h => hv (q0.2.2.2.1.symm.trans h)) q0.2.2.2.2.1
  exact ⟨_, _, hs fs hr, hrun, hended, _, _, rfl, ⟨N, Od, hQ⟩, (hC0.trans (CHv.at (T := T) Y X.hZ hE1 X.ch) : CHr Z EL s.vm s.heap T.vm T.heap), hW.1, hW.2.1, hW.2.2.1, hW.2.2.2.mono h1 h2⟩
theorem F_return (X : Ww l Z R bytes mL ret own nm p e s m args below meth c vm T cells slots) (hd : decode bytes pc = .ok (.return_, 1)) (hret : ret = none) (h1 : cells ≤ cC) (h2 : slots ≤ cS) (hQ : Q none T.heap) : EndW p e below s Z Q cC cS T (mkF m pc Ls []) := by
  refine X.out (v := none) (fun _ => rfl) hQ h1 h2 fun fs hr => ?_
  obtain ⟨q0, qq, locs, Y, N, Od⟩ := id X
  exact Y.returnOut X.hx (q0.2.2.2.1.trans hret) (X.hb hd) hr
theorem F_ireturnI (X : Ww l Z R bytes mL ret own nm p e s m args below meth c vm T cells slots) {z : Int32} (hd : decode bytes pc = .ok (.ireturn, 1)) (hret : ret = some .int) (h1 : cells ≤ cC) (h2 : slots ≤ cS) (hQ : Q (some (.int z)) T.heap) : EndW p e below s Z Q cC cS T (mkF m pc Ls (.int z :: st)) := by
  refine X.out (v := some (.int z)) (fun h => by rw [hret] at h; cases h) hQ h1 h2 fun fs hr => ?_
  obtain ⟨q0, qq, locs, Y, N, Od⟩ := id X
  exact retOut Y X.hx (q0.2.2.2.1.trans hret) rfl (Or.inl ⟨rfl, Or.inl rfl, z, rfl⟩) (X.hb hd) hr
theorem F_ireturnN (X : Ww l Z R bytes mL ret own nm p e s m args below meth c vm T cells slots) {z : Int32} {t : FieldType} (hd : decode bytes pc = .ok (.ireturn, 1)) (hret : ret = some t) (ht : t = .boolean ∨ t = .byte ∨ t = .char ∨ t = .short) (h1 : cells ≤ cC) (h2 : slots ≤ cS) (hQ : Q (some (.int (nar t z))) T.heap) : EndW p e below s Z Q cC cS T (mkF m pc Ls (.int z :: st)) := by
  refine X.out (v := some (.int (nar t z))) (fun h => by rw [hret] at h; cases h) hQ h1 h2 fun fs hr => ?_
  obtain ⟨q0, qq, locs, Y, N, Od⟩ := id X
  exact retN Y X.hx (q0.2.2.2.1.trans hret) ht (X.hb hd) hr
theorem F_areturn (X : Ww l Z R bytes mL ret own nm p e s m args below meth c vm T cells slots) {v : Value} {t : FieldType} (hd : decode bytes pc = .ok (.areturn, 1)) (hret : ret = some t) (ht : t.isReference = true) (hv : v.isRef = true) (hn : narrow t v = v) (h1 : cells ≤ cC) (h2 : slots ≤ cS) (hQ : Q (some v) T.heap) : EndW p e below s Z Q cC cS T (mkF m pc Ls (v :: st)) := by
  refine X.out (v := some v) (fun h => by rw [hret] at h; cases h) hQ h1 h2 fun fs hr => ?_
  obtain ⟨q0, qq, locs, Y, N, Od⟩ := id X
  exact retOut Y X.hx (q0.2.2.2.1.trans hret) hn (Or.inr (Or.inr (Or.inr (Or.inr ⟨rfl, ht, hv⟩)))) (X.hb hd) hr
end OwnW
theorem pd_0 : parseMethodDescriptor "()B" = some ⟨[], some .byte⟩ := by decide +kernel
theorem pd_1 : parseMethodDescriptor "([CI[BII)I" = some ⟨[(.array .char), .int, (.array .byte), .int, .int], some .int⟩ := by decide +kernel
theorem pd_2 : parseMethodDescriptor "([CII)[B" = some ⟨[(.array .char), .int, .int], some (.array .byte)⟩ := by decide +kernel
theorem pd_3 : parseMethodDescriptor "([BI)B" = some ⟨[(.array .byte), .int], some .byte⟩ := by decide +kernel
theorem pd_4 : parseMethodDescriptor "([CIILjava/lang/Void;)V" = some ⟨[(.array .char), .int, .int, (.object "java/lang/Void")], none⟩ := by decide +kernel
theorem pd_5 : parseMethodDescriptor "()V" = some ⟨[], none⟩ := by decide +kernel
theorem pd_6 : parseMethodDescriptor "(I)Z" = some ⟨[.int], some .boolean⟩ := by decide +kernel
theorem pd_7 : parseMethodDescriptor "(II)I" = some ⟨[.int, .int], some .int⟩ := by decide +kernel
theorem pd_8 : parseMethodDescriptor "([BIII)I" = some ⟨[(.array .byte), .int, .int, .int], some .int⟩ := by decide +kernel
theorem pd_9 : parseMethodDescriptor "()Z" = some ⟨[], some .boolean⟩ := by decide +kernel
theorem pd_10 : parseMethodDescriptor "()I" = some ⟨[], some .int⟩ := by decide +kernel
theorem pd_11 : parseMethodDescriptor "(II)V" = some ⟨[.int, .int], none⟩ := by decide +kernel
theorem pd_12 : parseMethodDescriptor "(Ljava/lang/String;Lcom/example/semblance/semblance/QueryTokens$Position;)I" = some ⟨[(.object "java/lang/String"), (.object "com/example/semblance/semblance/QueryTokens$Position")], some .int⟩ := by decide +kernel
theorem pd_13 : parseMethodDescriptor "(CCCCII)I" = some ⟨[.char, .char, .char, .char, .int, .int], some .int⟩ := by decide +kernel
theorem pd_14 : parseMethodDescriptor "(III)C" = some ⟨[.int, .int, .int], some .char⟩ := by decide +kernel
theorem pd_15 : parseMethodDescriptor "([C)V" = some ⟨[(.array .char)], none⟩ := by decide +kernel
theorem o_int {n : Nat} (h : n < 2147483648) : (Int32.ofNat n).toInt = n := by
  have := Int32.toInt_ofNat_of_lt (n := n) (by omega); simpa using this
theorem o_cl {n : Nat} (h : n < 2147483648) : (Int32.ofNat n).toNatClampNeg = n := by
  simp [Int32.toNatClampNeg, o_int h]
theorem o_nn {n : Nat} (h : n < 2147483648) : ¬ Int32.ofNat n < 0 := by
  rw [Int32.lt_iff_toInt_lt, o_int h]; show ¬ (n : Int) < 0; omega
theorem o_lt {i n : Nat} (hi : i < n) (h : n < 2147483648) : Int32.ofNat i < Int32.ofNat n := by
  rw [Int32.lt_iff_toInt_lt, o_int h, o_int (by omega)]; omega
theorem o_nlt {i n : Nat} (hi : n ≤ i) (h : i < 2147483648) : ¬ Int32.ofNat i < Int32.ofNat n := by
  rw [Int32.lt_iff_toInt_lt, o_int h, o_int (by omega)]; omega
theorem o_add {i : Nat} : Int32.ofNat i + (1 : Int32) = Int32.ofNat (i + 1) := by
  rw [Int32.ofNat_add]; rfl
theorem o_two {i : Nat} (h : 2 * i < 2147483648) : Int32.ofNat i <<< ((1 : Int32) &&& 31) = Int32.ofNat (2 * i) := by
  apply Int32.toInt_inj.mp
  have e := c_ishl (Int32.ofNat i) 1 1 (by decide)
  have r := rng32 (Int32.ofNat i <<< ((1 : Int32) &&& 31))
  rw [o_int (by omega)] at e
  rw [o_int h]
  omega
theorem o_half {i : Nat} (h : 2 * i < 2147483648) : Int32.ofNat (2 * i) >>> ((1 : Int32) &&& 31) = Int32.ofNat i := by
  apply Int32.toInt_inj.mp
  have e := c_ishr (Int32.ofNat (2 * i)) 1 1 (by decide)
  rw [o_int h] at e
  rw [o_int (by omega), e]
  omega
theorem o_zero (N : Int32) : N >>> ((0 : Int32) &&& 31) = N := by
  apply Int32.toInt_inj.mp
  have e := c_ishr N 0 0 (by decide)
  rw [e]; simp
theorem o_i2c {c : Int32} (h1 : ¬ c < 0) (h2 : ¬ 65535 < c) : c.toUInt32.toUInt16.toUInt32.toInt32 = c := by
  apply Int32.toInt_inj.mp
  have e := c_i2c c
  rw [Int32.lt_iff_toInt_lt] at h1 h2
  have o1 : (0 : Int32).toInt = 0 := rfl
  have o2 : (65535 : Int32).toInt = 65535 := rfl
  omega
theorem o_nar {c : Int32} (h1 : ¬ c < 0) (h2 : ¬ 65535 < c) : nar .char c = c := o_i2c h1 h2
theorem o_lat {c : Int32} (h1 : ¬ c < 0) (h2 : ¬ 255 < c) : nar .char ((c.toInt8.toInt32 &&& (255 : Int32)).toUInt32.toUInt16.toUInt32.toInt32) = c := by
  have o1 : (0 : Int32).toInt = 0 := rfl
  have o2 : (255 : Int32).toInt = 255 := rfl
  have o3 : (65535 : Int32).toInt = 65535 := rfl
  rw [Int32.lt_iff_toInt_lt] at h1 h2
  have e : c.toInt8.toInt32 &&& (255 : Int32) = c := by
    apply Int32.toInt_inj.mp
    have e1 := c_mask c.toInt8.toInt32 255 8 (by decide) (by decide)
    have e2 := c_i2b c
    rw [e1]; omega
  rw [e, o_i2c, o_nar] <;> (rw [Int32.lt_iff_toInt_lt]; omega)
theorem o_u16 {c : Int32} (h1 : ¬ c < 0) (h2 : ¬ 65535 < c) : nar .char ((((c >>> ((0 : Int32) &&& 31)).toInt8.toInt32 &&& (255 : Int32)) <<< ((0 : Int32) &&& 31) ||| ((c >>> ((8 : Int32) &&& 31)).toInt8.toInt32 &&& (255 : Int32)) <<< ((8 : Int32) &&& 31)).toUInt32.toUInt16.toUInt32.toInt32) = c := by
  have o1 : (0 : Int32).toInt = 0 := rfl
  have o2 : (255 : Int32).toInt = 255 := rfl
  have o3 : (65535 : Int32).toInt = 65535 := rfl
  rw [Int32.lt_iff_toInt_lt] at h1 h2
  have a0 : c >>> ((0 : Int32) &&& 31) = c := o_zero c
  have a1 := c_ishr c 8 8 (by decide)
  rw [a0]
  generalize c >>> ((8 : Int32) &&& 31) = d at *
  have b1 := c_mask c.toInt8.toInt32 255 8 (by decide) (by decide)
  have b2 := c_i2b c
  have b3 := c_mask d.toInt8.toInt32 255 8 (by decide) (by decide)
  have b4 := c_i2b d
  generalize c.toInt8.toInt32 &&& (255 : Int32) = x at *
  generalize d.toInt8.toInt32 &&& (255 : Int32) = y at *
  have d1 := c_ishl x 0 0 (by decide)
  have d2 := c_ishl y 8 8 (by decide)
  have r1 := rng32 (x <<< ((0 : Int32) &&& 31))
  have r2 := rng32 (y <<< ((8 : Int32) &&& 31))
  generalize x <<< ((0 : Int32) &&& 31) = u at *
  generalize y <<< ((8 : Int32) &&& 31) = w at *
  have f := c_or' u w 8 (by decide) 256 rfl (by omega) (by omega) (by omega)
  have r3 := rng32 (u ||| w)
  have e : u ||| w = c := by
    apply Int32.toInt_inj.mp
    omega
  rw [e, o_i2c, o_nar] <;> (rw [Int32.lt_iff_toInt_lt]; omega)
theorem o_b8 (c : Int32) : c.toInt8.toInt32.toInt8.toInt32 = c.toInt8.toInt32 := by simp
theorem o_ltc {n : Nat} (h : n ≤ 4000) : Int32.ofNat n < (1073741823 : Int32) := by
  rw [Int32.lt_iff_toInt_lt, o_int (by omega)]; show (n : Int) < 1073741823; omega
theorem o_cfl {n : Nat} (h : 0 < n) (h2 : n ≤ 4000) : nar .byte ((((Int32.ofNat n - Int32.ofNat (2 * n)).toUInt32 >>> ((31 : Int32) &&& 31).toUInt32).toInt32).toInt8.toInt32) = 1 := by
  have e := c_isub (Int32.ofNat n) (Int32.ofNat (2 * n))
  rw [o_int (by omega), o_int (by omega)] at e
  have r := rng32 (Int32.ofNat n - Int32.ofNat (2 * n))
  have f := c_iushr (Int32.ofNat n - Int32.ofNat (2 * n)) 31 31 (by decide) (by decide)
  have g : ((Int32.ofNat n - Int32.ofNat (2 * n)).toUInt32 >>> ((31 : Int32) &&& 31).toUInt32).toInt32 = 1 := by
    apply Int32.toInt_inj.mp
    rw [f]; show _ = (1 : Int); omega
  rw [g]; rfl

def Sts (Z : State) (G1 : Int32) (G3 : Value) : Prop := Sta Z Z.heap "java/lang/String" "COMPACT_STRINGS" "Z" (.int G1) ∧ ¬ G1 = 0 ∧ Sta Z Z.heap "jdk/internal/util/Preconditions" "SIOOBE_FORMATTER" "Ljava/util/function/BiFunction;" G3 ∧ G3.isRef = true
theorem Sts.ref {Z : State} {G1 : Int32} {G3 : Value} (h : Sts Z G1 G3) : G3.isRef = true := h.2.2.2
def lo8 (c : Int32) : Value := .int c.toInt8.toInt32
def u16 (cs : List Int32) : List Value := cs.flatMap fun c => [.int (c >>> ((0 : Int32) &&& 31)).toInt8.toInt32, .int (c >>> ((8 : Int32) &&& 31)).toInt8.toInt32]
def Cod (cs : List Int32) (cd N : Int32) (vs : List Value) : Prop := (cd = 0 ∧ N = Int32.ofNat cs.length ∧ vs = cs.map lo8 ∧ ∀ c ∈ cs, ¬ (255 : Int32) < c)
/-- the String x holds the chars cs; its array is t -/
def OStr (Z : State) (h : Heap) (x t : Addr) (cs : List Int32) : Prop := ∃ (kb : ClassId) (cd N : Int32) (vs : List Value), Exa Z h x "java/lang/String" ∧ Fld Z h x "java/lang/String" "value" "[B" (.ref t) ∧ Fld Z h x "java/lang/String" "coder" "B" (.int cd) ∧ Arv Z h t kb .byte N vs (.int (0 : Int32)) ∧ Cod cs cd N vs ∧ (∀ c ∈ cs, ¬ c < 0 ∧ ¬ (65535 : Int32) < c) ∧ cs.length ≤ 4000
theorem OStr.exa {Z : State} {h : Heap} {x t : Addr} {cs : List Int32} (S : OStr Z h x t cs) : Exa Z h x "java/lang/String" := by obtain ⟨_, _, _, _, E, -⟩ := S; exact E
theorem OStr.fval {Z : State} {h : Heap} {x t : Addr} {cs : List Int32} (S : OStr Z h x t cs) : Fld Z h x "java/lang/String" "value" "[B" (.ref t) := by obtain ⟨_, _, _, _, _, F, -⟩ := S; exact F
theorem OStr.fcod {Z : State} {h : Heap} {x t : Addr} {cs : List Int32} (S : OStr Z h x t cs) : Fld Z h x "java/lang/String" "coder" "B" (.int 0) := by obtain ⟨_, _, _, _, _, _, C, _, ⟨rfl, -⟩, -⟩ := S; exact C
theorem OStr.lt {Z : State} {h : Heap} {x t : Addr} {cs : List Int32} (S : OStr Z h x t cs) : x < h.size := S.exa.lt
theorem OStr.ltv {Z : State} {h : Heap} {x t : Addr} {cs : List Int32} (S : OStr Z h x t cs) : t < h.size := by obtain ⟨_, _, _, _, _, _, _, V, -⟩ := S; exact V.lt
theorem OStr.keep {Z : State} {h h' : Heap} {ws : List Addr} {x t : Addr} {cs : List Int32} (S : OStr Z h x t cs) (K : Keep h h' ws) (h1 : x ∉ ws) (h2 : t ∉ ws) : OStr Z h' x t cs := by
  obtain ⟨kb, cd, N, vs, E, F, G, V, r⟩ := S; exact ⟨kb, cd, N, vs, E.keep K, F.keep K h1, G.keep K h1, V.keep K h2, r⟩
theorem own_lit {Z : State} {h : Heap} {a b : Addr} {kb : ClassId} {cs : List Int32} (E : Exa Z h a "java/lang/String") (F : Fld Z h a "java/lang/String" "value" "[B" (.ref b)) (C : Fld Z h a "java/lang/String" "coder" "B" (.int 0)) (V : Arv Z h b kb .byte (Int32.ofNat cs.length) (cs.map lo8) (.int 0)) (hb : ∀ c ∈ cs, ¬ c < 0 ∧ ¬ (255 : Int32) < c) (hl : cs.length ≤ 4000) : OStr Z h a b cs :=
  ⟨kb, 0, _, _, E, F, C, V, ⟨rfl, rfl, rfl, fun c hc => (hb c hc).2⟩, fun c hc => ⟨(hb c hc).1, fun q => (hb c hc).2 (Int32.lt_trans (by decide) q)⟩, hl⟩
theorem Fld.inj {Z : State} {h : Heap} {a : Addr} {C n d : String} {v w : Value} (F : Fld Z h a C n d v) (G : Fld Z h a C n d w) : v = w := by
  by_cases q : v = w
  · exact q
  · exact absurd rfl (F.ne G q)
theorem lo8_inj {c d : Int32} (h1 : ¬ c < 0) (h2 : ¬ (255 : Int32) < c) (h3 : ¬ d < 0) (h4 : ¬ (255 : Int32) < d) (e : c.toInt8.toInt32 = d.toInt8.toInt32) : c = d := by
  have a := c_i2b c; have b := c_i2b d
  rw [e] at a
  simp only [Int32.lt_iff_toInt_lt, Int32.reduceToInt] at h1 h2 h3 h4
  apply Int32.toInt_inj.mp; omega
theorem own_ext {cs ds : List Int32} (hl : cs.length = ds.length) (h : ∀ i, i < cs.length → cs.getD i 0 = ds.getD i 0) : cs = ds := by
  apply List.ext_getElem hl
  intro i h1 h2
  have q := h i h1
  simpa [List.getD_eq_getElem?_getD, h1, h2] using q
theorem own_getD {cs : List Int32} {i : Nat} (f : Int32 → Value) {d : Value} (h : i < cs.length) (hn : cs.length ≤ 4000) : (cs.map f).getD (Int32.ofNat i).toNatClampNeg d = f (cs.getD i 0) := by
  rw [o_cl (by omega)]; simp [List.getD_eq_getElem?_getD, h]
theorem own_mem {cs : List Int32} {i : Nat} (h : i < cs.length) : cs.getD i 0 ∈ cs := by simp [List.getD_eq_getElem?_getD, h]
theorem own_take {cs : List Int32} {i : Nat} (f : Int32 → Value) (h : i < cs.length) : (cs.take (i + 1)).map f = (cs.take i).map f ++ [f (cs.getD i 0)] := by
  rw [List.take_add_one, List.map_append]; congr 1; simp [List.getD_eq_getElem?_getD, h]
theorem own_all {P : Int32 → Prop} {cs : List Int32} {i : Nat} {ch : Int32} (h : i < cs.length) (hch : ch = cs.getD i 0) (hall : ∀ c ∈ cs.take i, P c) (hc : P ch) : ∀ c ∈ cs.take (i + 1), P c := by
  intro c hc2
  rw [List.take_add_one] at hc2
  rcases List.mem_append.mp hc2 with hc2 | hc2
  · exact hall c hc2
  · have : c = ch := by rw [hch]; simp [List.getD_eq_getElem?_getD, h] at hc2 ⊢; exact hc2
    rw [this]; exact hc
theorem own_tl {cs : List Int32} {i : Nat} (f : Int32 → Value) (h : i ≤ cs.length) : ((cs.take i).map f).length = i := by simp; omega
theorem Cod.cd8 {cs : List Int32} {cd N : Int32} {vs : List Value} (h : Cod cs cd N vs) : nar .byte cd = cd := by obtain ⟨rfl, -⟩ := h; rfl
theorem Cod.len {cs : List Int32} {cd N : Int32} {vs : List Value} (h : Cod cs cd N vs) (hl : cs.length ≤ 4000) : N >>> (cd &&& 31) = Int32.ofNat cs.length := by obtain ⟨rfl, rfl, -⟩ := h; exact o_zero _
theorem Cod.n0 {cs : List Int32} {cd N : Int32} {vs : List Value} (h : Cod cs cd N vs) (hl : cs.length ≤ 4000) : N = 0 ↔ cs.length = 0 := by
  have e : ∀ n : Nat, n < 2147483648 → (Int32.ofNat n = 0 ↔ n = 0) := fun n hn => by
    rw [← Int32.toInt_inj, o_int hn]; show ((n : Int) = 0) ↔ _; omega
  obtain ⟨-, rfl, -⟩ := h; exact e _ (by omega)

theorem lit_0 : (∀ c ∈ "".toList, c.toNat < 256) ∧ "".toList.map (fun c => Value.int (Jvm.Lit.byteI c.toNat.toUInt16)) = ([] : List Int32).map lo8 := ⟨by decide +kernel, by rfl⟩
theorem d_cod_0 : decode jdk_42_method_152_code 0 = .ok (.getstatic 38, 3) := by decide +kernel
theorem d_cod_3 : decode jdk_42_method_152_code 3 = .ok (.ifCond .eq 10, 3) := by decide +kernel
theorem d_cod_6 : decode jdk_42_method_152_code 6 = .ok (.aload_n 0, 1) := by decide +kernel
theorem d_cod_7 : decode jdk_42_method_152_code 7 = .ok (.getfield 15, 3) := by decide +kernel
theorem d_cod_10 : decode jdk_42_method_152_code 10 = .ok (.goto 4, 3) := by decide +kernel
theorem d_cod_14 : decode jdk_42_method_152_code 14 = .ok (.ireturn, 1) := by decide +kernel
abbrev rm_cod : Room := ({ frames := 0, cells := 0, slots := 0, locals := 0 } : Room)
def Q_cod (Z : State) (x : Addr) (cd : Int32) (h0 : Heap) (v : Option Value) (h : Heap) : Prop := v = some (.int cd) ∧ h = h0
set_option maxRecDepth 65536 in
set_option maxHeartbeats 40000000 in
theorem ct_cod (l : Launch) (Z : State) (a0 : Array Value) (hw : ∀ d ∈ tables_1, d.before a0 Z = true) (G1 : Int32) (G3 : Value) (OS : Sts Z G1 G3) (hEL : EW Z a0 EL) (hSA : ∀ a ∈ Bundle.stringAtoms, a.before a0 Z = true) (x : Addr) (cd : Int32) {h0 : Heap} (O : Ext Z.heap h0) (C0 : Fld Z h0 x "java/lang/String" "coder" "B" (.int cd)) (hcd : nar .byte cd = cd) : Ct l Z (⟨"java/lang/String", "coder", "()B"⟩ : MethodName) jdk_42_method_152_code 1 (some .byte) rm_cod #[(.ref x)] h0 (Q_cod Z x cd h0) := by
  refine Ct.of_body (Ls := #[.val (.ref x)]) (by decide +kernel) O (fun m => by first | rfl | (simp [entryFrame, mkF, argsToLocals, Value.category]; done) | (rcases ref_cases (Sts.ref OS) with rfl | ⟨r, rfl⟩ <;> rfl)) ?_
  intro p e s m below meth c T0 X0 e0
  subst e0
  refine E_getstatic X0 d_cod_0 (hw _ (List.mem_of_getElem? (i := 62) rfl)) Via.refl OS.1 (pc' := 3) rfl ?_
  intro T1 X2 e3
  rw [← e3] at C0
  refine E_ifF X2 d_cod_3 (XT.i0_eq_f OS.2.1) (pc' := 6) rfl ?_
  refine E_aloadN X2 d_cod_6 rfl rfl (pc' := 7) rfl ?_
  refine E_getfield X2 d_cod_7 (hw _ (List.mem_of_getElem? (i := 26) rfl)) Via.refl C0 (pc' := 10) rfl ?_
  intro T4 X5 e6
  rw [← e6] at C0
  refine E_goto X5 d_cod_10 (pc' := 14) (by decide) rfl ?_
  exact E_ireturnN X5 (t := .byte) d_cod_14 rfl (by simp) (by decide) (by decide) (⟨by rw [hcd], (e6.trans e3)⟩)
theorem d_lat_0 : decode jdk_42_method_154_code 0 = .ok (.getstatic 38, 3) := by decide +kernel
theorem d_lat_3 : decode jdk_42_method_154_code 3 = .ok (.ifCond .eq 14, 3) := by decide +kernel
theorem d_lat_6 : decode jdk_42_method_154_code 6 = .ok (.aload_n 0, 1) := by decide +kernel
theorem d_lat_7 : decode jdk_42_method_154_code 7 = .ok (.getfield 15, 3) := by decide +kernel
theorem d_lat_10 : decode jdk_42_method_154_code 10 = .ok (.ifCond .ne 7, 3) := by decide +kernel
theorem d_lat_13 : decode jdk_42_method_154_code 13 = .ok (.iconst 1, 1) := by decide +kernel
theorem d_lat_14 : decode jdk_42_method_154_code 14 = .ok (.goto 4, 3) := by decide +kernel
theorem d_lat_17 : decode jdk_42_method_154_code 17 = .ok (.iconst 0, 1) := by decide +kernel
theorem d_lat_18 : decode jdk_42_method_154_code 18 = .ok (.ireturn, 1) := by decide +kernel
abbrev rm_lat : Room := ({ frames := 0, cells := 0, slots := 0, locals := 0 } : Room)
def Q_lat (Z : State) (x : Addr) (cd : Int32) (h0 : Heap) (v : Option Value) (h : Heap) : Prop := ∃ z, v = some (.int z) ∧ h = h0 ∧ (cd = 0 → z = 1) ∧ (¬ cd = 0 → z = 0)
set_option maxRecDepth 65536 in
set_option maxHeartbeats 40000000 in
theorem ct_lat (l : Launch) (Z : State) (a0 : Array Value) (hw : ∀ d ∈ tables_1, d.before a0 Z = true) (G1 : Int32) (G3 : Value) (OS : Sts Z G1 G3) (hEL : EW Z a0 EL) (hSA : ∀ a ∈ Bundle.stringAtoms, a.before a0 Z = true) (x : Addr) (cd : Int32) {h0 : Heap} (O : Ext Z.heap h0) (C0 : Fld Z h0 x "java/lang/String" "coder" "B" (.int cd)) : Ct l Z (⟨"java/lang/String", "isLatin1", "()Z"⟩ : MethodName) jdk_42_method_154_code 1 (some .boolean) rm_lat #[(.ref x)] h0 (Q_lat Z x cd h0) := by
  refine Ct.of_body (Ls := #[.val (.ref x)]) (by decide +kernel) O (fun m => by first | rfl | (simp [entryFrame, mkF, argsToLocals, Value.category]; done) | (rcases ref_cases (Sts.ref OS) with rfl | ⟨r, rfl⟩ <;> rfl)) ?_
  intro p e s m below meth c T0 X0 e0
  subst e0
  refine E_getstatic X0 d_lat_0 (hw _ (List.mem_of_getElem? (i := 62) rfl)) Via.refl OS.1 (pc' := 3) rfl ?_
  intro T1 X2 e3
  rw [← e3] at C0
  refine E_ifF X2 d_lat_3 (XT.i0_eq_f OS.2.1) (pc' := 6) rfl ?_
  refine E_aloadN X2 d_lat_6 rfl rfl (pc' := 7) rfl ?_
  refine E_getfield X2 d_lat_7 (hw _ (List.mem_of_getElem? (i := 26) rfl)) Via.refl C0 (pc' := 10) rfl ?_
  intro T4 X5 e6
  rw [← e6] at C0
  by_cases hc : cd = 0
  · skip
    refine E_ifF X5 d_lat_10 (XT.i0_ne_f hc) (pc' := 13) rfl ?_
    refine E_iconst X5 (v := (1 : Int32)) d_lat_13 rfl (pc' := 14) rfl ?_
    refine E_goto X5 d_lat_14 (pc' := 18) (by decide) rfl ?_
    exact E_ireturnN X5 (t := .boolean) d_lat_18 rfl (by simp) (by decide) (by decide) (⟨_, rfl, (e6.trans e3), fun _ => rfl, fun q => absurd hc q⟩)
  · skip
    refine E_ifT X5 d_lat_10 (XT.i0_ne_t hc) (pc' := 17) (by decide) rfl ?_
    refine E_iconst X5 (v := (0 : Int32)) d_lat_17 rfl (pc' := 18) rfl ?_
    exact E_ireturnN X5 (t := .boolean) d_lat_18 rfl (by simp) (by decide) (by decide) (⟨_, rfl, (e6.trans e3), fun q => absurd q hc, fun _ => rfl⟩)
theorem d_slen_0 : decode jdk_42_method_54_code 0 = .ok (.aload_n 0, 1) := by decide +kernel
theorem d_slen_1 : decode jdk_42_method_54_code 1 = .ok (.getfield 9, 3) := by decide +kernel
theorem d_slen_4 : decode jdk_42_method_54_code 4 = .ok (.arraylength, 1) := by decide +kernel
theorem d_slen_5 : decode jdk_42_method_54_code 5 = .ok (.aload_n 0, 1) := by decide +kernel
theorem d_slen_6 : decode jdk_42_method_54_code 6 = .ok (.invokevirtual 335, 3) := by decide +kernel
theorem d_slen_9 : decode jdk_42_method_54_code 9 = .ok (.ishr, 1) := by decide +kernel
theorem d_slen_10 : decode jdk_42_method_54_code 10 = .ok (.ireturn, 1) := by decide +kernel
abbrev rm_slen : Room := ({ frames := 1, cells := 0, slots := 0, locals := 13 } : Room)
def Q_slen (Z : State) (x t : Addr) (cs : List Int32) (h0 : Heap) (v : Option Value) (h : Heap) : Prop := v = some (.int (Int32.ofNat cs.length)) ∧ h = h0
set_option maxRecDepth 65536 in
set_option maxHeartbeats 40000000 in
theorem ct_slen (l : Launch) (Z : State) (a0 : Array Value) (hw : ∀ d ∈ tables_1, d.before a0 Z = true) (G1 : Int32) (G3 : Value) (OS : Sts Z G1 G3) (hEL : EW Z a0 EL) (hSA : ∀ a ∈ Bundle.stringAtoms, a.before a0 Z = true) (x t : Addr) (cs : List Int32) {h0 : Heap} (O : Ext Z.heap h0) (S0 : OStr Z h0 x t cs) : Ct l Z (⟨"java/lang/String", "length", "()I"⟩ : MethodName) jdk_42_method_54_code 1 (some .int) rm_slen #[(.ref x)] h0 (Q_slen Z x t cs h0) := by
  refine Ct.of_body (Ls := #[.val (.ref x)]) (by decide +kernel) O (fun m => by first | rfl | (simp [entryFrame, mkF, argsToLocals, Value.category]; done) | (rcases ref_cases (Sts.ref OS) with rfl | ⟨r, rfl⟩ <;> rfl)) ?_
  intro p e s m below meth c T0 X0 e0
  subst e0
  obtain ⟨kb, cd, N, vs, E0, F0, C0, V0, hcod, hpc, hlen⟩ := S0
  refine E_aloadN X0 d_slen_0 rfl rfl (pc' := 1) rfl ?_
  refine E_getfield X0 d_slen_1 (hw _ (List.mem_of_getElem? (i := 25) rfl)) Via.refl F0 (pc' := 4) rfl ?_
  intro T1 X2 e3
  rw [← e3] at E0 F0 C0 V0
  refine E_arraylength X2 d_slen_4 V0 (pc' := 5) rfl ?_
  refine E_aloadN X2 d_slen_5 rfl rfl (pc' := 6) rfl ?_
  refine E_virtual X2 (rm := rm_cod) (a := x) (D := "java/lang/String") d_slen_6 (hw _ (List.mem_of_getElem? (i := 68) rfl)) (hw _ (List.mem_of_getElem? (i := 69) rfl)) (hw _ (List.mem_of_getElem? (i := 71) rfl)) (hw _ (List.mem_of_getElem? (i := 70) rfl)) (notFace_of_selects (args := #[]) (mvT X2.hZ (hw _ (List.mem_of_getElem? (i := 71) rfl)))) (by decide) E0 (hw _ (List.mem_of_getElem? (i := 8) rfl)) (hw _ (List.mem_of_getElem? (i := 72) rfl)) (argsL := []) (st := [(.int N)]) rfl (ct_cod l Z a0 hw G1 G3 OS hEL hSA x cd X2.old C0 hcod.cd8) (lenOf (pd_0) rfl) rfl (by decide) (by decide) (by decide) (Nat.le_of_ble_eq_true rfl)  (pc' := 9) rfl ?_
  intro T4 _ X5 hQ6
  obtain ⟨rfl, e7⟩ := hQ6
  rw [← e7] at E0 F0 C0 V0
  show Ends p e below s Z _ _ _ T4 (mkF m 9 #[.val (.ref x)] [(.int cd), (.int N)])
  refine E_ishr X5 (v := (Int32.ofNat cs.length)) d_slen_9 (hcod.len hlen) (pc' := 10) rfl ?_
  exact E_ireturnI X5 d_slen_10 rfl (by decide) (by decide) (⟨rfl, (e7.trans e3)⟩)
theorem d_compress5_0 : decode jdk_52_method_21_code 0 = .ok (.iconst 0, 1) := by decide +kernel
theorem d_compress5_1 : decode jdk_52_method_21_code 1 = .ok (.istore 5, 2) := by decide +kernel
theorem d_compress5_3 : decode jdk_52_method_21_code 3 = .ok (.iload 5, 2) := by decide +kernel
theorem d_compress5_5 : decode jdk_52_method_21_code 5 = .ok (.iload 4, 2) := by decide +kernel
theorem d_compress5_7 : decode jdk_52_method_21_code 7 = .ok (.if_icmp .ge 37, 3) := by decide +kernel
theorem d_compress5_10 : decode jdk_52_method_21_code 10 = .ok (.aload_n 0, 1) := by decide +kernel
theorem d_compress5_11 : decode jdk_52_method_21_code 11 = .ok (.iload_n 1, 1) := by decide +kernel
theorem d_compress5_12 : decode jdk_52_method_21_code 12 = .ok (.caload, 1) := by decide +kernel
theorem d_compress5_13 : decode jdk_52_method_21_code 13 = .ok (.istore 6, 2) := by decide +kernel
theorem d_compress5_15 : decode jdk_52_method_21_code 15 = .ok (.iload 6, 2) := by decide +kernel
theorem d_compress5_17 : decode jdk_52_method_21_code 17 = .ok (.sipush 255, 3) := by decide +kernel
theorem d_compress5_20 : decode jdk_52_method_21_code 20 = .ok (.if_icmp .le 6, 3) := by decide +kernel
theorem d_compress5_23 : decode jdk_52_method_21_code 23 = .ok (.iload 5, 2) := by decide +kernel
theorem d_compress5_25 : decode jdk_52_method_21_code 25 = .ok (.ireturn, 1) := by decide +kernel
theorem d_compress5_26 : decode jdk_52_method_21_code 26 = .ok (.aload_n 2, 1) := by decide +kernel
theorem d_compress5_27 : decode jdk_52_method_21_code 27 = .ok (.iload_n 3, 1) := by decide +kernel
theorem d_compress5_28 : decode jdk_52_method_21_code 28 = .ok (.iload 6, 2) := by decide +kernel
theorem d_compress5_30 : decode jdk_52_method_21_code 30 = .ok (.i2b, 1) := by decide +kernel
theorem d_compress5_31 : decode jdk_52_method_21_code 31 = .ok (.bastore, 1) := by decide +kernel
theorem d_compress5_32 : decode jdk_52_method_21_code 32 = .ok (.iinc 1 1, 3) := by decide +kernel
theorem d_compress5_35 : decode jdk_52_method_21_code 35 = .ok (.iinc 3 1, 3) := by decide +kernel
theorem d_compress5_38 : decode jdk_52_method_21_code 38 = .ok (.iinc 5 1, 3) := by decide +kernel
theorem d_compress5_41 : decode jdk_52_method_21_code 41 = .ok (.goto (-38), 3) := by decide +kernel
theorem d_compress5_44 : decode jdk_52_method_21_code 44 = .ok (.iload 4, 2) := by decide +kernel
theorem d_compress5_46 : decode jdk_52_method_21_code 46 = .ok (.ireturn, 1) := by decide +kernel
abbrev rm_compress5 : Room := ({ frames := 0, cells := 0, slots := 0, locals := 0 } : Room)
def Q_compress5 (Z : State) (b t : Addr) (kC kb : ClassId) (cs : List Int32) (dv : Value) (h0 : Heap) (v : Option Value) (h : Heap) : Prop := Keep h0 h [t] ∧ ((v = some (.int (Int32.ofNat cs.length)) ∧ (∀ c ∈ cs, ¬ (255 : Int32) < c) ∧ Arv Z h t kb .byte (Int32.ofNat cs.length) (cs.map lo8) (.int (0 : Int32))) ∨ (∃ j, j < cs.length ∧ v = some (.int (Int32.ofNat j)) ∧ (255 : Int32) < cs.getD j 0))
set_option maxRecDepth 65536 in
set_option maxHeartbeats 40000000 in
theorem lp_compress5 (l : Launch) (Z : State) (a0 : Array Value) (hw : ∀ d ∈ tables_1, d.before a0 Z = true) (G1 : Int32) (G3 : Value) (OS : Sts Z G1 G3) (hEL : EW Z a0 EL) (hSA : ∀ a ∈ Bundle.stringAtoms, a.before a0 Z = true) (b t : Addr) (kC kb : ClassId) (cs : List Int32) (dv : Value) {h0 : Heap} {p : Program} {e : Env} {s : State} {m : MethodId} {below : List Frame} {meth : Method} {c : Code} (k : Nat) : ∀ {T0 : State} (i : Nat) (o : Slot), Wk l Z rm_compress5 jdk_52_method_21_code 7 (some .int) "java/lang/StringUTF16" "compress" p e s m #[(.ref b), (.int (0 : Int32)), (.ref t), (.int (0 : Int32)), (.int (Int32.ofNat cs.length))] below meth c T0 0 0 → (i + k = cs.length) → (o = .unset ∨ ∃ w, o = .val w ∧ w.category = 1) → (cs.length ≤ 4000) → (Arv Z T0.heap b kC .char (Int32.ofNat cs.length) (cs.map Value.int) dv) → (Arv Z T0.heap t kb .byte (Int32.ofNat cs.length) ((cs.take i).map lo8) (.int (0 : Int32))) → (b ≠ t) → (Z.heap.size ≤ t) → (Keep h0 T0.heap [t]) → (∀ c ∈ cs.take i, ¬ (255 : Int32) < c) → Ends p e below s Z (Q_compress5 Z b t kC kb cs dv h0) rm_compress5.cells rm_compress5.slots T0 (mkF m 3 #[.val (.ref b), .val (.int (Int32.ofNat i)), .val (.ref t), .val (.int (Int32.ofNat i)), .val (.int (Int32.ofNat cs.length)), .val (.int (Int32.ofNat i)), o] []) := by
  induction k with
  | zero =>
    intro T0 i o X0 hi hone hlen V0 D0 hbt gt K00 hall
    have hik : i = cs.length := by omega
    subst hik
    rw [List.take_length] at hall
    rw [List.take_length] at D0
    refine E_iload X0 d_compress5_3 rfl (pc' := 5) rfl ?_
    refine E_iload X0 d_compress5_5 rfl (pc' := 7) rfl ?_
    refine E_icT X0 d_compress5_7 (XT.ii_ge_t (o_nlt (Nat.le_refl _) (by omega))) (pc' := 44) (by decide) rfl ?_
    refine E_iload X0 d_compress5_44 rfl (pc' := 46) rfl ?_
    exact E_ireturnI X0 d_compress5_46 rfl (by decide) (by decide) (⟨K00, Or.inl ⟨rfl, hall, D0⟩⟩)
  | succ k ih =>
    intro T0 i o X0 hi hone hlen V0 D0 hbt gt K00 hall
    have hlt : i < cs.length := by omega
    obtain ⟨ch, hch⟩ : ∃ c, c = cs.getD i 0 := ⟨_, rfl⟩
    refine E_iload X0 d_compress5_3 rfl (pc' := 5) rfl ?_
    refine E_iload X0 d_compress5_5 rfl (pc' := 7) rfl ?_
    refine E_icF X0 d_compress5_7 (XT.ii_ge_f (o_lt hlt (by omega))) (pc' := 10) rfl ?_
    refine E_aloadN X0 d_compress5_10 rfl rfl (pc' := 11) rfl ?_
    refine E_iloadN X0 d_compress5_11 rfl (pc' := 12) rfl ?_
    refine E_caload X0 (v := (.int ch)) d_compress5_12 V0 ⟨o_nn (by omega), o_lt hlt (by omega)⟩ (by rw [own_getD Value.int hlt hlen, hch]) (pc' := 13) rfl ?_
    refine E_istore X0 d_compress5_13 (l' := #[.val (.ref b), .val (.int (Int32.ofNat i)), .val (.ref t), .val (.int (Int32.ofNat i)), .val (.int (Int32.ofNat cs.length)), .val (.int (Int32.ofNat i)), .val (.int ch)]) (XS.store1 rfl hone rfl) (pc' := 15) rfl ?_
    refine E_iload X0 d_compress5_15 rfl (pc' := 17) rfl ?_
    refine E_sipush X0 (v := (255 : Int32)) d_compress5_17 rfl (pc' := 20) rfl ?_
    by_cases hc : (255 : Int32) < ch
    · skip
      refine E_icF X0 d_compress5_20 (XT.ii_le_f hc) (pc' := 23) rfl ?_
      refine E_iload X0 d_compress5_23 rfl (pc' := 25) rfl ?_
      exact E_ireturnI X0 d_compress5_25 rfl (by decide) (by decide) (⟨K00, Or.inr ⟨i, hlt, rfl, hch ▸ hc⟩⟩)
    · skip
      refine E_icT X0 d_compress5_20 (XT.ii_le_t hc) (pc' := 26) (by decide) rfl ?_
      refine E_aloadN X0 d_compress5_26 rfl rfl (pc' := 27) rfl ?_
      refine E_iloadN X0 d_compress5_27 rfl (pc' := 28) rfl ?_
      refine E_iload X0 d_compress5_28 rfl (pc' := 30) rfl ?_
      refine E_i2b X0 d_compress5_30 rfl (pc' := 31) rfl ?_
      refine E_bastoreA X0 (y := (ch).toInt8.toInt32) d_compress5_31 (o_b8 _) D0 ⟨o_nn (by omega), o_lt hlt (by omega)⟩ (by rw [o_cl (by omega), own_tl lo8 (by omega)]) gt (pc' := 32) rfl ?_
      intro T1 X2 K3 V4
      have KK5 := K00.trans K3 (allS (Or.inl (by simp)) (fun x q => nomatch q))
      have Arv_6 := V0.keep K3 (ninS hbt nin0)
      have V7 : Arv Z T1.heap t kb .byte (Int32.ofNat cs.length) ((cs.take i).map lo8 ++ [lo8 ch]) (.int (0 : Int32)) := V4
      refine E_iinc X2 (y := (Int32.ofNat (i + 1))) d_compress5_32 o_add rfl (l' := #[.val (.ref b), .val (.int (Int32.ofNat (i + 1))), .val (.ref t), .val (.int (Int32.ofNat i)), .val (.int (Int32.ofNat cs.length)), .val (.int (Int32.ofNat i)), .val (.int ch)]) rfl (pc' := 35) rfl ?_
      refine E_iinc X2 (y := (Int32.ofNat (i + 1))) d_compress5_35 o_add rfl (l' := #[.val (.ref b), .val (.int (Int32.ofNat (i + 1))), .val (.ref t), .val (.int (Int32.ofNat (i + 1))), .val (.int (Int32.ofNat cs.length)), .val (.int (Int32.ofNat i)), .val (.int ch)]) rfl (pc' := 38) rfl ?_
      refine E_iinc X2 (y := (Int32.ofNat (i + 1))) d_compress5_38 o_add rfl (l' := #[.val (.ref b), .val (.int (Int32.ofNat (i + 1))), .val (.ref t), .val (.int (Int32.ofNat (i + 1))), .val (.int (Int32.ofNat cs.length)), .val (.int (Int32.ofNat (i + 1))), .val (.int ch)]) rfl (pc' := 41) rfl ?_
      refine E_goto X2 d_compress5_41 (pc' := 3) (by decide) rfl ?_
      have hV2 : Arv Z T1.heap t kb .byte (Int32.ofNat cs.length) ((cs.take (i + 1)).map lo8) (.int (0 : Int32)) := by rw [own_take lo8 hlt, ← hch]; exact V7
      have hall2 := own_all hlt hch hall hc
      exact ih (i + 1) (.val (.int ch)) X2 (by omega) (Or.inr ⟨_, rfl, rfl⟩) hlen Arv_6 hV2 hbt gt KK5 hall2
set_option maxRecDepth 65536 in
set_option maxHeartbeats 40000000 in
theorem ct_compress5 (l : Launch) (Z : State) (a0 : Array Value) (hw : ∀ d ∈ tables_1, d.before a0 Z = true) (G1 : Int32) (G3 : Value) (OS : Sts Z G1 G3) (hEL : EW Z a0 EL) (hSA : ∀ a ∈ Bundle.stringAtoms, a.before a0 Z = true) (b t : Addr) (kC kb : ClassId) (cs : List Int32) (dv : Value) {h0 : Heap} (O : Ext Z.heap h0) (hlen : cs.length ≤ 4000) (V0 : Arv Z h0 b kC .char (Int32.ofNat cs.length) (cs.map Value.int) dv) (D0 : Arv Z h0 t kb .byte (Int32.ofNat cs.length) ([]) (.int (0 : Int32))) (hbt : b ≠ t) (gt : Z.heap.size ≤ t) : Ct l Z (⟨"java/lang/StringUTF16", "compress", "([CI[BII)I"⟩ : MethodName) jdk_52_method_21_code 7 (some .int) rm_compress5 #[(.ref b), (.int (0 : Int32)), (.ref t), (.int (0 : Int32)), (.int (Int32.ofNat cs.length))] h0 (Q_compress5 Z b t kC kb cs dv h0) := by
  refine Ct.of_body (Ls := #[.val (.ref b), .val (.int (0 : Int32)), .val (.ref t), .val (.int (0 : Int32)), .val (.int (Int32.ofNat cs.length)), .unset, .unset]) (by decide +kernel) O (fun m => by first | rfl | (simp [entryFrame, mkF, argsToLocals, Value.category]; done) | (rcases ref_cases (Sts.ref OS) with rfl | ⟨r, rfl⟩ <;> rfl)) ?_
  intro p e s m below meth c T0 X0 e0
  subst e0
  refine E_iconst X0 (v := (0 : Int32)) d_compress5_0 rfl (pc' := 1) rfl ?_
  refine E_istore X0 d_compress5_1 (l' := #[.val (.ref b), .val (.int (0 : Int32)), .val (.ref t), .val (.int (0 : Int32)), .val (.int (Int32.ofNat cs.length)), .val (.int (0 : Int32)), .unset]) rfl (pc' := 3) rfl ?_
  exact lp_compress5 l Z a0 hw G1 G3 OS hEL hSA b t kC kb cs dv cs.length 0 .unset X0 (by omega) (Or.inl rfl) hlen V0 D0 hbt gt (Keep.refl _ _) (fun c hc => by simp at hc)
theorem d_cfl_0 : decode jdk_52_method_15_code 0 = .ok (.iload_n 1, 1) := by decide +kernel
theorem d_cfl_1 : decode jdk_52_method_15_code 1 = .ok (.aload_n 0, 1) := by decide +kernel
theorem d_cfl_2 : decode jdk_52_method_15_code 2 = .ok (.arraylength, 1) := by decide +kernel
theorem d_cfl_3 : decode jdk_52_method_15_code 3 = .ok (.isub, 1) := by decide +kernel
theorem d_cfl_4 : decode jdk_52_method_15_code 4 = .ok (.bipush 31, 2) := by decide +kernel
theorem d_cfl_6 : decode jdk_52_method_15_code 6 = .ok (.iushr, 1) := by decide +kernel
theorem d_cfl_7 : decode jdk_52_method_15_code 7 = .ok (.i2b, 1) := by decide +kernel
theorem d_cfl_8 : decode jdk_52_method_15_code 8 = .ok (.ireturn, 1) := by decide +kernel
abbrev rm_cfl : Room := ({ frames := 0, cells := 0, slots := 0, locals := 0 } : Room)
def Q_cfl (Z : State) (t : Addr) (kb : ClassId) (N n z : Int32) (vs : List Value) (h0 : Heap) (v : Option Value) (h : Heap) : Prop := v = some (.int z) ∧ h = h0
set_option maxRecDepth 65536 in
set_option maxHeartbeats 40000000 in
theorem ct_cfl (l : Launch) (Z : State) (a0 : Array Value) (hw : ∀ d ∈ tables_1, d.before a0 Z = true) (G1 : Int32) (G3 : Value) (OS : Sts Z G1 G3) (hEL : EW Z a0 EL) (hSA : ∀ a ∈ Bundle.stringAtoms, a.before a0 Z = true) (t : Addr) (kb : ClassId) (N n z : Int32) (vs : List Value) {h0 : Heap} (O : Ext Z.heap h0) (V0 : Arv Z h0 t kb .byte N vs (.int (0 : Int32))) (hz : nar .byte ((((n - N).toUInt32 >>> ((31 : Int32) &&& 31).toUInt32).toInt32).toInt8.toInt32) = z) : Ct l Z (⟨"java/lang/StringUTF16", "coderFromArrayLen", "([BI)B"⟩ : MethodName) jdk_52_method_15_code 2 (some .byte) rm_cfl #[(.ref t), (.int n)] h0 (Q_cfl Z t kb N n z vs h0) := by
  refine Ct.of_body (Ls := #[.val (.ref t), .val (.int n)]) (by decide +kernel) O (fun m => by first | rfl | (simp [entryFrame, mkF, argsToLocals, Value.category]; done) | (rcases ref_cases (Sts.ref OS) with rfl | ⟨r, rfl⟩ <;> rfl)) ?_
  intro p e s m below meth c T0 X0 e0
  subst e0
  refine E_iloadN X0 d_cfl_0 rfl (pc' := 1) rfl ?_
  refine E_aloadN X0 d_cfl_1 rfl rfl (pc' := 2) rfl ?_
  refine E_arraylength X0 d_cfl_2 V0 (pc' := 3) rfl ?_
  refine E_isub X0 d_cfl_3 rfl (pc' := 4) rfl ?_
  refine E_bipush X0 (v := (31 : Int32)) d_cfl_4 rfl (pc' := 6) rfl ?_
  refine E_iushr X0 d_cfl_6 rfl (pc' := 7) rfl ?_
  refine E_i2b X0 d_cfl_7 rfl (pc' := 8) rfl ?_
  exact E_ireturnN X0 (t := .byte) d_cfl_8 rfl (by simp) (by decide) (by decide) (⟨by rw [hz], rfl⟩)
theorem d_compress3_0 : decode jdk_52_method_16_code 0 = .ok (.iload_n 2, 1) := by decide +kernel
theorem d_compress3_1 : decode jdk_52_method_16_code 1 = .ok (.newarray .byte, 2) := by decide +kernel
theorem d_compress3_3 : decode jdk_52_method_16_code 3 = .ok (.astore_n 3, 1) := by decide +kernel
theorem d_compress3_4 : decode jdk_52_method_16_code 4 = .ok (.aload_n 0, 1) := by decide +kernel
theorem d_compress3_5 : decode jdk_52_method_16_code 5 = .ok (.iload_n 1, 1) := by decide +kernel
theorem d_compress3_6 : decode jdk_52_method_16_code 6 = .ok (.aload_n 3, 1) := by decide +kernel
theorem d_compress3_7 : decode jdk_52_method_16_code 7 = .ok (.iconst 0, 1) := by decide +kernel
theorem d_compress3_8 : decode jdk_52_method_16_code 8 = .ok (.iload_n 2, 1) := by decide +kernel
theorem d_compress3_9 : decode jdk_52_method_16_code 9 = .ok (.invokestatic 115, 3) := by decide +kernel
theorem d_compress3_12 : decode jdk_52_method_16_code 12 = .ok (.istore 4, 2) := by decide +kernel
theorem d_compress3_14 : decode jdk_52_method_16_code 14 = .ok (.iload 4, 2) := by decide +kernel
theorem d_compress3_16 : decode jdk_52_method_16_code 16 = .ok (.iload_n 2, 1) := by decide +kernel
theorem d_compress3_17 : decode jdk_52_method_16_code 17 = .ok (.if_icmp .eq 40, 3) := by decide +kernel
theorem d_compress3_57 : decode jdk_52_method_16_code 57 = .ok (.aload_n 3, 1) := by decide +kernel
theorem d_compress3_58 : decode jdk_52_method_16_code 58 = .ok (.areturn, 1) := by decide +kernel
abbrev rm_compress3 : Room := ({ frames := 1, cells := 1, slots := 4, locals := 18 } : Room)
def Q_compress3 (Z : State) (b : Addr) (kC : ClassId) (cs : List Int32) (dv : Value) (h0 : Heap) (v : Option Value) (h : Heap) : Prop := ∃ t kb, v = some (.ref t) ∧ Keep h0 h [] ∧ h0.size ≤ t ∧ ((∀ c ∈ cs, ¬ (255 : Int32) < c) ∧ Arv Z h t kb .byte (Int32.ofNat cs.length) (cs.map lo8) (.int (0 : Int32)))
set_option maxRecDepth 65536 in
set_option maxHeartbeats 40000000 in
theorem ct_compress3 (l : Launch) (Z : State) (a0 : Array Value) (hw : ∀ d ∈ tables_1, d.before a0 Z = true) (G1 : Int32) (G3 : Value) (OS : Sts Z G1 G3) (hEL : EW Z a0 EL) (hSA : ∀ a ∈ Bundle.stringAtoms, a.before a0 Z = true) (b : Addr) (kC : ClassId) (cs : List Int32) (dv : Value) {h0 : Heap} (O : Ext Z.heap h0) (hmx : cs.length ≤ 4) (hmx4 : cs.length ≤ 4000) (hp : ∀ c ∈ cs, ¬ (255 : Int32) < c) (V0 : Arv Z h0 b kC .char (Int32.ofNat cs.length) (cs.map Value.int) dv) : Ct l Z (⟨"java/lang/StringUTF16", "compress", "([CII)[B"⟩ : MethodName) jdk_52_method_16_code 6 (some (.array .byte)) rm_compress3 #[(.ref b), (.int (0 : Int32)), (.int (Int32.ofNat cs.length))] h0 (Q_compress3 Z b kC cs dv h0) := by
  refine Ct.of_body (Ls := #[.val (.ref b), .val (.int (0 : Int32)), .val (.int (Int32.ofNat cs.length)), .unset, .unset, .unset]) (by decide +kernel) O (fun m => by first | rfl | (simp [entryFrame, mkF, argsToLocals, Value.category]; done) | (rcases ref_cases (Sts.ref OS) with rfl | ⟨r, rfl⟩ <;> rfl)) ?_
  intro p e s m below meth c T0 X0 e0
  subst e0
  have K00 := Keep.refl T0.heap []
  refine E_iloadN X0 d_compress3_0 rfl (pc' := 1) rfl ?_
  refine E_newarray X0 4 d_compress3_1 (hw _ (List.mem_of_getElem? (i := 20) rfl)) (o_nn (by omega)) (by rw [o_cl (by omega)]; exact hmx) (by decide) (by decide) (by decide) (pc' := 3) rfl ?_
  intro T1 b3 k7 X2 hb4 K5 V6
  have sz8 : T0.heap.size ≤ b3 := Nat.le_trans K00.1 (Nat.le_of_eq hb4.symm)
  have ne9 : b ≠ b3 := Nat.ne_of_lt (Nat.lt_of_lt_of_eq V0.lt hb4.symm)
  have KK10 := K00.trans K5 (fun x q => nomatch q)
  have Arv_11 := V0.keep K5 nin0
  have g12 : Z.heap.size ≤ b3 := Nat.le_trans X0.le (Nat.le_of_eq hb4.symm)
  have V13 : Arv Z T1.heap b3 k7 .byte (Int32.ofNat cs.length) [] (.int (0 : Int32)) := V6
  refine E_astoreN X2 d_compress3_3 rfl (l' := #[.val (.ref b), .val (.int (0 : Int32)), .val (.int (Int32.ofNat cs.length)), .val (.ref b3), .unset, .unset]) rfl (pc' := 4) rfl ?_
  refine E_aloadN X2 d_compress3_4 rfl rfl (pc' := 5) rfl ?_
  refine E_iloadN X2 d_compress3_5 rfl (pc' := 6) rfl ?_
  refine E_aloadN X2 d_compress3_6 rfl rfl (pc' := 7) rfl ?_
  refine E_iconst X2 (v := (0 : Int32)) d_compress3_7 rfl (pc' := 8) rfl ?_
  refine E_iloadN X2 d_compress3_8 rfl (pc' := 9) rfl ?_
  refine E_static X2 (rm := rm_compress5) d_compress3_9 (hw _ (List.mem_of_getElem? (i := 94) rfl)) (hw _ (List.mem_of_getElem? (i := 95) rfl)) (hw _ (List.mem_of_getElem? (i := 92) rfl)) (hw _ (List.mem_of_getElem? (i := 96) rfl)) (by decide) (argsL := [(.ref b), (.int (0 : Int32)), (.ref b3), (.int (0 : Int32)), (.int (Int32.ofNat cs.length))]) (st := []) rfl (ct_compress5 l Z a0 hw G1 G3 OS hEL hSA b b3 kC k7 cs dv X2.old hmx4 Arv_11 V13 ne9 g12) (lenOf (pd_1) rfl) rfl (by decide) (by decide) (by decide) (Nat.le_of_ble_eq_true rfl)  (pc' := 12) rfl ?_
  intro T14 _ X15 hQ16
  obtain ⟨K17, hor⟩ := hQ16
  have KK18 := KK10.trans K17 (allS (Or.inr sz8) (fun x q => nomatch q))
  have Arv_19 := Arv_11.keep K17 (ninS ne9 nin0)
  rcases hor with ⟨rfl, hall, VB⟩ | ⟨j, hj, rfl, hbig⟩
  · skip
    show Ends p e below s Z _ _ _ T14 (mkF m 12 #[.val (.ref b), .val (.int (0 : Int32)), .val (.int (Int32.ofNat cs.length)), .val (.ref b3), .unset, .unset] [(.int (Int32.ofNat cs.length))])
    refine E_istore X15 d_compress3_12 (l' := #[.val (.ref b), .val (.int (0 : Int32)), .val (.int (Int32.ofNat cs.length)), .val (.ref b3), .val (.int (Int32.ofNat cs.length)), .unset]) rfl (pc' := 14) rfl ?_
    refine E_iload X15 d_compress3_14 rfl (pc' := 16) rfl ?_
    refine E_iloadN X15 d_compress3_16 rfl (pc' := 17) rfl ?_
    refine E_icT X15 d_compress3_17 (XT.ii_eq_t rfl) (pc' := 57) (by decide) rfl ?_
    refine E_aloadN X15 d_compress3_57 rfl rfl (pc' := 58) rfl ?_
    exact E_areturn X15 (t := (.array .byte)) d_compress3_58 rfl rfl rfl rfl (by decide) (by decide) (⟨b3, k7, rfl, KK18, sz8, ⟨hall, VB⟩⟩)
  · skip
    exact absurd hbig (hp _ (own_mem hj))
theorem d_init4_0 : decode jdk_42_method_149_code 0 = .ok (.aload_n 0, 1) := by decide +kernel
theorem d_init4_1 : decode jdk_42_method_149_code 1 = .ok (.invokespecial 1, 3) := by decide +kernel
theorem d_init4_4 : decode jdk_42_method_149_code 4 = .ok (.iload_n 3, 1) := by decide +kernel
theorem d_init4_5 : decode jdk_42_method_149_code 5 = .ok (.ifCond .ne 22, 3) := by decide +kernel
theorem d_init4_27 : decode jdk_42_method_149_code 27 = .ok (.getstatic 38, 3) := by decide +kernel
theorem d_init4_30 : decode jdk_42_method_149_code 30 = .ok (.ifCond .eq 28, 3) := by decide +kernel
theorem d_init4_33 : decode jdk_42_method_149_code 33 = .ok (.aload_n 1, 1) := by decide +kernel
theorem d_init4_34 : decode jdk_42_method_149_code 34 = .ok (.iload_n 2, 1) := by decide +kernel
theorem d_init4_35 : decode jdk_42_method_149_code 35 = .ok (.iload_n 3, 1) := by decide +kernel
theorem d_init4_36 : decode jdk_42_method_149_code 36 = .ok (.invokestatic 177, 3) := by decide +kernel
theorem d_init4_39 : decode jdk_42_method_149_code 39 = .ok (.astore 5, 2) := by decide +kernel
theorem d_init4_41 : decode jdk_42_method_149_code 41 = .ok (.aload_n 0, 1) := by decide +kernel
theorem d_init4_42 : decode jdk_42_method_149_code 42 = .ok (.aload 5, 2) := by decide +kernel
theorem d_init4_44 : decode jdk_42_method_149_code 44 = .ok (.iload_n 3, 1) := by decide +kernel
theorem d_init4_45 : decode jdk_42_method_149_code 45 = .ok (.invokestatic 47, 3) := by decide +kernel
theorem d_init4_48 : decode jdk_42_method_149_code 48 = .ok (.putfield 15, 3) := by decide +kernel
theorem d_init4_51 : decode jdk_42_method_149_code 51 = .ok (.aload_n 0, 1) := by decide +kernel
theorem d_init4_52 : decode jdk_42_method_149_code 52 = .ok (.aload 5, 2) := by decide +kernel
theorem d_init4_54 : decode jdk_42_method_149_code 54 = .ok (.putfield 9, 3) := by decide +kernel
theorem d_init4_57 : decode jdk_42_method_149_code 57 = .ok (.return_, 1) := by decide +kernel
abbrev rm_init4 : Room := ({ frames := 2, cells := 1, slots := 4, locals := 35 } : Room)
def Q_init4 (Z : State) (x b : Addr) (kC : ClassId) (cs : List Int32) (dv v0 c0 : Value) (h0 : Heap) (v : Option Value) (h : Heap) : Prop := v = none ∧ Keep h0 h [x] ∧ ∃ t, h0.size ≤ t ∧ OStr Z h x t cs
set_option maxRecDepth 65536 in
set_option maxHeartbeats 40000000 in
theorem ct_init4 (l : Launch) (Z : State) (a0 : Array Value) (hw : ∀ d ∈ tables_1, d.before a0 Z = true) (G1 : Int32) (G3 : Value) (OS : Sts Z G1 G3) (hEL : EW Z a0 EL) (hSA : ∀ a ∈ Bundle.stringAtoms, a.before a0 Z = true) (x b : Addr) (kC : ClassId) (cs : List Int32) (dv v0 c0 : Value) {h0 : Heap} (O : Ext Z.heap h0) (h0l : 0 < cs.length) (hmx : cs.length ≤ 4) (hp : ∀ c ∈ cs, ¬ c < 0 ∧ ¬ (255 : Int32) < c) (E0 : Exa Z h0 x "java/lang/String") (F0 : Fld Z h0 x "java/lang/String" "value" "[B" v0) (C0 : Fld Z h0 x "java/lang/String" "coder" "B" c0) (gx : Z.heap.size ≤ x) (V0 : Arv Z h0 b kC .char (Int32.ofNat cs.length) (cs.map Value.int) dv) : Ct l Z (⟨"java/lang/String", "<init>", "([CIILjava/lang/Void;)V"⟩ : MethodName) jdk_42_method_149_code 6 none rm_init4 #[(.ref x), (.ref b), (.int (0 : Int32)), (.int (Int32.ofNat cs.length)), .null] h0 (Q_init4 Z x b kC cs dv v0 c0 h0) := by
  refine Ct.of_body (Ls := #[.val (.ref x), .val (.ref b), .val (.int (0 : Int32)), .val (.int (Int32.ofNat cs.length)), .val .null, .unset]) (by decide +kernel) O (fun m => by first | rfl | (simp [entryFrame, mkF, argsToLocals, Value.category]; done) | (rcases ref_cases (Sts.ref OS) with rfl | ⟨r, rfl⟩ <;> rfl)) ?_
  intro p e s m below meth c T0 X0 e0
  subst e0
  have hmx4 : cs.length ≤ 4000 := by omega
  have hxb : b ≠ x := fun q => by subst q; exact absurd rfl (ne_arr E0 (hw _ (List.mem_of_getElem? (i := 7) rfl)) (V0.choose_spec.1))
  have K00 := Keep.refl T0.heap [x]
  refine E_aloadN X0 d_init4_0 rfl rfl (pc' := 1) rfl ?_
  refine E_initO X0 d_init4_1 (hw _ (List.mem_of_getElem? (i := 16) rfl)) (hw _ (List.mem_of_getElem? (i := 17) rfl)) (hw _ (List.mem_of_getElem? (i := 18) rfl)) rfl (by decide) (Nat.le_of_ble_eq_true rfl) (pc' := 4) rfl ?_
  intro T1 X2 e3
  have KK4 := own_keq K00 e3
  rw [← e3] at E0 F0 C0 V0
  refine E_iloadN X2 d_init4_4 rfl (pc' := 5) rfl ?_
  refine E_ifT X2 d_init4_5 (XT.i0_ne_t (fun q => by have q2 := congrArg Int32.toInt q; rw [o_int (by omega)] at q2; have o1 : (0 : Int32).toInt = 0 := rfl; omega)) (pc' := 27) (by decide) rfl ?_
  refine E_getstatic X2 d_init4_27 (hw _ (List.mem_of_getElem? (i := 62) rfl)) Via.refl OS.1 (pc' := 30) rfl ?_
  intro T5 X6 e7
  have KK8 := own_keq KK4 e7
  rw [← e7] at E0 F0 C0 V0
  refine E_ifF X6 d_init4_30 (XT.i0_eq_f OS.2.1) (pc' := 33) rfl ?_
  refine E_aloadN X6 d_init4_33 rfl rfl (pc' := 34) rfl ?_
  refine E_iloadN X6 d_init4_34 rfl (pc' := 35) rfl ?_
  refine E_iloadN X6 d_init4_35 rfl (pc' := 36) rfl ?_
  refine E_static X6 (rm := rm_compress3) d_init4_36 (hw _ (List.mem_of_getElem? (i := 90) rfl)) (hw _ (List.mem_of_getElem? (i := 91) rfl)) (hw _ (List.mem_of_getElem? (i := 92) rfl)) (hw _ (List.mem_of_getElem? (i := 93) rfl)) (by decide) (argsL := [(.ref b), (.int (0 : Int32)), (.int (Int32.ofNat cs.length))]) (st := []) rfl (ct_compress3 l Z a0 hw G1 G3 OS hEL hSA b kC cs dv X6.old hmx hmx4 (fun c hc => (hp c hc).2) V0) (lenOf (pd_2) rfl) rfl (by decide) (by decide) (by decide) (Nat.le_of_ble_eq_true rfl)  (pc' := 39) rfl ?_
  intro T9 _ X10 hQ11
  obtain ⟨t, kb, rfl, K12, szt0, hVT⟩ := hQ11
  have hxt : t ≠ x := Ne.symm (Nat.ne_of_lt (Nat.lt_of_lt_of_le E0.lt szt0))
  have KK13 := KK8.trans K12 (fun x q => nomatch q)
  have Exa_14 := E0.keep K12
  have Fld_15 := F0.keep K12 nin0
  have Fld_16 := C0.keep K12 nin0
  have Arv_17 := V0.keep K12 nin0
  have szt : T0.heap.size ≤ t := Nat.le_trans KK8.1 szt0
  obtain ⟨hall, VT⟩ := hVT
  show Ends p e below s Z _ _ _ T9 (mkF m 39 #[.val (.ref x), .val (.ref b), .val (.int (0 : Int32)), .val (.int (Int32.ofNat cs.length)), .val .null, .unset] [(.ref t)])
  refine E_astore X10 d_init4_39 rfl (l' := #[.val (.ref x), .val (.ref b), .val (.int (0 : Int32)), .val (.int (Int32.ofNat cs.length)), .val .null, .val (.ref t)]) rfl (pc' := 41) rfl ?_
  refine E_aloadN X10 d_init4_41 rfl rfl (pc' := 42) rfl ?_
  refine E_aload X10 d_init4_42 rfl rfl (pc' := 44) rfl ?_
  refine E_iloadN X10 d_init4_44 rfl (pc' := 45) rfl ?_
  refine E_static X10 (rm := rm_cfl) d_init4_45 (hw _ (List.mem_of_getElem? (i := 97) rfl)) (hw _ (List.mem_of_getElem? (i := 98) rfl)) (hw _ (List.mem_of_getElem? (i := 92) rfl)) (hw _ (List.mem_of_getElem? (i := 99) rfl)) (by decide) (argsL := [(.ref t), (.int (Int32.ofNat cs.length))]) (st := [(.ref x)]) rfl (ct_cfl l Z a0 hw G1 G3 OS hEL hSA t kb (Int32.ofNat cs.length) (Int32.ofNat cs.length) 0 (cs.map lo8) X10.old VT (by rw [Int32.sub_self]; rfl)) (lenOf (pd_3) rfl) rfl (by decide) (by decide) (by decide) (Nat.le_of_ble_eq_true rfl)  (pc' := 48) rfl ?_
  intro T18 _ X19 hQ20
  obtain ⟨rfl, e21⟩ := hQ20
  have KK22 := own_keq KK13 e21
  rw [← e21] at Exa_14 Fld_15 Fld_16 Arv_17 VT
  show Ends p e below s Z _ _ _ T18 (mkF m 48 #[.val (.ref x), .val (.ref b), .val (.int (0 : Int32)), .val (.int (Int32.ofNat cs.length)), .val .null, .val (.ref t)] [(.int (0 : Int32)), (.ref x)])
  refine E_putfield X19 (ty := .byte) d_init4_48 (hw _ (List.mem_of_getElem? (i := 26) rfl)) Via.refl Fld_16 Exa_14 (Or.inr ⟨(hw _ (List.mem_of_getElem? (i := 22) rfl)), rfl, rfl⟩) (hw _ (List.mem_of_getElem? (i := 7) rfl)) (by decide) rfl rfl gx  (pc' := 51) rfl ?_
  intro T23 X24 W25
  have K26 := Keep.of_wr W25
  have KK27 := KK22.trans K26 (allS (Or.inl (by simp)) (fun x q => nomatch q))
  have Exa_28 := Exa_14.keep K26
  have Arv_29 := Arv_17.keep K26 (ninS hxb nin0)
  have Arv_30 := VT.keep K26 (ninS hxt nin0)
  have F31 := Fld_16.same W25
  have F32 := Fld_15.other W25 (Or.inr (slot_ne (Or.inr (hw _ (List.mem_of_getElem? (i := 21) rfl))) (Or.inr (hw _ (List.mem_of_getElem? (i := 22) rfl))) (by decide) (t := (.array .byte)) (t' := .byte) (by decide) (by decide)))
  refine E_aloadN X24 d_init4_51 rfl rfl (pc' := 52) rfl ?_
  refine E_aload X24 d_init4_52 rfl rfl (pc' := 54) rfl ?_
  refine E_putfield X24 (ty := (.array .byte)) d_init4_54 (hw _ (List.mem_of_getElem? (i := 25) rfl)) Via.refl F32 Exa_28 (Or.inr ⟨(hw _ (List.mem_of_getElem? (i := 21) rfl)), rfl, rfl⟩) (hw _ (List.mem_of_getElem? (i := 7) rfl)) (by decide) rfl rfl gx  (pc' := 57) rfl ?_
  intro T33 X34 W35
  have K36 := Keep.of_wr W35
  have KK37 := KK27.trans K36 (allS (Or.inl (by simp)) (fun x q => nomatch q))
  have Exa_38 := Exa_28.keep K36
  have Arv_39 := Arv_29.keep K36 (ninS hxb nin0)
  have Arv_40 := Arv_30.keep K36 (ninS hxt nin0)
  have F41 := F32.same W35
  have F42 := F31.other W35 (Or.inr (slot_ne (Or.inr (hw _ (List.mem_of_getElem? (i := 22) rfl))) (Or.inr (hw _ (List.mem_of_getElem? (i := 21) rfl))) (by decide) (t := .byte) (t' := (.array .byte)) (by decide) (by decide)))
  exact E_return X34 d_init4_57 rfl (by decide) (by decide) (⟨rfl, KK37, t, szt, kb, _, _, _, Exa_38, F41, F42, Arv_40, ⟨rfl, rfl, rfl, hall⟩, fun c hc => ⟨(hp c hc).1, fun q => (hp c hc).2 (Int32.lt_trans (by decide) q)⟩, hmx4⟩)
theorem d_sinit_0 : decode jdk_42_method_3_code 0 = .ok (.aload_n 0, 1) := by decide +kernel
theorem d_sinit_1 : decode jdk_42_method_3_code 1 = .ok (.aload_n 1, 1) := by decide +kernel
theorem d_sinit_2 : decode jdk_42_method_3_code 2 = .ok (.iconst 0, 1) := by decide +kernel
theorem d_sinit_3 : decode jdk_42_method_3_code 3 = .ok (.aload_n 1, 1) := by decide +kernel
theorem d_sinit_4 : decode jdk_42_method_3_code 4 = .ok (.arraylength, 1) := by decide +kernel
theorem d_sinit_5 : decode jdk_42_method_3_code 5 = .ok (.aconst_null, 1) := by decide +kernel
theorem d_sinit_6 : decode jdk_42_method_3_code 6 = .ok (.invokespecial 27, 3) := by decide +kernel
theorem d_sinit_9 : decode jdk_42_method_3_code 9 = .ok (.return_, 1) := by decide +kernel
abbrev rm_sinit : Room := ({ frames := 3, cells := 1, slots := 4, locals := 52 } : Room)
def Q_sinit (Z : State) (x b : Addr) (kC : ClassId) (cs : List Int32) (dv v0 c0 : Value) (h0 : Heap) (v : Option Value) (h : Heap) : Prop := v = none ∧ Keep h0 h [x] ∧ ∃ t, h0.size ≤ t ∧ OStr Z h x t cs
set_option maxRecDepth 65536 in
set_option maxHeartbeats 40000000 in
theorem ct_sinit (l : Launch) (Z : State) (a0 : Array Value) (hw : ∀ d ∈ tables_1, d.before a0 Z = true) (G1 : Int32) (G3 : Value) (OS : Sts Z G1 G3) (hEL : EW Z a0 EL) (hSA : ∀ a ∈ Bundle.stringAtoms, a.before a0 Z = true) (x b : Addr) (kC : ClassId) (cs : List Int32) (dv v0 c0 : Value) {h0 : Heap} (O : Ext Z.heap h0) (h0l : 0 < cs.length) (hmx : cs.length ≤ 4) (hp : ∀ c ∈ cs, ¬ c < 0 ∧ ¬ (255 : Int32) < c) (E0 : Exa Z h0 x "java/lang/String") (F0 : Fld Z h0 x "java/lang/String" "value" "[B" v0) (C0 : Fld Z h0 x "java/lang/String" "coder" "B" c0) (gx : Z.heap.size ≤ x) (V0 : Arv Z h0 b kC .char (Int32.ofNat cs.length) (cs.map Value.int) dv) : Ct l Z (⟨"java/lang/String", "<init>", "([C)V"⟩ : MethodName) jdk_42_method_3_code 2 none rm_sinit #[(.ref x), (.ref b)] h0 (Q_sinit Z x b kC cs dv v0 c0 h0) := by
  refine Ct.of_body (Ls := #[.val (.ref x), .val (.ref b)]) (by decide +kernel) O (fun m => by first | rfl | (simp [entryFrame, mkF, argsToLocals, Value.category]; done) | (rcases ref_cases (Sts.ref OS) with rfl | ⟨r, rfl⟩ <;> rfl)) ?_
  intro p e s m below meth c T0 X0 e0
  subst e0
  refine E_aloadN X0 d_sinit_0 rfl rfl (pc' := 1) rfl ?_
  refine E_aloadN X0 d_sinit_1 rfl rfl (pc' := 2) rfl ?_
  refine E_iconst X0 (v := (0 : Int32)) d_sinit_2 rfl (pc' := 3) rfl ?_
  refine E_aloadN X0 d_sinit_3 rfl rfl (pc' := 4) rfl ?_
  refine E_arraylength X0 d_sinit_4 V0 (pc' := 5) rfl ?_
  refine E_aconstNull X0 d_sinit_5 (pc' := 6) rfl ?_
  refine E_special X0 (rm := rm_init4) (a := x) d_sinit_6 rfl rfl (hw _ (List.mem_of_getElem? (i := 12) rfl)) (hw _ (List.mem_of_getElem? (i := 13) rfl)) (hw _ (List.mem_of_getElem? (i := 15) rfl)) (by decide) (hw _ (List.mem_of_getElem? (i := 8) rfl)) (argsL := [(.ref b), (.int (0 : Int32)), (.int (Int32.ofNat cs.length)), .null]) (st := []) rfl (ct_init4 l Z a0 hw G1 G3 OS hEL hSA x b kC cs dv v0 c0 X0.old h0l hmx hp E0 F0 C0 gx V0) (lenOf (pd_4) rfl) rfl (by decide) (by decide) (by decide) (Nat.le_of_ble_eq_true rfl)  (pc' := 9) rfl ?_
  intro T1 _ X2 hQ3
  obtain ⟨rfl, KF, t, szt, SF⟩ := hQ3
  show Ends p e below s Z _ _ _ T1 (mkF m 9 #[.val (.ref x), .val (.ref b)] [])
  exact E_return X2 d_sinit_9 rfl (by decide) (by decide) (⟨rfl, KF, t, szt, SF⟩)
theorem own_fin {Z : State} {h0 h : Heap} {x a b : Addr} (K : Keep h0 h [x]) (S : OStr Z h a b []) (E : Exa Z h x "java/lang/String") (F : Fld Z h x "java/lang/String" "value" "[B" (.ref b)) (C : Fld Z h x "java/lang/String" "coder" "B" (.int 0)) : (none : Option Value) = none ∧ Keep h0 h [x] ∧ ∃ t, OStr Z h x t [] := by
  obtain ⟨kb, cd, N, vs, E1, F1, C1, V1, hc, r⟩ := S
  exact ⟨rfl, K, b, kb, 0, N, vs, E, F, C, V1, ⟨rfl, hc.2⟩, r⟩
theorem d_init40_0 : decode jdk_42_method_149_code 0 = .ok (.aload_n 0, 1) := by decide +kernel
theorem d_init40_1 : decode jdk_42_method_149_code 1 = .ok (.invokespecial 1, 3) := by decide +kernel
theorem d_init40_4 : decode jdk_42_method_149_code 4 = .ok (.iload_n 3, 1) := by decide +kernel
theorem d_init40_5 : decode jdk_42_method_149_code 5 = .ok (.ifCond .ne 22, 3) := by decide +kernel
theorem d_init40_8 : decode jdk_42_method_149_code 8 = .ok (.aload_n 0, 1) := by decide +kernel
theorem d_init40_9 : decode jdk_42_method_149_code 9 = .ok (.ldc 7, 2) := by decide +kernel
theorem d_init40_11 : decode jdk_42_method_149_code 11 = .ok (.getfield 9, 3) := by decide +kernel
theorem d_init40_14 : decode jdk_42_method_149_code 14 = .ok (.putfield 9, 3) := by decide +kernel
theorem d_init40_17 : decode jdk_42_method_149_code 17 = .ok (.aload_n 0, 1) := by decide +kernel
theorem d_init40_18 : decode jdk_42_method_149_code 18 = .ok (.ldc 7, 2) := by decide +kernel
theorem d_init40_20 : decode jdk_42_method_149_code 20 = .ok (.getfield 15, 3) := by decide +kernel
theorem d_init40_23 : decode jdk_42_method_149_code 23 = .ok (.putfield 15, 3) := by decide +kernel
theorem d_init40_26 : decode jdk_42_method_149_code 26 = .ok (.return_, 1) := by decide +kernel
abbrev rm_init40 : Room := ({ frames := 1, cells := 4, slots := 8, locals := 12 } : Room)
def Q_init40 (Z : State) (x b : Addr) (kC : ClassId) (dv : Value) (h0 : Heap) (v : Option Value) (h : Heap) : Prop := v = none ∧ Keep h0 h [x] ∧ ∃ t, OStr Z h x t []
set_option maxRecDepth 65536 in
set_option maxHeartbeats 40000000 in
theorem ct_init40 (l : Launch) (Z : State) (a0 : Array Value) (hw : ∀ d ∈ tables_1, d.before a0 Z = true) (G1 : Int32) (G3 : Value) (OS : Sts Z G1 G3) (hEL : EW Z a0 EL) (hSA : ∀ a ∈ Bundle.stringAtoms, a.before a0 Z = true) (x b : Addr) (kC : ClassId) (dv : Value) {h0 : Heap} (O : Ext Z.heap h0) (E0 : Exa Z h0 x "java/lang/String") (F0 : Fld Z h0 x "java/lang/String" "value" "[B" .null) (C0 : Fld Z h0 x "java/lang/String" "coder" "B" (.int (0 : Int32))) (gx : Z.heap.size ≤ x) (V0 : Arv Z h0 b kC .char (0 : Int32) [] dv) : CtW l Z (⟨"java/lang/String", "<init>", "([CIILjava/lang/Void;)V"⟩ : MethodName) jdk_42_method_149_code 6 none rm_init40 #[(.ref x), (.ref b), (.int (0 : Int32)), (.int (0 : Int32)), .null] h0 (Q_init40 Z x b kC dv h0) := by
  refine CtW.of_body (Ls := #[.val (.ref x), .val (.ref b), .val (.int (0 : Int32)), .val (.int (0 : Int32)), .val .null, .unset]) (by decide +kernel) O hEL (fun m => by first | rfl | (simp [entryFrame, mkF, argsToLocals, Value.category]; done) | (rcases ref_cases (Sts.ref OS) with rfl | ⟨r, rfl⟩ <;> rfl)) ?_
  intro p e s m below meth c T0 X0 e0
  subst e0
  have K00 := Keep.refl T0.heap [x]
  refine F_aloadN X0 d_init40_0 rfl rfl (pc' := 1) rfl ?_
  refine F_initO X0 d_init40_1 (hw _ (List.mem_of_getElem? (i := 16) rfl)) (hw _ (List.mem_of_getElem? (i := 17) rfl)) (hw _ (List.mem_of_getElem? (i := 18) rfl)) rfl (by decide) (Nat.le_of_ble_eq_true rfl) (pc' := 4) rfl ?_
  intro T1 X2 e3
  have KK4 := own_keq K00 e3
  rw [← e3] at E0 F0 C0
  refine F_iloadN X2 d_init40_4 rfl (pc' := 5) rfl ?_
  refine F_ifF X2 d_init40_5 (XT.i0_ne_f (by decide)) (pc' := 8) rfl ?_
  refine F_aloadN X2 d_init40_8 rfl rfl (pc' := 9) rfl ?_
  have Sf0 := (own_safe X2.al E0 F0 (hw _ (List.mem_of_getElem? (i := 7) rfl)))
  refine F_ldcS X2 (n := 0) (z := Int32.ofNat ([] : List Int32).length) (vs := ([] : List Int32).map lo8) d_init40_9 (hw _ (List.mem_of_getElem? (i := 19) rfl)) hSA hEL (by simp [EL, consts_1]) lit_0 (by decide) rfl (by decide) (by decide) (by decide) (by decide) (pc' := 11) rfl ?_
  intro T5 la7 lb8 k9 X6 K10 E11 C12 F13 V14 hs15
  obtain ⟨Sf16, ne17, ne18⟩ := hs15 x E0.lt Sf0
  have KK19 := KK4.trans K10 (fun x q => nomatch q)
  have Exa_20 := E0.keep K10
  have Fld_21 := F0.keep K10 nin0
  have Fld_22 := C0.keep K10 nin0
  have S24 : OStr Z T5.heap la7 lb8 [] := own_lit E11 F13 C12 V14 (by decide) (by decide)
  have F25 := OStr.fval S24
  refine F_getfield X6 d_init40_11 (hw _ (List.mem_of_getElem? (i := 25) rfl)) Via.refl F25 (pc' := 14) rfl ?_
  intro T26 X27 e28
  have KK29 := own_keq KK19 e28
  rw [← e28] at Exa_20 Fld_21 Fld_22 Sf16 S24 C12 F25
  refine F_putfield X27 (ty := (.array .byte)) d_init40_14 (hw _ (List.mem_of_getElem? (i := 25) rfl)) Via.refl Fld_21 Exa_20 (Or.inr ⟨(hw _ (List.mem_of_getElem? (i := 21) rfl)), rfl, rfl⟩) (hw _ (List.mem_of_getElem? (i := 7) rfl)) (by decide) rfl rfl gx Sf16 (pc' := 17) rfl ?_
  intro T30 X31 W32
  have K33 := Keep.of_wr W32
  have KK34 := KK29.trans K33 (allS (Or.inl (by simp)) (fun x q => nomatch q))
  have Exa_35 := Exa_20.keep K33
  have Str_36 := OStr.keep S24 K33 (ninS (Ne.symm ne17) nin0) (ninS (Ne.symm ne18) nin0)
  have Fld_37 := C12.keep K33 (ninS (Ne.symm ne17) nin0)
  have Fld_38 := F25.keep K33 (ninS (Ne.symm ne17) nin0)
  have F39 := Fld_21.same W32
  have Sf40 := Safe.wr W32 Sf16 X27.ch Sf16
  have F41 := Fld_22.other W32 (Or.inr (slot_ne (Or.inr (hw _ (List.mem_of_getElem? (i := 22) rfl))) (Or.inr (hw _ (List.mem_of_getElem? (i := 21) rfl))) (by decide) (t := .byte) (t' := (.array .byte)) (by decide) (by decide)))
  refine F_aloadN X31 d_init40_17 rfl rfl (pc' := 18) rfl ?_
  refine F_ldcS X31 (n := 0) (z := Int32.ofNat ([] : List Int32).length) (vs := ([] : List Int32).map lo8) d_init40_18 (hw _ (List.mem_of_getElem? (i := 19) rfl)) hSA hEL (by simp [EL, consts_1]) lit_0 (by decide) rfl (by decide) (by decide) (by decide) (by decide) (pc' := 20) rfl ?_
  intro T42 la44 lb45 k46 X43 K47 E48 C49 F50 V51 hs52
  obtain ⟨Sf53, ne54, ne55⟩ := hs52 x Exa_35.lt Sf40
  have KK56 := KK34.trans K47 (fun x q => nomatch q)
  have Exa_57 := Exa_35.keep K47
  have Str_58 := OStr.keep Str_36 K47 nin0 nin0
  have Fld_59 := Fld_37.keep K47 nin0
  have Fld_60 := Fld_38.keep K47 nin0
  have Fld_61 := F39.keep K47 nin0
  have Fld_63 := F41.keep K47 nin0
  have S64 : OStr Z T42.heap la44 lb45 [] := own_lit E48 F50 C49 V51 (by decide) (by decide)
  refine F_getfield X43 d_init40_20 (hw _ (List.mem_of_getElem? (i := 26) rfl)) Via.refl C49 (pc' := 23) rfl ?_
  intro T65 X66 e67
  have KK68 := own_keq KK56 e67
  rw [← e67] at Exa_57 Str_58 Fld_59 Fld_60 Fld_61 Sf53 Fld_63 S64 C49
  refine F_putfield X66 (ty := .byte) d_init40_23 (hw _ (List.mem_of_getElem? (i := 26) rfl)) Via.refl Fld_63 Exa_57 (Or.inr ⟨(hw _ (List.mem_of_getElem? (i := 22) rfl)), rfl, rfl⟩) (hw _ (List.mem_of_getElem? (i := 7) rfl)) (by decide) rfl rfl gx Sf53 (pc' := 26) rfl ?_
  intro T69 X70 W71
  have K72 := Keep.of_wr W71
  have KK73 := KK68.trans K72 (allS (Or.inl (by simp)) (fun x q => nomatch q))
  have Exa_74 := Exa_57.keep K72
  have Str_75 := OStr.keep Str_58 K72 (ninS (Ne.symm ne17) nin0) (ninS (Ne.symm ne18) nin0)
  have Fld_76 := Fld_59.keep K72 (ninS (Ne.symm ne17) nin0)
  have Fld_77 := Fld_60.keep K72 (ninS (Ne.symm ne17) nin0)
  have Str_78 := OStr.keep S64 K72 (ninS (Ne.symm ne54) nin0) (ninS (Ne.symm ne55) nin0)
  have Fld_79 := C49.keep K72 (ninS (Ne.symm ne54) nin0)
  have F80 := Fld_63.same W71
  have Sf81 := Safe.wr W71 Sf53 X66.ch Sf53
  have F82 := Fld_61.other W71 (Or.inr (slot_ne (Or.inr (hw _ (List.mem_of_getElem? (i := 21) rfl))) (Or.inr (hw _ (List.mem_of_getElem? (i := 22) rfl))) (by decide) (t := (.array .byte)) (t' := .byte) (by decide) (by decide)))
  exact F_return X70 d_init40_26 rfl (by decide) (by decide) (own_fin KK73 Str_75 Exa_74 F82 F80)
theorem d_sinit0_0 : decode jdk_42_method_3_code 0 = .ok (.aload_n 0, 1) := by decide +kernel
theorem d_sinit0_1 : decode jdk_42_method_3_code 1 = .ok (.aload_n 1, 1) := by decide +kernel
theorem d_sinit0_2 : decode jdk_42_method_3_code 2 = .ok (.iconst 0, 1) := by decide +kernel
theorem d_sinit0_3 : decode jdk_42_method_3_code 3 = .ok (.aload_n 1, 1) := by decide +kernel
theorem d_sinit0_4 : decode jdk_42_method_3_code 4 = .ok (.arraylength, 1) := by decide +kernel
theorem d_sinit0_5 : decode jdk_42_method_3_code 5 = .ok (.aconst_null, 1) := by decide +kernel
theorem d_sinit0_6 : decode jdk_42_method_3_code 6 = .ok (.invokespecial 27, 3) := by decide +kernel
theorem d_sinit0_9 : decode jdk_42_method_3_code 9 = .ok (.return_, 1) := by decide +kernel
abbrev rm_sinit0 : Room := ({ frames := 2, cells := 4, slots := 8, locals := 29 } : Room)
def Q_sinit0 (Z : State) (x b : Addr) (kC : ClassId) (dv : Value) (h0 : Heap) (v : Option Value) (h : Heap) : Prop := v = none ∧ Keep h0 h [x] ∧ ∃ t, OStr Z h x t []
set_option maxRecDepth 65536 in
set_option maxHeartbeats 40000000 in
theorem ct_sinit0 (l : Launch) (Z : State) (a0 : Array Value) (hw : ∀ d ∈ tables_1, d.before a0 Z = true) (G1 : Int32) (G3 : Value) (OS : Sts Z G1 G3) (hEL : EW Z a0 EL) (hSA : ∀ a ∈ Bundle.stringAtoms, a.before a0 Z = true) (x b : Addr) (kC : ClassId) (dv : Value) {h0 : Heap} (O : Ext Z.heap h0) (E0 : Exa Z h0 x "java/lang/String") (F0 : Fld Z h0 x "java/lang/String" "value" "[B" .null) (C0 : Fld Z h0 x "java/lang/String" "coder" "B" (.int (0 : Int32))) (gx : Z.heap.size ≤ x) (V0 : Arv Z h0 b kC .char (0 : Int32) [] dv) : CtW l Z (⟨"java/lang/String", "<init>", "([C)V"⟩ : MethodName) jdk_42_method_3_code 2 none rm_sinit0 #[(.ref x), (.ref b)] h0 (Q_sinit0 Z x b kC dv h0) := by
  refine CtW.of_body (Ls := #[.val (.ref x), .val (.ref b)]) (by decide +kernel) O hEL (fun m => by first | rfl | (simp [entryFrame, mkF, argsToLocals, Value.category]; done) | (rcases ref_cases (Sts.ref OS) with rfl | ⟨r, rfl⟩ <;> rfl)) ?_
  intro p e s m below meth c T0 X0 e0
  subst e0
  refine F_aloadN X0 d_sinit0_0 rfl rfl (pc' := 1) rfl ?_
  refine F_aloadN X0 d_sinit0_1 rfl rfl (pc' := 2) rfl ?_
  refine F_iconst X0 (v := (0 : Int32)) d_sinit0_2 rfl (pc' := 3) rfl ?_
  refine F_aloadN X0 d_sinit0_3 rfl rfl (pc' := 4) rfl ?_
  refine F_arraylength X0 d_sinit0_4 V0 (pc' := 5) rfl ?_
  refine F_aconstNull X0 d_sinit0_5 (pc' := 6) rfl ?_
  refine G_special X0 (rm := rm_init40) (a := x) d_sinit0_6 rfl rfl (hw _ (List.mem_of_getElem? (i := 12) rfl)) (hw _ (List.mem_of_getElem? (i := 13) rfl)) (hw _ (List.mem_of_getElem? (i := 15) rfl)) (by decide) (hw _ (List.mem_of_getElem? (i := 8) rfl)) (argsL := [(.ref b), (.int (0 : Int32)), (.int (0 : Int32)), .null]) (st := []) rfl (ct_init40 l Z a0 hw G1 G3 OS hEL hSA x b kC dv X0.old E0 F0 C0 gx V0) (lenOf (pd_4) rfl) rfl (by decide) (by decide) (by decide) (Nat.le_of_ble_eq_true rfl)  (pc' := 9) rfl ?_
  intro T1 _ X2 hQ3 hsf4
  obtain ⟨rfl, KF, SF⟩ := hQ3
  show EndW p e below s Z _ _ _ T1 (mkF m 9 #[.val (.ref x), .val (.ref b)] [])
  exact F_return X2 d_sinit0_9 rfl (by decide) (by decide) (⟨rfl, KF, SF⟩)
theorem allN {P : Int32 → Prop} : ∀ c ∈ ([] : List Int32), P c := fun _ q => nomatch q
theorem allC {P : Int32 → Prop} {a : Int32} {r : List Int32} (h : P a) (t : ∀ c ∈ r, P c) : ∀ c ∈ a :: r, P c := fun c q => (List.mem_cons.mp q).elim (fun u => u ▸ h) (t c)
theorem c8_ok (x : Int32) : ¬ (x &&& (255 : Int32)).toUInt32.toUInt16.toUInt32.toInt32 < 0 ∧ ¬ (255 : Int32) < (x &&& (255 : Int32)).toUInt32.toUInt16.toUInt32.toInt32 := by
  have e := c_mask x 255 8 (by decide) (by decide)
  rw [i2c_mask]
  simp only [Int32.lt_iff_toInt_lt, Int32.reduceToInt]; omega
theorem c8_nar {c : Int32} (h : ¬ c < 0 ∧ ¬ (255 : Int32) < c) : nar .char c = c := o_nar h.1 fun q => h.2 (Int32.lt_trans (by decide) q)
/-- the first newline of a list whose first place is b -/
def fnd : List Int32 → Nat → Option Nat
  | [], _ => none
  | c :: r, b => if c = 10 then some b else fnd r (b + 1)
def ixv : Option Nat → Int32
  | none => -1
  | some j => Int32.ofNat j
theorem fnd_ge (cs : List Int32) : ∀ {b j : Nat}, fnd cs b = some j → b ≤ j ∧ j < b + cs.length := by
  induction cs with
  | nil => intro b j h; simp [fnd] at h
  | cons c r ih =>
    intro b j h
    rw [fnd] at h
    by_cases hc : c = 10
    · rw [if_pos hc] at h; cases h; simp
    · rw [if_neg hc] at h; have q := ih h; simp only [List.length_cons]; omega
theorem own_dr {cs : List Int32} {i : Nat} (h : i < cs.length) : cs.drop i = cs.getD i 0 :: cs.drop (i + 1) := by
  rw [List.drop_eq_getElem_cons h]; congr 1; simp [List.getD_eq_getElem?_getD, h]
theorem fnd_end {cs : List Int32} {i b : Nat} (h : cs.length ≤ i) : fnd (cs.drop i) b = none := by rw [List.drop_eq_nil_of_le h]; rfl
theorem fnd_yes {cs : List Int32} {i : Nat} (h : i < cs.length) (q : cs.getD i 0 = 10) : fnd (cs.drop i) i = some i := by rw [own_dr h, fnd, if_pos q]
theorem fnd_no {cs : List Int32} {i : Nat} (h : i < cs.length) (q : ¬ cs.getD i 0 = 10) : fnd (cs.drop i) i = fnd (cs.drop (i + 1)) (i + 1) := by rw [own_dr h, fnd, if_neg q]
/-- the place behind the newlines, turn by turn -/
def off (cs : List Int32) (ln : Int32) : Nat → Nat → Nat → Int32
  | 0, i, _ => Int32.ofNat i
  | k + 1, i, lc => if Int32.ofNat lc < ln then (match fnd (cs.drop i) i with | none => -1 | some j => off cs ln k (j + 1) (lc + 1)) else Int32.ofNat i
theorem off_stop {cs : List Int32} {ln : Int32} {k i lc : Nat} (h : ¬ Int32.ofNat lc < ln) : off cs ln (k + 1) i lc = Int32.ofNat i := by rw [off, if_neg h]
theorem off_none {cs : List Int32} {ln : Int32} {k i lc : Nat} (h : Int32.ofNat lc < ln) (q : fnd (cs.drop i) i = none) : off cs ln (k + 1) i lc = -1 := by rw [off, if_pos h, q]
theorem off_some {cs : List Int32} {ln : Int32} {k i lc j : Nat} (h : Int32.ofNat lc < ln) (q : fnd (cs.drop i) i = some j) : off cs ln (k + 1) i lc = off cs ln k (j + 1) (lc + 1) := by rw [off, if_pos h, q]
def fin (S co : Int32) : Int32 := if S < 0 then -1 else S + co - 1
theorem fin_neg {S co : Int32} (h : S = -1) : fin S co = -1 := by rw [h, fin, if_pos (by decide)]
theorem fin_pos {S co : Int32} {k : Nat} (h : S = Int32.ofNat k) (hk : k < 1000) : fin S co = Int32.ofNat k + co - 1 := by rw [h, fin, if_neg (o_nn (by omega))]
def nlv (c0 c1 c2 c3 : Int32) (n f : Nat) : Int32 := if ¬ 0 < f ∧ 0 < n ∧ c0 = 10 then 0 else if ¬ 1 < f ∧ 1 < n ∧ c1 = 10 then 1 else if ¬ 2 < f ∧ 2 < n ∧ c2 = 10 then 2 else if ¬ 3 < f ∧ 3 < n ∧ c3 = 10 then 3 else -1
theorem nlv_fnd {c0 c1 c2 c3 : Int32} {n f : Nat} (hn : n ≤ 4) (hf : f ≤ 4) {cs : List Int32} (hcs : cs = [c0, c1, c2, c3].take n) : nlv c0 c1 c2 c3 n f = ixv (fnd (cs.drop f) f) := by
  subst hcs
  have a : n = 0 ∨ n = 1 ∨ n = 2 ∨ n = 3 ∨ n = 4 := by omega
  have b : f = 0 ∨ f = 1 ∨ f = 2 ∨ f = 3 ∨ f = 4 := by omega
  have e0 : ixv none = -1 := rfl
  have e1 : ixv (some 0) = 0 := rfl
  have e2 : ixv (some 1) = 1 := rfl
  have e3 : ixv (some 2) = 2 := rfl
  have e4 : ixv (some 3) = 3 := rfl
  rcases a with rfl | rfl | rfl | rfl | rfl <;> rcases b with rfl | rfl | rfl | rfl | rfl <;> simp [nlv, fnd, apply_ite ixv, e0, e1, e2, e3, e4]
theorem o_lti {i o : Nat} (hi : i < 2147483648) (ho : o < 2147483648) : Int32.ofNat i < Int32.ofNat o ↔ i < o := by
  rw [Int32.lt_iff_toInt_lt, o_int hi, o_int ho]; omega
theorem own_five (x : Int32) : ∃ z, (x &&& (2147483647 : Int32)) % (5 : Int32) = z ∧ (z = 0 ∨ z = 1 ∨ z = 2 ∨ z = 3 ∨ z = 4) := by
  have e1 := c_and x (2147483647 : Int32) (by decide)
  have e2 := (c_irem (x &&& (2147483647 : Int32)) (5 : Int32) 5 rfl).1 e1.1
  refine ⟨_, rfl, ?_⟩
  simp only [← Int32.toInt_inj, Int32.reduceToInt]; omega
theorem ln_big {x : Int32} (h1 : (1 : Int32) < x) (h2 : ¬ x = 2) (h3 : ¬ x = 3) (h4 : ¬ x = 4) (h5 : ¬ x = 5) : Int32.ofNat 1 < x ∧ Int32.ofNat 2 < x ∧ Int32.ofNat 3 < x ∧ Int32.ofNat 4 < x ∧ Int32.ofNat 5 < x := by
  simp only [Int32.lt_iff_toInt_lt, ← Int32.toInt_inj, Int32.reduceToInt] at *
  have e1 : (Int32.ofNat 1).toInt = 1 := rfl
  have e2 : (Int32.ofNat 2).toInt = 2 := rfl
  have e3 : (Int32.ofNat 3).toInt = 3 := rfl
  have e4 : (Int32.ofNat 4).toInt = 4 := rfl
  have e5 : (Int32.ofNat 5).toInt = 5 := rfl
  omega
theorem d_pick_0 : decode method_3_code 0 = .ok (.iload_n 0, 1) := by decide +kernel
theorem d_pick_1 : decode method_3_code 1 = .ok (.bipush 8, 2) := by decide +kernel
theorem d_pick_3 : decode method_3_code 3 = .ok (.iload_n 2, 1) := by decide +kernel
theorem d_pick_4 : decode method_3_code 4 = .ok (.iadd, 1) := by decide +kernel
theorem d_pick_5 : decode method_3_code 5 = .ok (.iushr, 1) := by decide +kernel
theorem d_pick_6 : decode method_3_code 6 = .ok (.iconst 1, 1) := by decide +kernel
theorem d_pick_7 : decode method_3_code 7 = .ok (.iand, 1) := by decide +kernel
theorem d_pick_8 : decode method_3_code 8 = .ok (.ifCond .eq 6, 3) := by decide +kernel
theorem d_pick_11 : decode method_3_code 11 = .ok (.bipush 10, 2) := by decide +kernel
theorem d_pick_13 : decode method_3_code 13 = .ok (.ireturn, 1) := by decide +kernel
theorem d_pick_14 : decode method_3_code 14 = .ok (.iload_n 1, 1) := by decide +kernel
theorem d_pick_15 : decode method_3_code 15 = .ok (.bipush 8, 2) := by decide +kernel
theorem d_pick_17 : decode method_3_code 17 = .ok (.iload_n 2, 1) := by decide +kernel
theorem d_pick_18 : decode method_3_code 18 = .ok (.imul, 1) := by decide +kernel
theorem d_pick_19 : decode method_3_code 19 = .ok (.iushr, 1) := by decide +kernel
theorem d_pick_20 : decode method_3_code 20 = .ok (.sipush 255, 3) := by decide +kernel
theorem d_pick_23 : decode method_3_code 23 = .ok (.iand, 1) := by decide +kernel
theorem d_pick_24 : decode method_3_code 24 = .ok (.i2c, 1) := by decide +kernel
theorem d_pick_25 : decode method_3_code 25 = .ok (.ireturn, 1) := by decide +kernel
abbrev rm_pick : Room := ({ frames := 0, cells := 0, slots := 0, locals := 0 } : Room)
def Q_pick (Z : State) (sh cx i : Int32) (h0 : Heap) (v : Option Value) (h : Heap) : Prop := ∃ z, v = some (.int z) ∧ h = h0 ∧ ¬ z < 0 ∧ ¬ (255 : Int32) < z
set_option maxRecDepth 65536 in
set_option maxHeartbeats 40000000 in
theorem ct_pick (l : Launch) (Z : State) (a0 : Array Value) (hw : ∀ d ∈ tables_1, d.before a0 Z = true) (G1 : Int32) (G3 : Value) (OS : Sts Z G1 G3) (hEL : EW Z a0 EL) (hSA : ∀ a ∈ Bundle.stringAtoms, a.before a0 Z = true) (sh cx i : Int32) {h0 : Heap} (O : Ext Z.heap h0)  : Ct l Z (⟨"com/example/semblance/semblance/QueryTokensOffsetPinLaw", "pick", "(III)C"⟩ : MethodName) method_3_code 3 (some .char) rm_pick #[(.int sh), (.int cx), (.int i)] h0 (Q_pick Z sh cx i h0) := by
  refine Ct.of_body (Ls := #[.val (.int sh), .val (.int cx), .val (.int i)]) (by decide +kernel) O (fun m => by first | rfl | (simp [entryFrame, mkF, argsToLocals, Value.category]; done) | (rcases ref_cases (Sts.ref OS) with rfl | ⟨r, rfl⟩ <;> rfl)) ?_
  intro p e s m below meth c T0 X0 e0
  subst e0
  refine E_iloadN X0 d_pick_0 rfl (pc' := 1) rfl ?_
  refine E_bipush X0 (v := (8 : Int32)) d_pick_1 rfl (pc' := 3) rfl ?_
  refine E_iloadN X0 d_pick_3 rfl (pc' := 4) rfl ?_
  refine E_iadd X0 d_pick_4 rfl (pc' := 5) rfl ?_
  refine E_iushr X0 d_pick_5 rfl (pc' := 6) rfl ?_
  refine E_iconst X0 (v := (1 : Int32)) d_pick_6 rfl (pc' := 7) rfl ?_
  refine E_iand X0 d_pick_7 rfl (pc' := 8) rfl ?_
  by_cases hc8 : (((sh).toUInt32 >>> (((8 : Int32) + i) &&& 31).toUInt32).toInt32 &&& (1 : Int32)) = 0
  · skip
    refine E_ifT X0 d_pick_8 (XT.i0_eq_t hc8) (pc' := 14) (by decide) rfl ?_
    refine E_iloadN X0 d_pick_14 rfl (pc' := 15) rfl ?_
    refine E_bipush X0 (v := (8 : Int32)) d_pick_15 rfl (pc' := 17) rfl ?_
    refine E_iloadN X0 d_pick_17 rfl (pc' := 18) rfl ?_
    refine E_imul X0 d_pick_18 rfl (pc' := 19) rfl ?_
    refine E_iushr X0 d_pick_19 rfl (pc' := 20) rfl ?_
    refine E_sipush X0 (v := (255 : Int32)) d_pick_20 rfl (pc' := 23) rfl ?_
    refine E_iand X0 d_pick_23 rfl (pc' := 24) rfl ?_
    refine E_i2c X0 d_pick_24 rfl (pc' := 25) rfl ?_
    exact E_ireturnN X0 (t := .char) d_pick_25 rfl (by simp) (by decide) (by decide) (⟨_, rfl, rfl, by rw [c8_nar (c8_ok _)]; exact c8_ok _⟩)
  · skip
    refine E_ifF X0 d_pick_8 (XT.i0_eq_f hc8) (pc' := 11) rfl ?_
    refine E_bipush X0 (v := (10 : Int32)) d_pick_11 rfl (pc' := 13) rfl ?_
    exact E_ireturnN X0 (t := .char) d_pick_13 rfl (by simp) (by decide) (by decide) (⟨_, rfl, rfl, by decide, by decide⟩)
theorem d_recinit_0 : decode jdk_30_method_1_code 0 = .ok (.aload_n 0, 1) := by decide +kernel
theorem d_recinit_1 : decode jdk_30_method_1_code 1 = .ok (.invokespecial 1, 3) := by decide +kernel
theorem d_recinit_4 : decode jdk_30_method_1_code 4 = .ok (.return_, 1) := by decide +kernel
abbrev rm_recinit : Room := ({ frames := 1, cells := 0, slots := 0, locals := 12 } : Room)
def Q_recinit (Z : State) (x : Addr) (h0 : Heap) (v : Option Value) (h : Heap) : Prop := v = none ∧ h = h0
set_option maxRecDepth 65536 in
set_option maxHeartbeats 40000000 in
theorem ct_recinit (l : Launch) (Z : State) (a0 : Array Value) (hw : ∀ d ∈ tables_1, d.before a0 Z = true) (G1 : Int32) (G3 : Value) (OS : Sts Z G1 G3) (hEL : EW Z a0 EL) (hSA : ∀ a ∈ Bundle.stringAtoms, a.before a0 Z = true) (x : Addr) {h0 : Heap} (O : Ext Z.heap h0)  : Ct l Z (⟨"java/lang/Record", "<init>", "()V"⟩ : MethodName) jdk_30_method_1_code 1 none rm_recinit #[(.ref x)] h0 (Q_recinit Z x h0) := by
  refine Ct.of_body (Ls := #[.val (.ref x)]) (by decide +kernel) O (fun m => by first | rfl | (simp [entryFrame, mkF, argsToLocals, Value.category]; done) | (rcases ref_cases (Sts.ref OS) with rfl | ⟨r, rfl⟩ <;> rfl)) ?_
  intro p e s m below meth c T0 X0 e0
  subst e0
  refine E_aloadN X0 d_recinit_0 rfl rfl (pc' := 1) rfl ?_
  refine E_initO X0 d_recinit_1 (hw _ (List.mem_of_getElem? (i := 38) rfl)) (hw _ (List.mem_of_getElem? (i := 17) rfl)) (hw _ (List.mem_of_getElem? (i := 18) rfl)) rfl (by decide) (Nat.le_of_ble_eq_true rfl) (pc' := 4) rfl ?_
  intro T1 X2 e3
  exact E_return X2 d_recinit_4 rfl (by decide) (by decide) (⟨rfl, e3⟩)
theorem d_pinit_0 : decode prog_9_method_1_code 0 = .ok (.aload_n 0, 1) := by decide +kernel
theorem d_pinit_1 : decode prog_9_method_1_code 1 = .ok (.invokespecial 1, 3) := by decide +kernel
theorem d_pinit_4 : decode prog_9_method_1_code 4 = .ok (.aload_n 0, 1) := by decide +kernel
theorem d_pinit_5 : decode prog_9_method_1_code 5 = .ok (.iload_n 1, 1) := by decide +kernel
theorem d_pinit_6 : decode prog_9_method_1_code 6 = .ok (.putfield 7, 3) := by decide +kernel
theorem d_pinit_9 : decode prog_9_method_1_code 9 = .ok (.aload_n 0, 1) := by decide +kernel
theorem d_pinit_10 : decode prog_9_method_1_code 10 = .ok (.iload_n 2, 1) := by decide +kernel
theorem d_pinit_11 : decode prog_9_method_1_code 11 = .ok (.putfield 13, 3) := by decide +kernel
theorem d_pinit_14 : decode prog_9_method_1_code 14 = .ok (.return_, 1) := by decide +kernel
abbrev rm_pinit : Room := ({ frames := 2, cells := 0, slots := 0, locals := 24 } : Room)
def Q_pinit (Z : State) (x : Addr) (v0 c0 : Value) (ln co : Int32) (h0 : Heap) (v : Option Value) (h : Heap) : Prop := v = none ∧ Keep h0 h [x] ∧ Fld Z h x "com/example/semblance/semblance/QueryTokens$Position" "line" "I" (.int ln) ∧ Fld Z h x "com/example/semblance/semblance/QueryTokens$Position" "column" "I" (.int co)
set_option maxRecDepth 65536 in
set_option maxHeartbeats 40000000 in
theorem ct_pinit (l : Launch) (Z : State) (a0 : Array Value) (hw : ∀ d ∈ tables_1, d.before a0 Z = true) (G1 : Int32) (G3 : Value) (OS : Sts Z G1 G3) (hEL : EW Z a0 EL) (hSA : ∀ a ∈ Bundle.stringAtoms, a.before a0 Z = true) (x : Addr) (v0 c0 : Value) (ln co : Int32) {h0 : Heap} (O : Ext Z.heap h0) (E0 : Exa Z h0 x "com/example/semblance/semblance/QueryTokens$Position") (F0 : Fld Z h0 x "com/example/semblance/semblance/QueryTokens$Position" "line" "I" v0) (C0 : Fld Z h0 x "com/example/semblance/semblance/QueryTokens$Position" "column" "I" c0) (gx : Z.heap.size ≤ x) : Ct l Z (⟨"com/example/semblance/semblance/QueryTokens$Position", "<init>", "(II)V"⟩ : MethodName) prog_9_method_1_code 3 none rm_pinit #[(.ref x), (.int ln), (.int co)] h0 (Q_pinit Z x v0 c0 ln co h0) := by
  refine Ct.of_body (Ls := #[.val (.ref x), .val (.int ln), .val (.int co)]) (by decide +kernel) O (fun m => by first | rfl | (simp [entryFrame, mkF, argsToLocals, Value.category]; done) | (rcases ref_cases (Sts.ref OS) with rfl | ⟨r, rfl⟩ <;> rfl)) ?_
  intro p e s m below meth c T0 X0 e0
  subst e0
  have K00 := Keep.refl T0.heap [x]
  refine E_aloadN X0 d_pinit_0 rfl rfl (pc' := 1) rfl ?_
  refine E_special X0 (rm := rm_recinit) (a := x) d_pinit_1 rfl rfl (hw _ (List.mem_of_getElem? (i := 33) rfl)) (hw _ (List.mem_of_getElem? (i := 34) rfl)) (hw _ (List.mem_of_getElem? (i := 37) rfl)) (by decide) (hw _ (List.mem_of_getElem? (i := 36) rfl)) (argsL := []) (st := []) rfl (ct_recinit l Z a0 hw G1 G3 OS hEL hSA x X0.old) (lenOf (pd_5) rfl) rfl (by decide) (by decide) (by decide) (Nat.le_of_ble_eq_true rfl)  (pc' := 4) rfl ?_
  intro T1 _ X2 hQ3
  obtain ⟨rfl, e4⟩ := hQ3
  have KK5 := own_keq K00 e4
  rw [← e4] at E0 F0 C0
  show Ends p e below s Z _ _ _ T1 (mkF m 4 #[.val (.ref x), .val (.int ln), .val (.int co)] [])
  refine E_aloadN X2 d_pinit_4 rfl rfl (pc' := 5) rfl ?_
  refine E_iloadN X2 d_pinit_5 rfl (pc' := 6) rfl ?_
  refine E_putfield X2 (ty := .int) d_pinit_6 (hw _ (List.mem_of_getElem? (i := 39) rfl)) Via.refl F0 E0 (Or.inr ⟨(hw _ (List.mem_of_getElem? (i := 40) rfl)), rfl, rfl⟩) (hw _ (List.mem_of_getElem? (i := 28) rfl)) (by decide) rfl rfl gx  (pc' := 9) rfl ?_
  intro T6 X7 W8
  have K9 := Keep.of_wr W8
  have KK10 := KK5.trans K9 (allS (Or.inl (by simp)) (fun x q => nomatch q))
  have Exa_11 := E0.keep K9
  have F12 := F0.same W8
  have F13 := C0.other W8 (Or.inr (slot_ne (Or.inr (hw _ (List.mem_of_getElem? (i := 42) rfl))) (Or.inr (hw _ (List.mem_of_getElem? (i := 40) rfl))) (by decide) (t := .int) (t' := .int) (by decide) (by decide)))
  refine E_aloadN X7 d_pinit_9 rfl rfl (pc' := 10) rfl ?_
  refine E_iloadN X7 d_pinit_10 rfl (pc' := 11) rfl ?_
  refine E_putfield X7 (ty := .int) d_pinit_11 (hw _ (List.mem_of_getElem? (i := 41) rfl)) Via.refl F13 Exa_11 (Or.inr ⟨(hw _ (List.mem_of_getElem? (i := 42) rfl)), rfl, rfl⟩) (hw _ (List.mem_of_getElem? (i := 28) rfl)) (by decide) rfl rfl gx  (pc' := 14) rfl ?_
  intro T14 X15 W16
  have K17 := Keep.of_wr W16
  have KK18 := KK10.trans K17 (allS (Or.inl (by simp)) (fun x q => nomatch q))
  have Exa_19 := Exa_11.keep K17
  have F20 := F13.same W16
  have F21 := F12.other W16 (Or.inr (slot_ne (Or.inr (hw _ (List.mem_of_getElem? (i := 40) rfl))) (Or.inr (hw _ (List.mem_of_getElem? (i := 42) rfl))) (by decide) (t := .int) (t' := .int) (by decide) (by decide)))
  exact E_return X15 d_pinit_14 rfl (by decide) (by decide) (⟨rfl, KK18, F21, F20⟩)
theorem d_line_0 : decode prog_9_method_5_code 0 = .ok (.aload_n 0, 1) := by decide +kernel
theorem d_line_1 : decode prog_9_method_5_code 1 = .ok (.getfield 7, 3) := by decide +kernel
theorem d_line_4 : decode prog_9_method_5_code 4 = .ok (.ireturn, 1) := by decide +kernel
abbrev rm_line : Room := ({ frames := 0, cells := 0, slots := 0, locals := 0 } : Room)
def Q_line (Z : State) (x : Addr) (ln : Int32) (h0 : Heap) (v : Option Value) (h : Heap) : Prop := v = some (.int ln) ∧ h = h0
set_option maxRecDepth 65536 in
set_option maxHeartbeats 40000000 in
theorem ct_line (l : Launch) (Z : State) (a0 : Array Value) (hw : ∀ d ∈ tables_1, d.before a0 Z = true) (G1 : Int32) (G3 : Value) (OS : Sts Z G1 G3) (hEL : EW Z a0 EL) (hSA : ∀ a ∈ Bundle.stringAtoms, a.before a0 Z = true) (x : Addr) (ln : Int32) {h0 : Heap} (O : Ext Z.heap h0) (F0 : Fld Z h0 x "com/example/semblance/semblance/QueryTokens$Position" "line" "I" (.int ln)) : Ct l Z (⟨"com/example/semblance/semblance/QueryTokens$Position", "line", "()I"⟩ : MethodName) prog_9_method_5_code 1 (some .int) rm_line #[(.ref x)] h0 (Q_line Z x ln h0) := by
  refine Ct.of_body (Ls := #[.val (.ref x)]) (by decide +kernel) O (fun m => by first | rfl | (simp [entryFrame, mkF, argsToLocals, Value.category]; done) | (rcases ref_cases (Sts.ref OS) with rfl | ⟨r, rfl⟩ <;> rfl)) ?_
  intro p e s m below meth c T0 X0 e0
  subst e0
  refine E_aloadN X0 d_line_0 rfl rfl (pc' := 1) rfl ?_
  refine E_getfield X0 d_line_1 (hw _ (List.mem_of_getElem? (i := 39) rfl)) Via.refl F0 (pc' := 4) rfl ?_
  intro T1 X2 e3
  rw [← e3] at F0
  exact E_ireturnI X2 d_line_4 rfl (by decide) (by decide) (⟨rfl, e3⟩)
theorem d_column_0 : decode prog_9_method_6_code 0 = .ok (.aload_n 0, 1) := by decide +kernel
theorem d_column_1 : decode prog_9_method_6_code 1 = .ok (.getfield 13, 3) := by decide +kernel
theorem d_column_4 : decode prog_9_method_6_code 4 = .ok (.ireturn, 1) := by decide +kernel
abbrev rm_column : Room := ({ frames := 0, cells := 0, slots := 0, locals := 0 } : Room)
def Q_column (Z : State) (x : Addr) (ln : Int32) (h0 : Heap) (v : Option Value) (h : Heap) : Prop := v = some (.int ln) ∧ h = h0
set_option maxRecDepth 65536 in
set_option maxHeartbeats 40000000 in
theorem ct_column (l : Launch) (Z : State) (a0 : Array Value) (hw : ∀ d ∈ tables_1, d.before a0 Z = true) (G1 : Int32) (G3 : Value) (OS : Sts Z G1 G3) (hEL : EW Z a0 EL) (hSA : ∀ a ∈ Bundle.stringAtoms, a.before a0 Z = true) (x : Addr) (ln : Int32) {h0 : Heap} (O : Ext Z.heap h0) (F0 : Fld Z h0 x "com/example/semblance/semblance/QueryTokens$Position" "column" "I" (.int ln)) : Ct l Z (⟨"com/example/semblance/semblance/QueryTokens$Position", "column", "()I"⟩ : MethodName) prog_9_method_6_code 1 (some .int) rm_column #[(.ref x)] h0 (Q_column Z x ln h0) := by
  refine Ct.of_body (Ls := #[.val (.ref x)]) (by decide +kernel) O (fun m => by first | rfl | (simp [entryFrame, mkF, argsToLocals, Value.category]; done) | (rcases ref_cases (Sts.ref OS) with rfl | ⟨r, rfl⟩ <;> rfl)) ?_
  intro p e s m below meth c T0 X0 e0
  subst e0
  refine E_aloadN X0 d_column_0 rfl rfl (pc' := 1) rfl ?_
  refine E_getfield X0 d_column_1 (hw _ (List.mem_of_getElem? (i := 41) rfl)) Via.refl F0 (pc' := 4) rfl ?_
  intro T1 X2 e3
  rw [← e3] at F0
  exact E_ireturnI X2 d_column_4 rfl (by decide) (by decide) (⟨rfl, e3⟩)
theorem d_cen_0 : decode jdk_43_method_4_code 0 = .ok (.iload_n 0, 1) := by decide +kernel
theorem d_cen_1 : decode jdk_43_method_4_code 1 = .ok (.ifCond .lt 14, 3) := by decide +kernel
theorem d_cen_4 : decode jdk_43_method_4_code 4 = .ok (.iload_n 0, 1) := by decide +kernel
theorem d_cen_5 : decode jdk_43_method_4_code 5 = .ok (.sipush 255, 3) := by decide +kernel
theorem d_cen_8 : decode jdk_43_method_4_code 8 = .ok (.if_icmp .gt 7, 3) := by decide +kernel
theorem d_cen_11 : decode jdk_43_method_4_code 11 = .ok (.iconst 1, 1) := by decide +kernel
theorem d_cen_12 : decode jdk_43_method_4_code 12 = .ok (.goto 4, 3) := by decide +kernel
theorem d_cen_16 : decode jdk_43_method_4_code 16 = .ok (.ireturn, 1) := by decide +kernel
abbrev rm_cen : Room := ({ frames := 0, cells := 0, slots := 0, locals := 0 } : Room)
def Q_cen (Z : State) (_q : Int32) (h0 : Heap) (v : Option Value) (h : Heap) : Prop := v = some (.int 1) ∧ h = h0
set_option maxRecDepth 65536 in
set_option maxHeartbeats 40000000 in
theorem ct_cen (l : Launch) (Z : State) (a0 : Array Value) (hw : ∀ d ∈ tables_1, d.before a0 Z = true) (G1 : Int32) (G3 : Value) (OS : Sts Z G1 G3) (hEL : EW Z a0 EL) (hSA : ∀ a ∈ Bundle.stringAtoms, a.before a0 Z = true) (_q : Int32) {h0 : Heap} (O : Ext Z.heap h0)  : Ct l Z (⟨"java/lang/StringLatin1", "canEncode", "(I)Z"⟩ : MethodName) jdk_43_method_4_code 1 (some .boolean) rm_cen #[(.int (10 : Int32))] h0 (Q_cen Z 0 h0) := by
  refine Ct.of_body (Ls := #[.val (.int (10 : Int32))]) (by decide +kernel) O (fun m => by first | rfl | (simp [entryFrame, mkF, argsToLocals, Value.category]; done) | (rcases ref_cases (Sts.ref OS) with rfl | ⟨r, rfl⟩ <;> rfl)) ?_
  intro p e s m below meth c T0 X0 e0
  subst e0
  refine E_iloadN X0 d_cen_0 rfl (pc' := 1) rfl ?_
  refine E_ifF X0 d_cen_1 (XT.i0_lt_f (by decide)) (pc' := 4) rfl ?_
  refine E_iloadN X0 d_cen_4 rfl (pc' := 5) rfl ?_
  refine E_sipush X0 (v := (255 : Int32)) d_cen_5 rfl (pc' := 8) rfl ?_
  refine E_icF X0 d_cen_8 (XT.ii_gt_f (by decide)) (pc' := 11) rfl ?_
  refine E_iconst X0 (v := (1 : Int32)) d_cen_11 rfl (pc' := 12) rfl ?_
  refine E_goto X0 d_cen_12 (pc' := 16) (by decide) rfl ?_
  exact E_ireturnN X0 (t := .boolean) d_cen_16 rfl (by simp) (by decide) (by decide) (⟨rfl, rfl⟩)
theorem d_max_0 : decode jdk_29_method_65_code 0 = .ok (.iload_n 0, 1) := by decide +kernel
theorem d_max_1 : decode jdk_29_method_65_code 1 = .ok (.iload_n 1, 1) := by decide +kernel
theorem d_max_2 : decode jdk_29_method_65_code 2 = .ok (.if_icmp .lt 7, 3) := by decide +kernel
theorem d_max_5 : decode jdk_29_method_65_code 5 = .ok (.iload_n 0, 1) := by decide +kernel
theorem d_max_6 : decode jdk_29_method_65_code 6 = .ok (.goto 4, 3) := by decide +kernel
theorem d_max_10 : decode jdk_29_method_65_code 10 = .ok (.ireturn, 1) := by decide +kernel
abbrev rm_max : Room := ({ frames := 0, cells := 0, slots := 0, locals := 0 } : Room)
def Q_max (Z : State) (i : Nat) (h0 : Heap) (v : Option Value) (h : Heap) : Prop := v = some (.int (Int32.ofNat i)) ∧ h = h0
set_option maxRecDepth 65536 in
set_option maxHeartbeats 40000000 in
theorem ct_max (l : Launch) (Z : State) (a0 : Array Value) (hw : ∀ d ∈ tables_1, d.before a0 Z = true) (G1 : Int32) (G3 : Value) (OS : Sts Z G1 G3) (hEL : EW Z a0 EL) (hSA : ∀ a ∈ Bundle.stringAtoms, a.before a0 Z = true) (i : Nat) {h0 : Heap} (O : Ext Z.heap h0) (hi : i < 1000000) : Ct l Z (⟨"java/lang/Math", "max", "(II)I"⟩ : MethodName) jdk_29_method_65_code 2 (some .int) rm_max #[(.int (Int32.ofNat i)), (.int (0 : Int32))] h0 (Q_max Z i h0) := by
  refine Ct.of_body (Ls := #[.val (.int (Int32.ofNat i)), .val (.int (0 : Int32))]) (by decide +kernel) O (fun m => by first | rfl | (simp [entryFrame, mkF, argsToLocals, Value.category]; done) | (rcases ref_cases (Sts.ref OS) with rfl | ⟨r, rfl⟩ <;> rfl)) ?_
  intro p e s m below meth c T0 X0 e0
  subst e0
  refine E_iloadN X0 d_max_0 rfl (pc' := 1) rfl ?_
  refine E_iloadN X0 d_max_1 rfl (pc' := 2) rfl ?_
  refine E_icF X0 d_max_2 (XT.ii_lt_f (o_nn (by omega))) (pc' := 5) rfl ?_
  refine E_iloadN X0 d_max_5 rfl (pc' := 6) rfl ?_
  refine E_goto X0 d_max_6 (pc' := 10) (by decide) rfl ?_
  exact E_ireturnI X0 d_max_10 rfl (by decide) (by decide) (⟨rfl, rfl⟩)
theorem d_min_0 : decode jdk_29_method_69_code 0 = .ok (.iload_n 0, 1) := by decide +kernel
theorem d_min_1 : decode jdk_29_method_69_code 1 = .ok (.iload_n 1, 1) := by decide +kernel
theorem d_min_2 : decode jdk_29_method_69_code 2 = .ok (.if_icmp .gt 7, 3) := by decide +kernel
theorem d_min_5 : decode jdk_29_method_69_code 5 = .ok (.iload_n 0, 1) := by decide +kernel
theorem d_min_6 : decode jdk_29_method_69_code 6 = .ok (.goto 4, 3) := by decide +kernel
theorem d_min_10 : decode jdk_29_method_69_code 10 = .ok (.ireturn, 1) := by decide +kernel
abbrev rm_min : Room := ({ frames := 0, cells := 0, slots := 0, locals := 0 } : Room)
def Q_min (Z : State) (i : Int32) (h0 : Heap) (v : Option Value) (h : Heap) : Prop := v = some (.int i) ∧ h = h0
set_option maxRecDepth 65536 in
set_option maxHeartbeats 40000000 in
theorem ct_min (l : Launch) (Z : State) (a0 : Array Value) (hw : ∀ d ∈ tables_1, d.before a0 Z = true) (G1 : Int32) (G3 : Value) (OS : Sts Z G1 G3) (hEL : EW Z a0 EL) (hSA : ∀ a ∈ Bundle.stringAtoms, a.before a0 Z = true) (i : Int32) {h0 : Heap} (O : Ext Z.heap h0)  : Ct l Z (⟨"java/lang/Math", "min", "(II)I"⟩ : MethodName) jdk_29_method_69_code 2 (some .int) rm_min #[(.int i), (.int i)] h0 (Q_min Z i h0) := by
  refine Ct.of_body (Ls := #[.val (.int i), .val (.int i)]) (by decide +kernel) O (fun m => by first | rfl | (simp [entryFrame, mkF, argsToLocals, Value.category]; done) | (rcases ref_cases (Sts.ref OS) with rfl | ⟨r, rfl⟩ <;> rfl)) ?_
  intro p e s m below meth c T0 X0 e0
  subst e0
  refine E_iloadN X0 d_min_0 rfl (pc' := 1) rfl ?_
  refine E_iloadN X0 d_min_1 rfl (pc' := 2) rfl ?_
  refine E_icF X0 d_min_2 (XT.ii_gt_f Int32.lt_irrefl) (pc' := 5) rfl ?_
  refine E_iloadN X0 d_min_5 rfl (pc' := 6) rfl ?_
  refine E_goto X0 d_min_6 (pc' := 10) (by decide) rfl ?_
  exact E_ireturnI X0 d_min_10 rfl (by decide) (by decide) (⟨rfl, rfl⟩)
theorem d_ioc_0 : decode jdk_43_method_23_code 0 = .ok (.iload_n 1, 1) := by decide +kernel
theorem d_ioc_1 : decode jdk_43_method_23_code 1 = .ok (.i2b, 1) := by decide +kernel
theorem d_ioc_2 : decode jdk_43_method_23_code 2 = .ok (.istore 4, 2) := by decide +kernel
theorem d_ioc_4 : decode jdk_43_method_23_code 4 = .ok (.iload_n 2, 1) := by decide +kernel
theorem d_ioc_5 : decode jdk_43_method_23_code 5 = .ok (.istore 5, 2) := by decide +kernel
theorem d_ioc_7 : decode jdk_43_method_23_code 7 = .ok (.iload 5, 2) := by decide +kernel
theorem d_ioc_9 : decode jdk_43_method_23_code 9 = .ok (.iload_n 3, 1) := by decide +kernel
theorem d_ioc_10 : decode jdk_43_method_23_code 10 = .ok (.if_icmp .ge 21, 3) := by decide +kernel
theorem d_ioc_13 : decode jdk_43_method_23_code 13 = .ok (.aload_n 0, 1) := by decide +kernel
theorem d_ioc_14 : decode jdk_43_method_23_code 14 = .ok (.iload 5, 2) := by decide +kernel
theorem d_ioc_16 : decode jdk_43_method_23_code 16 = .ok (.baload, 1) := by decide +kernel
theorem d_ioc_17 : decode jdk_43_method_23_code 17 = .ok (.iload 4, 2) := by decide +kernel
theorem d_ioc_19 : decode jdk_43_method_23_code 19 = .ok (.if_icmp .ne 6, 3) := by decide +kernel
theorem d_ioc_22 : decode jdk_43_method_23_code 22 = .ok (.iload 5, 2) := by decide +kernel
theorem d_ioc_24 : decode jdk_43_method_23_code 24 = .ok (.ireturn, 1) := by decide +kernel
theorem d_ioc_25 : decode jdk_43_method_23_code 25 = .ok (.iinc 5 1, 3) := by decide +kernel
theorem d_ioc_28 : decode jdk_43_method_23_code 28 = .ok (.goto (-21), 3) := by decide +kernel
theorem d_ioc_31 : decode jdk_43_method_23_code 31 = .ok (.iconst (-1), 1) := by decide +kernel
theorem d_ioc_32 : decode jdk_43_method_23_code 32 = .ok (.ireturn, 1) := by decide +kernel
abbrev rm_ioc : Room := ({ frames := 0, cells := 0, slots := 0, locals := 0 } : Room)
def Q_ioc (Z : State) (t : Addr) (kb : ClassId) (cs : List Int32) (f : Nat) (h0 : Heap) (v : Option Value) (h : Heap) : Prop := v = some (.int (ixv (fnd (cs.drop f) f))) ∧ h = h0
set_option maxRecDepth 65536 in
set_option maxHeartbeats 40000000 in
theorem lp_ioc (l : Launch) (Z : State) (a0 : Array Value) (hw : ∀ d ∈ tables_1, d.before a0 Z = true) (G1 : Int32) (G3 : Value) (OS : Sts Z G1 G3) (hEL : EW Z a0 EL) (hSA : ∀ a ∈ Bundle.stringAtoms, a.before a0 Z = true) (t : Addr) (kb : ClassId) (cs : List Int32) (f : Nat) {h0 : Heap} {p : Program} {e : Env} {s : State} {m : MethodId} {below : List Frame} {meth : Method} {c : Code} (k : Nat) : ∀ {T0 : State} (i : Nat), Wk l Z rm_ioc jdk_43_method_23_code 6 (some .int) "java/lang/StringLatin1" "indexOfChar" p e s m #[(.ref t), (.int (10 : Int32)), (.int (Int32.ofNat f)), (.int (Int32.ofNat cs.length))] below meth c T0 0 0 → (i + k = cs.length) → (cs.length ≤ 4000) → (∀ c ∈ cs, ¬ c < 0 ∧ ¬ (255 : Int32) < c) → (T0.heap = h0) → (Arv Z T0.heap t kb .byte (Int32.ofNat cs.length) (cs.map lo8) (.int (0 : Int32))) → (fnd (cs.drop i) i = fnd (cs.drop f) f) → Ends p e below s Z (Q_ioc Z t kb cs f h0) rm_ioc.cells rm_ioc.slots T0 (mkF m 7 #[.val (.ref t), .val (.int (10 : Int32)), .val (.int (Int32.ofNat f)), .val (.int (Int32.ofNat cs.length)), .val (.int (10 : Int32)), .val (.int (Int32.ofNat i))] []) := by
  induction k with
  | zero =>
    intro T0 i X0 hi hl hp eh V0 hfd
    refine E_iload X0 d_ioc_7 rfl (pc' := 9) rfl ?_
    refine E_iloadN X0 d_ioc_9 rfl (pc' := 10) rfl ?_
    refine E_icT X0 d_ioc_10 (XT.ii_ge_t (o_nlt (by omega) (by omega))) (pc' := 31) (by decide) rfl ?_
    refine E_iconst X0 (v := (-1 : Int32)) d_ioc_31 rfl (pc' := 32) rfl ?_
    exact E_ireturnI X0 d_ioc_32 rfl (by decide) (by decide) (⟨by rw [← hfd, fnd_end (by omega)]; rfl, eh⟩)
  | succ k ih =>
    intro T0 i X0 hi hl hp eh V0 hfd
    have hlt : i < cs.length := by omega
    have hb := hp _ (own_mem hlt)
    refine E_iload X0 d_ioc_7 rfl (pc' := 9) rfl ?_
    refine E_iloadN X0 d_ioc_9 rfl (pc' := 10) rfl ?_
    refine E_icF X0 d_ioc_10 (XT.ii_ge_f (o_lt hlt (by omega))) (pc' := 13) rfl ?_
    refine E_aloadN X0 d_ioc_13 rfl rfl (pc' := 14) rfl ?_
    refine E_iload X0 d_ioc_14 rfl (pc' := 16) rfl ?_
    refine E_baload X0 (v := (.int (cs.getD i 0).toInt8.toInt32)) d_ioc_16 V0 ⟨o_nn (by omega), o_lt hlt (by omega)⟩ (own_getD lo8 hlt (by omega)) (pc' := 17) rfl ?_
    refine E_iload X0 d_ioc_17 rfl (pc' := 19) rfl ?_
    by_cases h19 : (cs.getD i 0).toInt8.toInt32 = (10 : Int32)
    · skip
      refine E_icF X0 d_ioc_19 (XT.ii_ne_f h19) (pc' := 22) rfl ?_
      have hc : cs.getD i 0 = 10 := lo8_inj hb.1 hb.2 (by decide) (by decide) h19
      refine E_iload X0 d_ioc_22 rfl (pc' := 24) rfl ?_
      exact E_ireturnI X0 d_ioc_24 rfl (by decide) (by decide) (⟨by rw [← hfd, fnd_yes hlt hc]; rfl, eh⟩)
    · skip
      refine E_icT X0 d_ioc_19 (XT.ii_ne_t h19) (pc' := 25) (by decide) rfl ?_
      have hc : ¬ cs.getD i 0 = 10 := fun q => h19 (by rw [q]; decide)
      refine E_iinc X0 (y := (Int32.ofNat (i + 1))) d_ioc_25 o_add rfl (l' := #[.val (.ref t), .val (.int (10 : Int32)), .val (.int (Int32.ofNat f)), .val (.int (Int32.ofNat cs.length)), .val (.int (10 : Int32)), .val (.int (Int32.ofNat (i + 1)))]) rfl (pc' := 28) rfl ?_
      refine E_goto X0 d_ioc_28 (pc' := 7) (by decide) rfl ?_
      exact ih (i + 1) X0 (by omega) hl hp eh V0 ((fnd_no hlt hc).symm.trans hfd)
set_option maxRecDepth 65536 in
set_option maxHeartbeats 40000000 in
theorem ct_ioc (l : Launch) (Z : State) (a0 : Array Value) (hw : ∀ d ∈ tables_1, d.before a0 Z = true) (G1 : Int32) (G3 : Value) (OS : Sts Z G1 G3) (hEL : EW Z a0 EL) (hSA : ∀ a ∈ Bundle.stringAtoms, a.before a0 Z = true) (t : Addr) (kb : ClassId) (cs : List Int32) (f : Nat) {h0 : Heap} (O : Ext Z.heap h0) (V0 : Arv Z h0 t kb .byte (Int32.ofNat cs.length) (cs.map lo8) (.int (0 : Int32))) (hl : cs.length ≤ 4000) (hp : ∀ c ∈ cs, ¬ c < 0 ∧ ¬ (255 : Int32) < c) (hf : f ≤ cs.length) : Ct l Z (⟨"java/lang/StringLatin1", "indexOfChar", "([BIII)I"⟩ : MethodName) jdk_43_method_23_code 6 (some .int) rm_ioc #[(.ref t), (.int (10 : Int32)), (.int (Int32.ofNat f)), (.int (Int32.ofNat cs.length))] h0 (Q_ioc Z t kb cs f h0) := by
  refine Ct.of_body (Ls := #[.val (.ref t), .val (.int (10 : Int32)), .val (.int (Int32.ofNat f)), .val (.int (Int32.ofNat cs.length)), .unset, .unset]) (by decide +kernel) O (fun m => by first | rfl | (simp [entryFrame, mkF, argsToLocals, Value.category]; done) | (rcases ref_cases (Sts.ref OS) with rfl | ⟨r, rfl⟩ <;> rfl)) ?_
  intro p e s m below meth c T0 X0 e0
  subst e0
  refine E_iloadN X0 d_ioc_0 rfl (pc' := 1) rfl ?_
  refine E_i2b X0 (v := (10 : Int32)) d_ioc_1 (by decide) (pc' := 2) rfl ?_
  refine E_istore X0 d_ioc_2 (l' := #[.val (.ref t), .val (.int (10 : Int32)), .val (.int (Int32.ofNat f)), .val (.int (Int32.ofNat cs.length)), .val (.int (10 : Int32)), .unset]) rfl (pc' := 4) rfl ?_
  refine E_iloadN X0 d_ioc_4 rfl (pc' := 5) rfl ?_
  refine E_istore X0 d_ioc_5 (l' := #[.val (.ref t), .val (.int (10 : Int32)), .val (.int (Int32.ofNat f)), .val (.int (Int32.ofNat cs.length)), .val (.int (10 : Int32)), .val (.int (Int32.ofNat f))]) rfl (pc' := 7) rfl ?_
  exact lp_ioc l Z a0 hw G1 G3 OS hEL hSA t kb cs f (cs.length - f) f X0 (by omega) hl hp rfl V0 rfl
theorem d_lio_0 : decode jdk_43_method_22_code 0 = .ok (.iload_n 1, 1) := by decide +kernel
theorem d_lio_1 : decode jdk_43_method_22_code 1 = .ok (.invokestatic 88, 3) := by decide +kernel
theorem d_lio_4 : decode jdk_43_method_22_code 4 = .ok (.ifCond .ne 5, 3) := by decide +kernel
theorem d_lio_9 : decode jdk_43_method_22_code 9 = .ok (.iload_n 2, 1) := by decide +kernel
theorem d_lio_10 : decode jdk_43_method_22_code 10 = .ok (.iconst 0, 1) := by decide +kernel
theorem d_lio_11 : decode jdk_43_method_22_code 11 = .ok (.invokestatic 92, 3) := by decide +kernel
theorem d_lio_14 : decode jdk_43_method_22_code 14 = .ok (.istore_n 2, 1) := by decide +kernel
theorem d_lio_15 : decode jdk_43_method_22_code 15 = .ok (.iload_n 3, 1) := by decide +kernel
theorem d_lio_16 : decode jdk_43_method_22_code 16 = .ok (.aload_n 0, 1) := by decide +kernel
theorem d_lio_17 : decode jdk_43_method_22_code 17 = .ok (.arraylength, 1) := by decide +kernel
theorem d_lio_18 : decode jdk_43_method_22_code 18 = .ok (.invokestatic 38, 3) := by decide +kernel
theorem d_lio_21 : decode jdk_43_method_22_code 21 = .ok (.istore_n 3, 1) := by decide +kernel
theorem d_lio_22 : decode jdk_43_method_22_code 22 = .ok (.iload_n 2, 1) := by decide +kernel
theorem d_lio_23 : decode jdk_43_method_22_code 23 = .ok (.iload_n 3, 1) := by decide +kernel
theorem d_lio_24 : decode jdk_43_method_22_code 24 = .ok (.if_icmp .lt 5, 3) := by decide +kernel
theorem d_lio_27 : decode jdk_43_method_22_code 27 = .ok (.iconst (-1), 1) := by decide +kernel
theorem d_lio_28 : decode jdk_43_method_22_code 28 = .ok (.ireturn, 1) := by decide +kernel
theorem d_lio_29 : decode jdk_43_method_22_code 29 = .ok (.aload_n 0, 1) := by decide +kernel
theorem d_lio_30 : decode jdk_43_method_22_code 30 = .ok (.iload_n 1, 1) := by decide +kernel
theorem d_lio_31 : decode jdk_43_method_22_code 31 = .ok (.iload_n 2, 1) := by decide +kernel
theorem d_lio_32 : decode jdk_43_method_22_code 32 = .ok (.iload_n 3, 1) := by decide +kernel
theorem d_lio_33 : decode jdk_43_method_22_code 33 = .ok (.invokestatic 95, 3) := by decide +kernel
theorem d_lio_36 : decode jdk_43_method_22_code 36 = .ok (.ireturn, 1) := by decide +kernel
abbrev rm_lio : Room := ({ frames := 1, cells := 0, slots := 0, locals := 17 } : Room)
def Q_lio (Z : State) (t : Addr) (kb : ClassId) (cs : List Int32) (f : Nat) (h0 : Heap) (v : Option Value) (h : Heap) : Prop := v = some (.int (ixv (fnd (cs.drop f) f))) ∧ h = h0
set_option maxRecDepth 65536 in
set_option maxHeartbeats 40000000 in
theorem ct_lio (l : Launch) (Z : State) (a0 : Array Value) (hw : ∀ d ∈ tables_1, d.before a0 Z = true) (G1 : Int32) (G3 : Value) (OS : Sts Z G1 G3) (hEL : EW Z a0 EL) (hSA : ∀ a ∈ Bundle.stringAtoms, a.before a0 Z = true) (t : Addr) (kb : ClassId) (cs : List Int32) (f : Nat) {h0 : Heap} (O : Ext Z.heap h0) (V0 : Arv Z h0 t kb .byte (Int32.ofNat cs.length) (cs.map lo8) (.int (0 : Int32))) (hl : cs.length ≤ 4000) (hp : ∀ c ∈ cs, ¬ c < 0 ∧ ¬ (255 : Int32) < c) (hf : f ≤ cs.length) : Ct l Z (⟨"java/lang/StringLatin1", "indexOf", "([BIII)I"⟩ : MethodName) jdk_43_method_22_code 4 (some .int) rm_lio #[(.ref t), (.int (10 : Int32)), (.int (Int32.ofNat f)), (.int (Int32.ofNat cs.length))] h0 (Q_lio Z t kb cs f h0) := by
  refine Ct.of_body (Ls := #[.val (.ref t), .val (.int (10 : Int32)), .val (.int (Int32.ofNat f)), .val (.int (Int32.ofNat cs.length))]) (by decide +kernel) O (fun m => by first | rfl | (simp [entryFrame, mkF, argsToLocals, Value.category]; done) | (rcases ref_cases (Sts.ref OS) with rfl | ⟨r, rfl⟩ <;> rfl)) ?_
  intro p e s m below meth c T0 X0 e0
  subst e0
  refine E_iloadN X0 d_lio_0 rfl (pc' := 1) rfl ?_
  refine E_static X0 (rm := rm_cen) d_lio_1 (hw _ (List.mem_of_getElem? (i := 77) rfl)) (hw _ (List.mem_of_getElem? (i := 78) rfl)) (hw _ (List.mem_of_getElem? (i := 75) rfl)) (hw _ (List.mem_of_getElem? (i := 79) rfl)) (by decide) (argsL := [(.int (10 : Int32))]) (st := []) rfl (ct_cen l Z a0 hw G1 G3 OS hEL hSA 0 X0.old) (lenOf (pd_6) rfl) rfl (by decide) (by decide) (by decide) (Nat.le_of_ble_eq_true rfl)  (pc' := 4) rfl ?_
  intro T1 _ X2 hQ3
  obtain ⟨rfl, e4⟩ := hQ3
  rw [← e4] at V0
  show Ends p e below s Z _ _ _ T1 (mkF m 4 #[.val (.ref t), .val (.int (10 : Int32)), .val (.int (Int32.ofNat f)), .val (.int (Int32.ofNat cs.length))] [(.int (1 : Int32))])
  refine E_ifT X2 d_lio_4 (XT.i0_ne_t (by decide)) (pc' := 9) (by decide) rfl ?_
  refine E_iloadN X2 d_lio_9 rfl (pc' := 10) rfl ?_
  refine E_iconst X2 (v := (0 : Int32)) d_lio_10 rfl (pc' := 11) rfl ?_
  refine E_static X2 (rm := rm_max) d_lio_11 (hw _ (List.mem_of_getElem? (i := 80) rfl)) (hw _ (List.mem_of_getElem? (i := 81) rfl)) (hw _ (List.mem_of_getElem? (i := 82) rfl)) (hw _ (List.mem_of_getElem? (i := 83) rfl)) (by decide) (argsL := [(.int (Int32.ofNat f)), (.int (0 : Int32))]) (st := []) rfl (ct_max l Z a0 hw G1 G3 OS hEL hSA f X2.old (by omega)) (lenOf (pd_7) rfl) rfl (by decide) (by decide) (by decide) (Nat.le_of_ble_eq_true rfl)  (pc' := 14) rfl ?_
  intro T5 _ X6 hQ7
  obtain ⟨rfl, e8⟩ := hQ7
  rw [← e8] at V0
  show Ends p e below s Z _ _ _ T5 (mkF m 14 #[.val (.ref t), .val (.int (10 : Int32)), .val (.int (Int32.ofNat f)), .val (.int (Int32.ofNat cs.length))] [(.int (Int32.ofNat f))])
  refine E_istoreN X6 d_lio_14 (l' := #[.val (.ref t), .val (.int (10 : Int32)), .val (.int (Int32.ofNat f)), .val (.int (Int32.ofNat cs.length))]) rfl (pc' := 15) rfl ?_
  refine E_iloadN X6 d_lio_15 rfl (pc' := 16) rfl ?_
  refine E_aloadN X6 d_lio_16 rfl rfl (pc' := 17) rfl ?_
  refine E_arraylength X6 d_lio_17 V0 (pc' := 18) rfl ?_
  refine E_static X6 (rm := rm_min) d_lio_18 (hw _ (List.mem_of_getElem? (i := 84) rfl)) (hw _ (List.mem_of_getElem? (i := 85) rfl)) (hw _ (List.mem_of_getElem? (i := 82) rfl)) (hw _ (List.mem_of_getElem? (i := 86) rfl)) (by decide) (argsL := [(.int (Int32.ofNat cs.length)), (.int (Int32.ofNat cs.length))]) (st := []) rfl (ct_min l Z a0 hw G1 G3 OS hEL hSA (Int32.ofNat cs.length) X6.old) (lenOf (pd_7) rfl) rfl (by decide) (by decide) (by decide) (Nat.le_of_ble_eq_true rfl)  (pc' := 21) rfl ?_
  intro T9 _ X10 hQ11
  obtain ⟨rfl, e12⟩ := hQ11
  rw [← e12] at V0
  show Ends p e below s Z _ _ _ T9 (mkF m 21 #[.val (.ref t), .val (.int (10 : Int32)), .val (.int (Int32.ofNat f)), .val (.int (Int32.ofNat cs.length))] [(.int (Int32.ofNat cs.length))])
  refine E_istoreN X10 d_lio_21 (l' := #[.val (.ref t), .val (.int (10 : Int32)), .val (.int (Int32.ofNat f)), .val (.int (Int32.ofNat cs.length))]) rfl (pc' := 22) rfl ?_
  refine E_iloadN X10 d_lio_22 rfl (pc' := 23) rfl ?_
  refine E_iloadN X10 d_lio_23 rfl (pc' := 24) rfl ?_
  by_cases h24 : (Int32.ofNat f) < (Int32.ofNat cs.length)
  · skip
    refine E_icT X10 d_lio_24 (XT.ii_lt_t h24) (pc' := 29) (by decide) rfl ?_
    refine E_aloadN X10 d_lio_29 rfl rfl (pc' := 30) rfl ?_
    refine E_iloadN X10 d_lio_30 rfl (pc' := 31) rfl ?_
    refine E_iloadN X10 d_lio_31 rfl (pc' := 32) rfl ?_
    refine E_iloadN X10 d_lio_32 rfl (pc' := 33) rfl ?_
    refine E_static X10 (rm := rm_ioc) d_lio_33 (hw _ (List.mem_of_getElem? (i := 100) rfl)) (hw _ (List.mem_of_getElem? (i := 101) rfl)) (hw _ (List.mem_of_getElem? (i := 75) rfl)) (hw _ (List.mem_of_getElem? (i := 102) rfl)) (by decide) (argsL := [(.ref t), (.int (10 : Int32)), (.int (Int32.ofNat f)), (.int (Int32.ofNat cs.length))]) (st := []) rfl (ct_ioc l Z a0 hw G1 G3 OS hEL hSA t kb cs f X10.old V0 hl hp hf) (lenOf (pd_8) rfl) rfl (by decide) (by decide) (by decide) (Nat.le_of_ble_eq_true rfl)  (pc' := 36) rfl ?_
    intro T13 _ X14 hQ15
    obtain ⟨rfl, e16⟩ := hQ15
    rw [← e16] at V0
    show Ends p e below s Z _ _ _ T13 (mkF m 36 #[.val (.ref t), .val (.int (10 : Int32)), .val (.int (Int32.ofNat f)), .val (.int (Int32.ofNat cs.length))] [(.int (ixv (fnd (cs.drop f) f)))])
    exact E_ireturnI X14 d_lio_36 rfl (by decide) (by decide) (⟨rfl, (e16.trans (e12.trans (e8.trans e4)))⟩)
  · skip
    refine E_icF X10 d_lio_24 (XT.ii_lt_f h24) (pc' := 27) rfl ?_
    refine E_iconst X10 (v := (-1 : Int32)) d_lio_27 rfl (pc' := 28) rfl ?_
    exact E_ireturnI X10 d_lio_28 rfl (by decide) (by decide) (⟨by rw [fnd_end (Nat.not_lt.mp fun q => h24 ((o_lti (by omega) (by omega)).mpr q))]; rfl, (e12.trans (e8.trans e4))⟩)
theorem d_sio_0 : decode jdk_42_method_80_code 0 = .ok (.aload_n 0, 1) := by decide +kernel
theorem d_sio_1 : decode jdk_42_method_80_code 1 = .ok (.invokevirtual 492, 3) := by decide +kernel
theorem d_sio_4 : decode jdk_42_method_80_code 4 = .ok (.ifCond .eq 19, 3) := by decide +kernel
theorem d_sio_7 : decode jdk_42_method_80_code 7 = .ok (.aload_n 0, 1) := by decide +kernel
theorem d_sio_8 : decode jdk_42_method_80_code 8 = .ok (.getfield 9, 3) := by decide +kernel
theorem d_sio_11 : decode jdk_42_method_80_code 11 = .ok (.iload_n 1, 1) := by decide +kernel
theorem d_sio_12 : decode jdk_42_method_80_code 12 = .ok (.iload_n 2, 1) := by decide +kernel
theorem d_sio_13 : decode jdk_42_method_80_code 13 = .ok (.aload_n 0, 1) := by decide +kernel
theorem d_sio_14 : decode jdk_42_method_80_code 14 = .ok (.invokevirtual 505, 3) := by decide +kernel
theorem d_sio_17 : decode jdk_42_method_80_code 17 = .ok (.invokestatic 637, 3) := by decide +kernel
theorem d_sio_20 : decode jdk_42_method_80_code 20 = .ok (.goto 16, 3) := by decide +kernel
theorem d_sio_36 : decode jdk_42_method_80_code 36 = .ok (.ireturn, 1) := by decide +kernel
abbrev rm_sio : Room := ({ frames := 2, cells := 0, slots := 0, locals := 32 } : Room)
def Q_sio (Z : State) (x t : Addr) (cs : List Int32) (f : Nat) (h0 : Heap) (v : Option Value) (h : Heap) : Prop := v = some (.int (ixv (fnd (cs.drop f) f))) ∧ h = h0
set_option maxRecDepth 65536 in
set_option maxHeartbeats 40000000 in
theorem ct_sio (l : Launch) (Z : State) (a0 : Array Value) (hw : ∀ d ∈ tables_1, d.before a0 Z = true) (G1 : Int32) (G3 : Value) (OS : Sts Z G1 G3) (hEL : EW Z a0 EL) (hSA : ∀ a ∈ Bundle.stringAtoms, a.before a0 Z = true) (x t : Addr) (cs : List Int32) (f : Nat) {h0 : Heap} (O : Ext Z.heap h0) (S0 : OStr Z h0 x t cs) (hf : f ≤ cs.length) : Ct l Z (⟨"java/lang/String", "indexOf", "(II)I"⟩ : MethodName) jdk_42_method_80_code 3 (some .int) rm_sio #[(.ref x), (.int (10 : Int32)), (.int (Int32.ofNat f))] h0 (Q_sio Z x t cs f h0) := by
  refine Ct.of_body (Ls := #[.val (.ref x), .val (.int (10 : Int32)), .val (.int (Int32.ofNat f))]) (by decide +kernel) O (fun m => by first | rfl | (simp [entryFrame, mkF, argsToLocals, Value.category]; done) | (rcases ref_cases (Sts.ref OS) with rfl | ⟨r, rfl⟩ <;> rfl)) ?_
  intro p e s m below meth c T0 X0 e0
  subst e0
  refine E_aloadN X0 d_sio_0 rfl rfl (pc' := 1) rfl ?_
  refine E_virtual X0 (rm := rm_lat) (a := x) (D := "java/lang/String") d_sio_1 (hw _ (List.mem_of_getElem? (i := 57) rfl)) (hw _ (List.mem_of_getElem? (i := 58) rfl)) (hw _ (List.mem_of_getElem? (i := 60) rfl)) (hw _ (List.mem_of_getElem? (i := 59) rfl)) (notFace_of_selects (args := #[]) (mvT X0.hZ (hw _ (List.mem_of_getElem? (i := 60) rfl)))) (by decide) (OStr.exa S0) (hw _ (List.mem_of_getElem? (i := 8) rfl)) (hw _ (List.mem_of_getElem? (i := 61) rfl)) (argsL := []) (st := []) rfl (ct_lat l Z a0 hw G1 G3 OS hEL hSA x 0 X0.old (OStr.fcod S0)) (lenOf (pd_9) rfl) rfl (by decide) (by decide) (by decide) (Nat.le_of_ble_eq_true rfl)  (pc' := 4) rfl ?_
  intro T2 _ X3 hQ4
  obtain ⟨z1, rfl, e5, yz1, nz1⟩ := hQ4
  rw [← e5] at S0
  obtain rfl := yz1 rfl
  show Ends p e below s Z _ _ _ T2 (mkF m 4 #[.val (.ref x), .val (.int (10 : Int32)), .val (.int (Int32.ofNat f))] [(.int (1 : Int32))])
  refine E_ifF X3 d_sio_4 (XT.i0_eq_f (by decide)) (pc' := 7) rfl ?_
  refine E_aloadN X3 d_sio_7 rfl rfl (pc' := 8) rfl ?_
  have F6 := OStr.fval S0
  refine E_getfield X3 d_sio_8 (hw _ (List.mem_of_getElem? (i := 25) rfl)) Via.refl F6 (pc' := 11) rfl ?_
  intro T7 X8 e9
  rw [← e9] at S0 F6
  refine E_iloadN X8 d_sio_11 rfl (pc' := 12) rfl ?_
  refine E_iloadN X8 d_sio_12 rfl (pc' := 13) rfl ?_
  refine E_aloadN X8 d_sio_13 rfl rfl (pc' := 14) rfl ?_
  refine E_virtual X8 (rm := rm_slen) (a := x) (D := "java/lang/String") d_sio_14 (hw _ (List.mem_of_getElem? (i := 63) rfl)) (hw _ (List.mem_of_getElem? (i := 64) rfl)) (hw _ (List.mem_of_getElem? (i := 66) rfl)) (hw _ (List.mem_of_getElem? (i := 65) rfl)) (notFace_of_selects (args := #[]) (mvT X8.hZ (hw _ (List.mem_of_getElem? (i := 66) rfl)))) (by decide) (OStr.exa S0) (hw _ (List.mem_of_getElem? (i := 8) rfl)) (hw _ (List.mem_of_getElem? (i := 67) rfl)) (argsL := []) (st := [(.int (Int32.ofNat f)), (.int (10 : Int32)), (.ref t)]) rfl (ct_slen l Z a0 hw G1 G3 OS hEL hSA x t cs X8.old S0) (lenOf (pd_10) rfl) rfl (by decide) (by decide) (by decide) (Nat.le_of_ble_eq_true rfl)  (pc' := 17) rfl ?_
  intro T10 _ X11 hQ12
  obtain ⟨rfl, e13⟩ := hQ12
  rw [← e13] at S0 F6
  show Ends p e below s Z _ _ _ T10 (mkF m 17 #[.val (.ref x), .val (.int (10 : Int32)), .val (.int (Int32.ofNat f))] [(.int (Int32.ofNat cs.length)), (.int (Int32.ofNat f)), (.int (10 : Int32)), (.ref t)])
  obtain ⟨kb, cd, NN, vs, E0, F0, C0, V0, ⟨rfl, rfl, rfl, hl8⟩, hpc, hlen⟩ := id S0
  refine E_static X11 (rm := rm_lio) d_sio_17 (hw _ (List.mem_of_getElem? (i := 73) rfl)) (hw _ (List.mem_of_getElem? (i := 74) rfl)) (hw _ (List.mem_of_getElem? (i := 75) rfl)) (hw _ (List.mem_of_getElem? (i := 76) rfl)) (by decide) (argsL := [(.ref t), (.int (10 : Int32)), (.int (Int32.ofNat f)), (.int (Int32.ofNat cs.length))]) (st := []) rfl (ct_lio l Z a0 hw G1 G3 OS hEL hSA t kb cs f X11.old V0 hlen (fun c hc => ⟨(hpc c hc).1, hl8 c hc⟩) hf) (lenOf (pd_8) rfl) rfl (by decide) (by decide) (by decide) (Nat.le_of_ble_eq_true rfl)  (pc' := 20) rfl ?_
  intro T14 _ X15 hQ16
  obtain ⟨rfl, e17⟩ := hQ16
  rw [← e17] at S0 F6
  show Ends p e below s Z _ _ _ T14 (mkF m 20 #[.val (.ref x), .val (.int (10 : Int32)), .val (.int (Int32.ofNat f))] [(.int (ixv (fnd (cs.drop f) f)))])
  refine E_goto X15 d_sio_20 (pc' := 36) (by decide) rfl ?_
  exact E_ireturnI X15 d_sio_36 rfl (by decide) (by decide) (⟨rfl, (e17.trans (e13.trans (e9.trans e5)))⟩)
theorem d_offset_0 : decode prog_7_method_5_code 0 = .ok (.iconst 0, 1) := by decide +kernel
theorem d_offset_1 : decode prog_7_method_5_code 1 = .ok (.istore_n 2, 1) := by decide +kernel
theorem d_offset_2 : decode prog_7_method_5_code 2 = .ok (.iconst 1, 1) := by decide +kernel
theorem d_offset_3 : decode prog_7_method_5_code 3 = .ok (.istore_n 3, 1) := by decide +kernel
theorem d_offset_4 : decode prog_7_method_5_code 4 = .ok (.iload_n 3, 1) := by decide +kernel
theorem d_offset_5 : decode prog_7_method_5_code 5 = .ok (.aload_n 1, 1) := by decide +kernel
theorem d_offset_6 : decode prog_7_method_5_code 6 = .ok (.invokevirtual 134, 3) := by decide +kernel
theorem d_offset_9 : decode prog_7_method_5_code 9 = .ok (.if_icmp .ge 36, 3) := by decide +kernel
theorem d_offset_12 : decode prog_7_method_5_code 12 = .ok (.iload_n 2, 1) := by decide +kernel
theorem d_offset_13 : decode prog_7_method_5_code 13 = .ok (.ifCond .lt 32, 3) := by decide +kernel
theorem d_offset_16 : decode prog_7_method_5_code 16 = .ok (.aload_n 0, 1) := by decide +kernel
theorem d_offset_17 : decode prog_7_method_5_code 17 = .ok (.bipush 10, 2) := by decide +kernel
theorem d_offset_19 : decode prog_7_method_5_code 19 = .ok (.iload_n 2, 1) := by decide +kernel
theorem d_offset_20 : decode prog_7_method_5_code 20 = .ok (.invokevirtual 44, 3) := by decide +kernel
theorem d_offset_23 : decode prog_7_method_5_code 23 = .ok (.istore 4, 2) := by decide +kernel
theorem d_offset_25 : decode prog_7_method_5_code 25 = .ok (.iload 4, 2) := by decide +kernel
theorem d_offset_27 : decode prog_7_method_5_code 27 = .ok (.ifCond .ge 7, 3) := by decide +kernel
theorem d_offset_30 : decode prog_7_method_5_code 30 = .ok (.iconst (-1), 1) := by decide +kernel
theorem d_offset_31 : decode prog_7_method_5_code 31 = .ok (.goto 7, 3) := by decide +kernel
theorem d_offset_34 : decode prog_7_method_5_code 34 = .ok (.iload 4, 2) := by decide +kernel
theorem d_offset_36 : decode prog_7_method_5_code 36 = .ok (.iconst 1, 1) := by decide +kernel
theorem d_offset_37 : decode prog_7_method_5_code 37 = .ok (.iadd, 1) := by decide +kernel
theorem d_offset_38 : decode prog_7_method_5_code 38 = .ok (.istore_n 2, 1) := by decide +kernel
theorem d_offset_39 : decode prog_7_method_5_code 39 = .ok (.iinc 3 1, 3) := by decide +kernel
theorem d_offset_42 : decode prog_7_method_5_code 42 = .ok (.goto (-38), 3) := by decide +kernel
theorem d_offset_45 : decode prog_7_method_5_code 45 = .ok (.iload_n 2, 1) := by decide +kernel
theorem d_offset_46 : decode prog_7_method_5_code 46 = .ok (.ifCond .ge 7, 3) := by decide +kernel
theorem d_offset_49 : decode prog_7_method_5_code 49 = .ok (.iconst (-1), 1) := by decide +kernel
theorem d_offset_50 : decode prog_7_method_5_code 50 = .ok (.goto 11, 3) := by decide +kernel
theorem d_offset_53 : decode prog_7_method_5_code 53 = .ok (.iload_n 2, 1) := by decide +kernel
theorem d_offset_54 : decode prog_7_method_5_code 54 = .ok (.aload_n 1, 1) := by decide +kernel
theorem d_offset_55 : decode prog_7_method_5_code 55 = .ok (.invokevirtual 137, 3) := by decide +kernel
theorem d_offset_58 : decode prog_7_method_5_code 58 = .ok (.iadd, 1) := by decide +kernel
theorem d_offset_59 : decode prog_7_method_5_code 59 = .ok (.iconst 1, 1) := by decide +kernel
theorem d_offset_60 : decode prog_7_method_5_code 60 = .ok (.isub, 1) := by decide +kernel
theorem d_offset_61 : decode prog_7_method_5_code 61 = .ok (.ireturn, 1) := by decide +kernel
abbrev rm_offset : Room := ({ frames := 3, cells := 0, slots := 0, locals := 46 } : Room)
def Q_offset (Z : State) (x t q : Addr) (cs : List Int32) (ln co : Int32) (h0 : Heap) (v : Option Value) (h : Heap) : Prop := v = some (.int (fin (off cs ln 6 0 1) co)) ∧ h = h0
set_option maxRecDepth 65536 in
set_option maxHeartbeats 40000000 in
theorem lp_offset (l : Launch) (Z : State) (a0 : Array Value) (hw : ∀ d ∈ tables_1, d.before a0 Z = true) (G1 : Int32) (G3 : Value) (OS : Sts Z G1 G3) (hEL : EW Z a0 EL) (hSA : ∀ a ∈ Bundle.stringAtoms, a.before a0 Z = true) (x t q : Addr) (cs : List Int32) (ln co : Int32) {h0 : Heap} {p : Program} {e : Env} {s : State} {m : MethodId} {below : List Frame} {meth : Method} {c : Code} (k : Nat) : ∀ {T0 : State} (i lc : Nat) (o : Slot), Wk l Z rm_offset prog_7_method_5_code 5 (some .int) "com/example/semblance/semblance/QueryTokens" "offset" p e s m #[(.ref x), (.ref q)] below meth c T0 0 0 → (cs.length + 1 ≤ i + k) → (i ≤ cs.length) → (cs.length ≤ 4000) → (o = .unset ∨ ∃ w, o = .val w ∧ w.category = 1) → (T0.heap = h0) → (OStr Z T0.heap x t cs) → (Exa Z T0.heap q "com/example/semblance/semblance/QueryTokens$Position") → (Fld Z T0.heap q "com/example/semblance/semblance/QueryTokens$Position" "line" "I" (.int ln)) → (Fld Z T0.heap q "com/example/semblance/semblance/QueryTokens$Position" "column" "I" (.int co)) → (off cs ln k i lc = off cs ln 6 0 1) → Ends p e below s Z (Q_offset Z x t q cs ln co h0) rm_offset.cells rm_offset.slots T0 (mkF m 4 #[.val (.ref x), .val (.ref q), .val (.int (Int32.ofNat i)), .val (.int (Int32.ofNat lc)), o] []) := by
  induction k with
  | zero =>
    intro T0 i lc o X0 hi hin hl hone eh S0 E0 FL FC hof
    omega
  | succ k ih =>
    intro T0 i lc o X0 hi hin hl hone eh S0 E0 FL FC hof
    refine E_iloadN X0 d_offset_4 rfl (pc' := 5) rfl ?_
    refine E_aloadN X0 d_offset_5 rfl rfl (pc' := 6) rfl ?_
    refine E_virtual X0 (rm := rm_line) (a := q) (D := "com/example/semblance/semblance/QueryTokens$Position") d_offset_6 (hw _ (List.mem_of_getElem? (i := 47) rfl)) (hw _ (List.mem_of_getElem? (i := 48) rfl)) (hw _ (List.mem_of_getElem? (i := 50) rfl)) (hw _ (List.mem_of_getElem? (i := 49) rfl)) (notFace_of_selects (args := #[]) (mvT X0.hZ (hw _ (List.mem_of_getElem? (i := 50) rfl)))) (by decide) E0 (hw _ (List.mem_of_getElem? (i := 29) rfl)) (hw _ (List.mem_of_getElem? (i := 51) rfl)) (argsL := []) (st := [(.int (Int32.ofNat lc))]) rfl (ct_line l Z a0 hw G1 G3 OS hEL hSA q ln X0.old FL) (lenOf (pd_10) rfl) rfl (by decide) (by decide) (by decide) (Nat.le_of_ble_eq_true rfl)  (pc' := 9) rfl ?_
    intro T1 _ X2 hQ3
    obtain ⟨rfl, e4⟩ := hQ3
    rw [← e4] at S0 E0 FL FC
    show Ends p e below s Z _ _ _ T1 (mkF m 9 #[.val (.ref x), .val (.ref q), .val (.int (Int32.ofNat i)), .val (.int (Int32.ofNat lc)), o] [(.int ln), (.int (Int32.ofNat lc))])
    by_cases h9 : (Int32.ofNat lc) < ln
    · skip
      refine E_icF X2 d_offset_9 (XT.ii_ge_f h9) (pc' := 12) rfl ?_
      refine E_iloadN X2 d_offset_12 rfl (pc' := 13) rfl ?_
      refine E_ifF X2 d_offset_13 (XT.i0_lt_f (o_nn (by omega))) (pc' := 16) rfl ?_
      refine E_aloadN X2 d_offset_16 rfl rfl (pc' := 17) rfl ?_
      refine E_bipush X2 (v := (10 : Int32)) d_offset_17 rfl (pc' := 19) rfl ?_
      refine E_iloadN X2 d_offset_19 rfl (pc' := 20) rfl ?_
      refine E_virtual X2 (rm := rm_sio) (a := x) (D := "java/lang/String") d_offset_20 (hw _ (List.mem_of_getElem? (i := 52) rfl)) (hw _ (List.mem_of_getElem? (i := 53) rfl)) (hw _ (List.mem_of_getElem? (i := 55) rfl)) (hw _ (List.mem_of_getElem? (i := 54) rfl)) (notFace_of_selects (args := #[]) (mvT X2.hZ (hw _ (List.mem_of_getElem? (i := 55) rfl)))) (by decide) (OStr.exa S0) (hw _ (List.mem_of_getElem? (i := 8) rfl)) (hw _ (List.mem_of_getElem? (i := 56) rfl)) (argsL := [(.int (10 : Int32)), (.int (Int32.ofNat i))]) (st := []) rfl (ct_sio l Z a0 hw G1 G3 OS hEL hSA x t cs i X2.old S0 hin) (lenOf (pd_7) rfl) rfl (by decide) (by decide) (by decide) (Nat.le_of_ble_eq_true rfl)  (pc' := 23) rfl ?_
      intro T5 _ X6 hQ7
      obtain ⟨rfl, e8⟩ := hQ7
      rw [← e8] at S0 E0 FL FC
      rcases hfd : fnd (cs.drop i) i with _ | j
      · skip
        show Ends p e below s Z _ _ _ T5 (mkF m 23 #[.val (.ref x), .val (.ref q), .val (.int (Int32.ofNat i)), .val (.int (Int32.ofNat lc)), o] [(.int (-1 : Int32))])
        refine E_istore X6 d_offset_23 (l' := #[.val (.ref x), .val (.ref q), .val (.int (Int32.ofNat i)), .val (.int (Int32.ofNat lc)), .val (.int (-1 : Int32))]) (XS.store1 rfl hone rfl) (pc' := 25) rfl ?_
        refine E_iload X6 d_offset_25 rfl (pc' := 27) rfl ?_
        refine E_ifF X6 d_offset_27 (XT.i0_ge_f (by decide)) (pc' := 30) rfl ?_
        refine E_iconst X6 (v := (-1 : Int32)) d_offset_30 rfl (pc' := 31) rfl ?_
        refine E_goto X6 d_offset_31 (pc' := 38) (by decide) rfl ?_
        refine E_istoreN X6 d_offset_38 (l' := #[.val (.ref x), .val (.ref q), .val (.int (-1 : Int32)), .val (.int (Int32.ofNat lc)), .val (.int (-1 : Int32))]) rfl (pc' := 39) rfl ?_
        refine E_iinc X6 (y := (Int32.ofNat (lc + 1))) d_offset_39 o_add rfl (l' := #[.val (.ref x), .val (.ref q), .val (.int (-1 : Int32)), .val (.int (Int32.ofNat (lc + 1))), .val (.int (-1 : Int32))]) rfl (pc' := 42) rfl ?_
        refine E_goto X6 d_offset_42 (pc' := 4) (by decide) rfl ?_
        refine E_iloadN X6 d_offset_4 rfl (pc' := 5) rfl ?_
        refine E_aloadN X6 d_offset_5 rfl rfl (pc' := 6) rfl ?_
        refine E_virtual X6 (rm := rm_line) (a := q) (D := "com/example/semblance/semblance/QueryTokens$Position") d_offset_6 (hw _ (List.mem_of_getElem? (i := 47) rfl)) (hw _ (List.mem_of_getElem? (i := 48) rfl)) (hw _ (List.mem_of_getElem? (i := 50) rfl)) (hw _ (List.mem_of_getElem? (i := 49) rfl)) (notFace_of_selects (args := #[]) (mvT X6.hZ (hw _ (List.mem_of_getElem? (i := 50) rfl)))) (by decide) E0 (hw _ (List.mem_of_getElem? (i := 29) rfl)) (hw _ (List.mem_of_getElem? (i := 51) rfl)) (argsL := []) (st := [(.int (Int32.ofNat (lc + 1)))]) rfl (ct_line l Z a0 hw G1 G3 OS hEL hSA q ln X6.old FL) (lenOf (pd_10) rfl) rfl (by decide) (by decide) (by decide) (Nat.le_of_ble_eq_true rfl)  (pc' := 9) rfl ?_
        intro T9 _ X10 hQ11
        obtain ⟨rfl, e12⟩ := hQ11
        rw [← e12] at S0 E0 FL FC
        show Ends p e below s Z _ _ _ T9 (mkF m 9 #[.val (.ref x), .val (.ref q), .val (.int (-1 : Int32)), .val (.int (Int32.ofNat (lc + 1))), .val (.int (-1 : Int32))] [(.int ln), (.int (Int32.ofNat (lc + 1)))])
        by_cases h9b : (Int32.ofNat (lc + 1)) < ln
        · skip
          refine E_icF X10 d_offset_9 (XT.ii_ge_f h9b) (pc' := 12) rfl ?_
          refine E_iloadN X10 d_offset_12 rfl (pc' := 13) rfl ?_
          refine E_ifT X10 d_offset_13 (XT.i0_lt_t (by decide)) (pc' := 45) (by decide) rfl ?_
          refine E_iloadN X10 d_offset_45 rfl (pc' := 46) rfl ?_
          refine E_ifF X10 d_offset_46 (XT.i0_ge_f (by decide)) (pc' := 49) rfl ?_
          refine E_iconst X10 (v := (-1 : Int32)) d_offset_49 rfl (pc' := 50) rfl ?_
          refine E_goto X10 d_offset_50 (pc' := 61) (by decide) rfl ?_
          exact E_ireturnI X10 d_offset_61 rfl (by decide) (by decide) (⟨by rw [← hof, off_none h9 hfd, fin_neg rfl], (e12.trans (e8.trans (e4.trans eh)))⟩)
        · skip
          refine E_icT X10 d_offset_9 (XT.ii_ge_t h9b) (pc' := 45) (by decide) rfl ?_
          refine E_iloadN X10 d_offset_45 rfl (pc' := 46) rfl ?_
          refine E_ifF X10 d_offset_46 (XT.i0_ge_f (by decide)) (pc' := 49) rfl ?_
          refine E_iconst X10 (v := (-1 : Int32)) d_offset_49 rfl (pc' := 50) rfl ?_
          refine E_goto X10 d_offset_50 (pc' := 61) (by decide) rfl ?_
          exact E_ireturnI X10 d_offset_61 rfl (by decide) (by decide) (⟨by rw [← hof, off_none h9 hfd, fin_neg rfl], (e12.trans (e8.trans (e4.trans eh)))⟩)
      · skip
        have hj := fnd_ge _ hfd
        rw [List.length_drop] at hj
        show Ends p e below s Z _ _ _ T5 (mkF m 23 #[.val (.ref x), .val (.ref q), .val (.int (Int32.ofNat i)), .val (.int (Int32.ofNat lc)), o] [(.int (Int32.ofNat j))])
        refine E_istore X6 d_offset_23 (l' := #[.val (.ref x), .val (.ref q), .val (.int (Int32.ofNat i)), .val (.int (Int32.ofNat lc)), .val (.int (Int32.ofNat j))]) (XS.store1 rfl hone rfl) (pc' := 25) rfl ?_
        refine E_iload X6 d_offset_25 rfl (pc' := 27) rfl ?_
        refine E_ifT X6 d_offset_27 (XT.i0_ge_t (o_nn (by omega))) (pc' := 34) (by decide) rfl ?_
        refine E_iload X6 d_offset_34 rfl (pc' := 36) rfl ?_
        refine E_iconst X6 (v := (1 : Int32)) d_offset_36 rfl (pc' := 37) rfl ?_
        refine E_iadd X6 (v := (Int32.ofNat (j + 1))) d_offset_37 o_add (pc' := 38) rfl ?_
        refine E_istoreN X6 d_offset_38 (l' := #[.val (.ref x), .val (.ref q), .val (.int (Int32.ofNat (j + 1))), .val (.int (Int32.ofNat lc)), .val (.int (Int32.ofNat j))]) rfl (pc' := 39) rfl ?_
        refine E_iinc X6 (y := (Int32.ofNat (lc + 1))) d_offset_39 o_add rfl (l' := #[.val (.ref x), .val (.ref q), .val (.int (Int32.ofNat (j + 1))), .val (.int (Int32.ofNat (lc + 1))), .val (.int (Int32.ofNat j))]) rfl (pc' := 42) rfl ?_
        refine E_goto X6 d_offset_42 (pc' := 4) (by decide) rfl ?_
        exact ih (j + 1) (lc + 1) (.val (.int (Int32.ofNat j))) X6 (by omega) (by omega) hl (Or.inr ⟨_, rfl, rfl⟩) (e8.trans (e4.trans eh)) S0 E0 FL FC ((off_some h9 hfd).symm.trans hof)
    · skip
      refine E_icT X2 d_offset_9 (XT.ii_ge_t h9) (pc' := 45) (by decide) rfl ?_
      refine E_iloadN X2 d_offset_45 rfl (pc' := 46) rfl ?_
      refine E_ifT X2 d_offset_46 (XT.i0_ge_t (o_nn (by omega))) (pc' := 53) (by decide) rfl ?_
      refine E_iloadN X2 d_offset_53 rfl (pc' := 54) rfl ?_
      refine E_aloadN X2 d_offset_54 rfl rfl (pc' := 55) rfl ?_
      refine E_virtual X2 (rm := rm_column) (a := q) (D := "com/example/semblance/semblance/QueryTokens$Position") d_offset_55 (hw _ (List.mem_of_getElem? (i := 103) rfl)) (hw _ (List.mem_of_getElem? (i := 104) rfl)) (hw _ (List.mem_of_getElem? (i := 106) rfl)) (hw _ (List.mem_of_getElem? (i := 105) rfl)) (notFace_of_selects (args := #[]) (mvT X2.hZ (hw _ (List.mem_of_getElem? (i := 106) rfl)))) (by decide) E0 (hw _ (List.mem_of_getElem? (i := 29) rfl)) (hw _ (List.mem_of_getElem? (i := 107) rfl)) (argsL := []) (st := [(.int (Int32.ofNat i))]) rfl (ct_column l Z a0 hw G1 G3 OS hEL hSA q co X2.old FC) (lenOf (pd_10) rfl) rfl (by decide) (by decide) (by decide) (Nat.le_of_ble_eq_true rfl)  (pc' := 58) rfl ?_
      intro T13 _ X14 hQ15
      obtain ⟨rfl, e16⟩ := hQ15
      rw [← e16] at S0 E0 FL FC
      show Ends p e below s Z _ _ _ T13 (mkF m 58 #[.val (.ref x), .val (.ref q), .val (.int (Int32.ofNat i)), .val (.int (Int32.ofNat lc)), o] [(.int co), (.int (Int32.ofNat i))])
      refine E_iadd X14 d_offset_58 rfl (pc' := 59) rfl ?_
      refine E_iconst X14 (v := (1 : Int32)) d_offset_59 rfl (pc' := 60) rfl ?_
      refine E_isub X14 d_offset_60 rfl (pc' := 61) rfl ?_
      exact E_ireturnI X14 d_offset_61 rfl (by decide) (by decide) (⟨by rw [← hof, off_stop h9, fin, if_neg (o_nn (by omega))], (e16.trans (e4.trans eh))⟩)
set_option maxRecDepth 65536 in
set_option maxHeartbeats 40000000 in
theorem ct_offset (l : Launch) (Z : State) (a0 : Array Value) (hw : ∀ d ∈ tables_1, d.before a0 Z = true) (G1 : Int32) (G3 : Value) (OS : Sts Z G1 G3) (hEL : EW Z a0 EL) (hSA : ∀ a ∈ Bundle.stringAtoms, a.before a0 Z = true) (x t q : Addr) (cs : List Int32) (ln co : Int32) {h0 : Heap} (O : Ext Z.heap h0) (S0 : OStr Z h0 x t cs) (E0 : Exa Z h0 q "com/example/semblance/semblance/QueryTokens$Position") (FL : Fld Z h0 q "com/example/semblance/semblance/QueryTokens$Position" "line" "I" (.int ln)) (FC : Fld Z h0 q "com/example/semblance/semblance/QueryTokens$Position" "column" "I" (.int co)) (h5 : cs.length ≤ 5) (hl : cs.length ≤ 4000) : Ct l Z (⟨"com/example/semblance/semblance/QueryTokens", "offset", "(Ljava/lang/String;Lcom/example/semblance/semblance/QueryTokens$Position;)I"⟩ : MethodName) prog_7_method_5_code 5 (some .int) rm_offset #[(.ref x), (.ref q)] h0 (Q_offset Z x t q cs ln co h0) := by
  refine Ct.of_body (Ls := #[.val (.ref x), .val (.ref q), .unset, .unset, .unset]) (by decide +kernel) O (fun m => by first | rfl | (simp [entryFrame, mkF, argsToLocals, Value.category]; done) | (rcases ref_cases (Sts.ref OS) with rfl | ⟨r, rfl⟩ <;> rfl)) ?_
  intro p e s m below meth c T0 X0 e0
  subst e0
  refine E_iconst X0 (v := (0 : Int32)) d_offset_0 rfl (pc' := 1) rfl ?_
  refine E_istoreN X0 d_offset_1 (l' := #[.val (.ref x), .val (.ref q), .val (.int (0 : Int32)), .unset, .unset]) rfl (pc' := 2) rfl ?_
  refine E_iconst X0 (v := (1 : Int32)) d_offset_2 rfl (pc' := 3) rfl ?_
  refine E_istoreN X0 d_offset_3 (l' := #[.val (.ref x), .val (.ref q), .val (.int (0 : Int32)), .val (.int (1 : Int32)), .unset]) rfl (pc' := 4) rfl ?_
  exact lp_offset l Z a0 hw G1 G3 OS hEL hSA x t q cs ln co 6 0 1 .unset X0 (by omega) (by omega) hl (Or.inl rfl) rfl S0 E0 FL FC rfl
theorem d_nl_0 : decode method_4_code 0 = .ok (.iload 5, 2) := by decide +kernel
theorem d_nl_2 : decode method_4_code 2 = .ok (.ifCond .gt 16, 3) := by decide +kernel
theorem d_nl_5 : decode method_4_code 5 = .ok (.iload 4, 2) := by decide +kernel
theorem d_nl_7 : decode method_4_code 7 = .ok (.ifCond .le 11, 3) := by decide +kernel
theorem d_nl_10 : decode method_4_code 10 = .ok (.iload_n 0, 1) := by decide +kernel
theorem d_nl_11 : decode method_4_code 11 = .ok (.bipush 10, 2) := by decide +kernel
theorem d_nl_13 : decode method_4_code 13 = .ok (.if_icmp .ne 5, 3) := by decide +kernel
theorem d_nl_16 : decode method_4_code 16 = .ok (.iconst 0, 1) := by decide +kernel
theorem d_nl_17 : decode method_4_code 17 = .ok (.ireturn, 1) := by decide +kernel
theorem d_nl_18 : decode method_4_code 18 = .ok (.iload 5, 2) := by decide +kernel
theorem d_nl_20 : decode method_4_code 20 = .ok (.iconst 1, 1) := by decide +kernel
theorem d_nl_21 : decode method_4_code 21 = .ok (.if_icmp .gt 17, 3) := by decide +kernel
theorem d_nl_24 : decode method_4_code 24 = .ok (.iload 4, 2) := by decide +kernel
theorem d_nl_26 : decode method_4_code 26 = .ok (.iconst 1, 1) := by decide +kernel
theorem d_nl_27 : decode method_4_code 27 = .ok (.if_icmp .le 11, 3) := by decide +kernel
theorem d_nl_30 : decode method_4_code 30 = .ok (.iload_n 1, 1) := by decide +kernel
theorem d_nl_31 : decode method_4_code 31 = .ok (.bipush 10, 2) := by decide +kernel
theorem d_nl_33 : decode method_4_code 33 = .ok (.if_icmp .ne 5, 3) := by decide +kernel
theorem d_nl_36 : decode method_4_code 36 = .ok (.iconst 1, 1) := by decide +kernel
theorem d_nl_37 : decode method_4_code 37 = .ok (.ireturn, 1) := by decide +kernel
theorem d_nl_38 : decode method_4_code 38 = .ok (.iload 5, 2) := by decide +kernel
theorem d_nl_40 : decode method_4_code 40 = .ok (.iconst 2, 1) := by decide +kernel
theorem d_nl_41 : decode method_4_code 41 = .ok (.if_icmp .gt 17, 3) := by decide +kernel
theorem d_nl_44 : decode method_4_code 44 = .ok (.iload 4, 2) := by decide +kernel
theorem d_nl_46 : decode method_4_code 46 = .ok (.iconst 2, 1) := by decide +kernel
theorem d_nl_47 : decode method_4_code 47 = .ok (.if_icmp .le 11, 3) := by decide +kernel
theorem d_nl_50 : decode method_4_code 50 = .ok (.iload_n 2, 1) := by decide +kernel
theorem d_nl_51 : decode method_4_code 51 = .ok (.bipush 10, 2) := by decide +kernel
theorem d_nl_53 : decode method_4_code 53 = .ok (.if_icmp .ne 5, 3) := by decide +kernel
theorem d_nl_56 : decode method_4_code 56 = .ok (.iconst 2, 1) := by decide +kernel
theorem d_nl_57 : decode method_4_code 57 = .ok (.ireturn, 1) := by decide +kernel
theorem d_nl_58 : decode method_4_code 58 = .ok (.iload 5, 2) := by decide +kernel
theorem d_nl_60 : decode method_4_code 60 = .ok (.iconst 3, 1) := by decide +kernel
theorem d_nl_61 : decode method_4_code 61 = .ok (.if_icmp .gt 17, 3) := by decide +kernel
theorem d_nl_64 : decode method_4_code 64 = .ok (.iload 4, 2) := by decide +kernel
theorem d_nl_66 : decode method_4_code 66 = .ok (.iconst 3, 1) := by decide +kernel
theorem d_nl_67 : decode method_4_code 67 = .ok (.if_icmp .le 11, 3) := by decide +kernel
theorem d_nl_70 : decode method_4_code 70 = .ok (.iload_n 3, 1) := by decide +kernel
theorem d_nl_71 : decode method_4_code 71 = .ok (.bipush 10, 2) := by decide +kernel
theorem d_nl_73 : decode method_4_code 73 = .ok (.if_icmp .ne 5, 3) := by decide +kernel
theorem d_nl_76 : decode method_4_code 76 = .ok (.iconst 3, 1) := by decide +kernel
theorem d_nl_77 : decode method_4_code 77 = .ok (.ireturn, 1) := by decide +kernel
theorem d_nl_78 : decode method_4_code 78 = .ok (.iconst (-1), 1) := by decide +kernel
theorem d_nl_79 : decode method_4_code 79 = .ok (.ireturn, 1) := by decide +kernel
abbrev rm_nl : Room := ({ frames := 0, cells := 0, slots := 0, locals := 0 } : Room)
def Q_nl (Z : State) (c0 c1 c2 c3 : Int32) (n f : Nat) (h0 : Heap) (v : Option Value) (h : Heap) : Prop := v = some (.int (nlv c0 c1 c2 c3 n f)) ∧ h = h0
set_option maxRecDepth 65536 in
set_option maxHeartbeats 40000000 in
theorem sg_nl3 (l : Launch) (Z : State) (a0 : Array Value) (hw : ∀ d ∈ tables_1, d.before a0 Z = true) (G1 : Int32) (G3 : Value) (OS : Sts Z G1 G3) (hEL : EW Z a0 EL) (hSA : ∀ a ∈ Bundle.stringAtoms, a.before a0 Z = true) (c0 c1 c2 c3 : Int32) (n f : Nat) {h0 : Heap} {p : Program} {e : Env} {s : State} {m : MethodId} {below : List Frame} {meth : Method} {c : Code} : ∀ {T0 : State} , Wk l Z rm_nl method_4_code 6 (some .int) "com/example/semblance/semblance/QueryTokensOffsetPinLaw" "nl" p e s m #[(.int c0), (.int c1), (.int c2), (.int c3), (.int (Int32.ofNat n)), (.int (Int32.ofNat f))] below meth c T0 0 0 → (n ≤ 4) → (f ≤ 4) → (T0.heap = h0) → (¬ (¬ 0 < f ∧ 0 < n ∧ c0 = 10)) → (¬ (¬ 1 < f ∧ 1 < n ∧ c1 = 10)) → (¬ (¬ 2 < f ∧ 2 < n ∧ c2 = 10)) → Ends p e below s Z (Q_nl Z c0 c1 c2 c3 n f h0) rm_nl.cells rm_nl.slots T0 (mkF m 58 #[.val (.int c0), .val (.int c1), .val (.int c2), .val (.int c3), .val (.int (Int32.ofNat n)), .val (.int (Int32.ofNat f))] []) := by
  intro T0  X0 hn hf eh k0 k1 k2
  refine E_iload X0 d_nl_58 rfl (pc' := 60) rfl ?_
  refine E_iconst X0 (v := (3 : Int32)) d_nl_60 rfl (pc' := 61) rfl ?_
  by_cases pf3 : (3 : Int32) < (Int32.ofNat f)
  · skip
    refine E_icT X0 d_nl_61 (XT.ii_gt_t pf3) (pc' := 78) (by decide) rfl ?_
    have k3 : ¬ (¬ 3 < f ∧ 3 < n ∧ c3 = 10) := (fun q => q.1 ((o_lti (i := 3) (o := f) (by omega) (by omega)).mp pf3))
    refine E_iconst X0 (v := (-1 : Int32)) d_nl_78 rfl (pc' := 79) rfl ?_
    exact E_ireturnI X0 d_nl_79 rfl (by decide) (by decide) (⟨by rw [nlv, if_neg k0, if_neg k1, if_neg k2, if_neg k3], eh⟩)
  · skip
    refine E_icF X0 d_nl_61 (XT.ii_gt_f pf3) (pc' := 64) rfl ?_
    refine E_iload X0 d_nl_64 rfl (pc' := 66) rfl ?_
    refine E_iconst X0 (v := (3 : Int32)) d_nl_66 rfl (pc' := 67) rfl ?_
    by_cases pn3 : (3 : Int32) < (Int32.ofNat n)
    · skip
      refine E_icF X0 d_nl_67 (XT.ii_le_f pn3) (pc' := 70) rfl ?_
      refine E_iloadN X0 d_nl_70 rfl (pc' := 71) rfl ?_
      refine E_bipush X0 (v := (10 : Int32)) d_nl_71 rfl (pc' := 73) rfl ?_
      by_cases pc3 : c3 = (10 : Int32)
      · skip
        refine E_icF X0 d_nl_73 (XT.ii_ne_f pc3) (pc' := 76) rfl ?_
        refine E_iconst X0 (v := (3 : Int32)) d_nl_76 rfl (pc' := 77) rfl ?_
        exact E_ireturnI X0 d_nl_77 rfl (by decide) (by decide) (⟨by rw [nlv, if_neg k0, if_neg k1, if_neg k2,  if_pos ⟨fun q => pf3 ((o_lti (i := 3) (o := f) (by omega) (by omega)).mpr q), (o_lti (i := 3) (o := n) (by omega) (by omega)).mp pn3, pc3⟩], eh⟩)
      · skip
        refine E_icT X0 d_nl_73 (XT.ii_ne_t pc3) (pc' := 78) (by decide) rfl ?_
        have k3 : ¬ (¬ 3 < f ∧ 3 < n ∧ c3 = 10) := (fun q => pc3 q.2.2)
        refine E_iconst X0 (v := (-1 : Int32)) d_nl_78 rfl (pc' := 79) rfl ?_
        exact E_ireturnI X0 d_nl_79 rfl (by decide) (by decide) (⟨by rw [nlv, if_neg k0, if_neg k1, if_neg k2, if_neg k3], eh⟩)
    · skip
      refine E_icT X0 d_nl_67 (XT.ii_le_t pn3) (pc' := 78) (by decide) rfl ?_
      have k3 : ¬ (¬ 3 < f ∧ 3 < n ∧ c3 = 10) := (fun q => pn3 ((o_lti (i := 3) (o := n) (by omega) (by omega)).mpr q.2.1))
      refine E_iconst X0 (v := (-1 : Int32)) d_nl_78 rfl (pc' := 79) rfl ?_
      exact E_ireturnI X0 d_nl_79 rfl (by decide) (by decide) (⟨by rw [nlv, if_neg k0, if_neg k1, if_neg k2, if_neg k3], eh⟩)
set_option maxRecDepth 65536 in
set_option maxHeartbeats 40000000 in
theorem sg_nl2 (l : Launch) (Z : State) (a0 : Array Value) (hw : ∀ d ∈ tables_1, d.before a0 Z = true) (G1 : Int32) (G3 : Value) (OS : Sts Z G1 G3) (hEL : EW Z a0 EL) (hSA : ∀ a ∈ Bundle.stringAtoms, a.before a0 Z = true) (c0 c1 c2 c3 : Int32) (n f : Nat) {h0 : Heap} {p : Program} {e : Env} {s : State} {m : MethodId} {below : List Frame} {meth : Method} {c : Code} : ∀ {T0 : State} , Wk l Z rm_nl method_4_code 6 (some .int) "com/example/semblance/semblance/QueryTokensOffsetPinLaw" "nl" p e s m #[(.int c0), (.int c1), (.int c2), (.int c3), (.int (Int32.ofNat n)), (.int (Int32.ofNat f))] below meth c T0 0 0 → (n ≤ 4) → (f ≤ 4) → (T0.heap = h0) → (¬ (¬ 0 < f ∧ 0 < n ∧ c0 = 10)) → (¬ (¬ 1 < f ∧ 1 < n ∧ c1 = 10)) → Ends p e below s Z (Q_nl Z c0 c1 c2 c3 n f h0) rm_nl.cells rm_nl.slots T0 (mkF m 38 #[.val (.int c0), .val (.int c1), .val (.int c2), .val (.int c3), .val (.int (Int32.ofNat n)), .val (.int (Int32.ofNat f))] []) := by
  intro T0  X0 hn hf eh k0 k1
  refine E_iload X0 d_nl_38 rfl (pc' := 40) rfl ?_
  refine E_iconst X0 (v := (2 : Int32)) d_nl_40 rfl (pc' := 41) rfl ?_
  by_cases pf2 : (2 : Int32) < (Int32.ofNat f)
  · skip
    refine E_icT X0 d_nl_41 (XT.ii_gt_t pf2) (pc' := 58) (by decide) rfl ?_
    have k2 : ¬ (¬ 2 < f ∧ 2 < n ∧ c2 = 10) := (fun q => q.1 ((o_lti (i := 2) (o := f) (by omega) (by omega)).mp pf2))
    exact sg_nl3 l Z a0 hw G1 G3 OS hEL hSA c0 c1 c2 c3 n f X0 hn hf eh k0 k1 k2
  · skip
    refine E_icF X0 d_nl_41 (XT.ii_gt_f pf2) (pc' := 44) rfl ?_
    refine E_iload X0 d_nl_44 rfl (pc' := 46) rfl ?_
    refine E_iconst X0 (v := (2 : Int32)) d_nl_46 rfl (pc' := 47) rfl ?_
    by_cases pn2 : (2 : Int32) < (Int32.ofNat n)
    · skip
      refine E_icF X0 d_nl_47 (XT.ii_le_f pn2) (pc' := 50) rfl ?_
      refine E_iloadN X0 d_nl_50 rfl (pc' := 51) rfl ?_
      refine E_bipush X0 (v := (10 : Int32)) d_nl_51 rfl (pc' := 53) rfl ?_
      by_cases pc2 : c2 = (10 : Int32)
      · skip
        refine E_icF X0 d_nl_53 (XT.ii_ne_f pc2) (pc' := 56) rfl ?_
        refine E_iconst X0 (v := (2 : Int32)) d_nl_56 rfl (pc' := 57) rfl ?_
        exact E_ireturnI X0 d_nl_57 rfl (by decide) (by decide) (⟨by rw [nlv, if_neg k0, if_neg k1,  if_pos ⟨fun q => pf2 ((o_lti (i := 2) (o := f) (by omega) (by omega)).mpr q), (o_lti (i := 2) (o := n) (by omega) (by omega)).mp pn2, pc2⟩], eh⟩)
      · skip
        refine E_icT X0 d_nl_53 (XT.ii_ne_t pc2) (pc' := 58) (by decide) rfl ?_
        have k2 : ¬ (¬ 2 < f ∧ 2 < n ∧ c2 = 10) := (fun q => pc2 q.2.2)
        exact sg_nl3 l Z a0 hw G1 G3 OS hEL hSA c0 c1 c2 c3 n f X0 hn hf eh k0 k1 k2
    · skip
      refine E_icT X0 d_nl_47 (XT.ii_le_t pn2) (pc' := 58) (by decide) rfl ?_
      have k2 : ¬ (¬ 2 < f ∧ 2 < n ∧ c2 = 10) := (fun q => pn2 ((o_lti (i := 2) (o := n) (by omega) (by omega)).mpr q.2.1))
      exact sg_nl3 l Z a0 hw G1 G3 OS hEL hSA c0 c1 c2 c3 n f X0 hn hf eh k0 k1 k2
set_option maxRecDepth 65536 in
set_option maxHeartbeats 40000000 in
theorem sg_nl1 (l : Launch) (Z : State) (a0 : Array Value) (hw : ∀ d ∈ tables_1, d.before a0 Z = true) (G1 : Int32) (G3 : Value) (OS : Sts Z G1 G3) (hEL : EW Z a0 EL) (hSA : ∀ a ∈ Bundle.stringAtoms, a.before a0 Z = true) (c0 c1 c2 c3 : Int32) (n f : Nat) {h0 : Heap} {p : Program} {e : Env} {s : State} {m : MethodId} {below : List Frame} {meth : Method} {c : Code} : ∀ {T0 : State} , Wk l Z rm_nl method_4_code 6 (some .int) "com/example/semblance/semblance/QueryTokensOffsetPinLaw" "nl" p e s m #[(.int c0), (.int c1), (.int c2), (.int c3), (.int (Int32.ofNat n)), (.int (Int32.ofNat f))] below meth c T0 0 0 → (n ≤ 4) → (f ≤ 4) → (T0.heap = h0) → (¬ (¬ 0 < f ∧ 0 < n ∧ c0 = 10)) → Ends p e below s Z (Q_nl Z c0 c1 c2 c3 n f h0) rm_nl.cells rm_nl.slots T0 (mkF m 18 #[.val (.int c0), .val (.int c1), .val (.int c2), .val (.int c3), .val (.int (Int32.ofNat n)), .val (.int (Int32.ofNat f))] []) := by
  intro T0  X0 hn hf eh k0
  refine E_iload X0 d_nl_18 rfl (pc' := 20) rfl ?_
  refine E_iconst X0 (v := (1 : Int32)) d_nl_20 rfl (pc' := 21) rfl ?_
  by_cases pf1 : (1 : Int32) < (Int32.ofNat f)
  · skip
    refine E_icT X0 d_nl_21 (XT.ii_gt_t pf1) (pc' := 38) (by decide) rfl ?_
    have k1 : ¬ (¬ 1 < f ∧ 1 < n ∧ c1 = 10) := (fun q => q.1 ((o_lti (i := 1) (o := f) (by omega) (by omega)).mp pf1))
    exact sg_nl2 l Z a0 hw G1 G3 OS hEL hSA c0 c1 c2 c3 n f X0 hn hf eh k0 k1
  · skip
    refine E_icF X0 d_nl_21 (XT.ii_gt_f pf1) (pc' := 24) rfl ?_
    refine E_iload X0 d_nl_24 rfl (pc' := 26) rfl ?_
    refine E_iconst X0 (v := (1 : Int32)) d_nl_26 rfl (pc' := 27) rfl ?_
    by_cases pn1 : (1 : Int32) < (Int32.ofNat n)
    · skip
      refine E_icF X0 d_nl_27 (XT.ii_le_f pn1) (pc' := 30) rfl ?_
      refine E_iloadN X0 d_nl_30 rfl (pc' := 31) rfl ?_
      refine E_bipush X0 (v := (10 : Int32)) d_nl_31 rfl (pc' := 33) rfl ?_
      by_cases pc1 : c1 = (10 : Int32)
      · skip
        refine E_icF X0 d_nl_33 (XT.ii_ne_f pc1) (pc' := 36) rfl ?_
        refine E_iconst X0 (v := (1 : Int32)) d_nl_36 rfl (pc' := 37) rfl ?_
        exact E_ireturnI X0 d_nl_37 rfl (by decide) (by decide) (⟨by rw [nlv, if_neg k0,  if_pos ⟨fun q => pf1 ((o_lti (i := 1) (o := f) (by omega) (by omega)).mpr q), (o_lti (i := 1) (o := n) (by omega) (by omega)).mp pn1, pc1⟩], eh⟩)
      · skip
        refine E_icT X0 d_nl_33 (XT.ii_ne_t pc1) (pc' := 38) (by decide) rfl ?_
        have k1 : ¬ (¬ 1 < f ∧ 1 < n ∧ c1 = 10) := (fun q => pc1 q.2.2)
        exact sg_nl2 l Z a0 hw G1 G3 OS hEL hSA c0 c1 c2 c3 n f X0 hn hf eh k0 k1
    · skip
      refine E_icT X0 d_nl_27 (XT.ii_le_t pn1) (pc' := 38) (by decide) rfl ?_
      have k1 : ¬ (¬ 1 < f ∧ 1 < n ∧ c1 = 10) := (fun q => pn1 ((o_lti (i := 1) (o := n) (by omega) (by omega)).mpr q.2.1))
      exact sg_nl2 l Z a0 hw G1 G3 OS hEL hSA c0 c1 c2 c3 n f X0 hn hf eh k0 k1
set_option maxRecDepth 65536 in
set_option maxHeartbeats 40000000 in
theorem ct_nl (l : Launch) (Z : State) (a0 : Array Value) (hw : ∀ d ∈ tables_1, d.before a0 Z = true) (G1 : Int32) (G3 : Value) (OS : Sts Z G1 G3) (hEL : EW Z a0 EL) (hSA : ∀ a ∈ Bundle.stringAtoms, a.before a0 Z = true) (c0 c1 c2 c3 : Int32) (n f : Nat) {h0 : Heap} (O : Ext Z.heap h0) (hn : n ≤ 4) (hf : f ≤ 4) : Ct l Z (⟨"com/example/semblance/semblance/QueryTokensOffsetPinLaw", "nl", "(CCCCII)I"⟩ : MethodName) method_4_code 6 (some .int) rm_nl #[(.int c0), (.int c1), (.int c2), (.int c3), (.int (Int32.ofNat n)), (.int (Int32.ofNat f))] h0 (Q_nl Z c0 c1 c2 c3 n f h0) := by
  refine Ct.of_body (Ls := #[.val (.int c0), .val (.int c1), .val (.int c2), .val (.int c3), .val (.int (Int32.ofNat n)), .val (.int (Int32.ofNat f))]) (by decide +kernel) O (fun m => by first | rfl | (simp [entryFrame, mkF, argsToLocals, Value.category]; done) | (rcases ref_cases (Sts.ref OS) with rfl | ⟨r, rfl⟩ <;> rfl)) ?_
  intro p e s m below meth c T0 X0 e0
  subst e0
  have eh : T0.heap = T0.heap := rfl
  refine E_iload X0 d_nl_0 rfl (pc' := 2) rfl ?_
  by_cases pf0 : 0 < (Int32.ofNat f)
  · skip
    refine E_ifT X0 d_nl_2 (XT.i0_gt_t pf0) (pc' := 18) (by decide) rfl ?_
    have k0 : ¬ (¬ 0 < f ∧ 0 < n ∧ c0 = 10) := (fun q => q.1 ((o_lti (i := 0) (o := f) (by omega) (by omega)).mp pf0))
    exact sg_nl1 l Z a0 hw G1 G3 OS hEL hSA c0 c1 c2 c3 n f X0 hn hf rfl  k0
  · skip
    refine E_ifF X0 d_nl_2 (XT.i0_gt_f pf0) (pc' := 5) rfl ?_
    refine E_iload X0 d_nl_5 rfl (pc' := 7) rfl ?_
    by_cases pn0 : 0 < (Int32.ofNat n)
    · skip
      refine E_ifF X0 d_nl_7 (XT.i0_le_f pn0) (pc' := 10) rfl ?_
      refine E_iloadN X0 d_nl_10 rfl (pc' := 11) rfl ?_
      refine E_bipush X0 (v := (10 : Int32)) d_nl_11 rfl (pc' := 13) rfl ?_
      by_cases pc0 : c0 = (10 : Int32)
      · skip
        refine E_icF X0 d_nl_13 (XT.ii_ne_f pc0) (pc' := 16) rfl ?_
        refine E_iconst X0 (v := (0 : Int32)) d_nl_16 rfl (pc' := 17) rfl ?_
        exact E_ireturnI X0 d_nl_17 rfl (by decide) (by decide) (⟨by rw [nlv,  if_pos ⟨fun q => pf0 ((o_lti (i := 0) (o := f) (by omega) (by omega)).mpr q), (o_lti (i := 0) (o := n) (by omega) (by omega)).mp pn0, pc0⟩], rfl⟩)
      · skip
        refine E_icT X0 d_nl_13 (XT.ii_ne_t pc0) (pc' := 18) (by decide) rfl ?_
        have k0 : ¬ (¬ 0 < f ∧ 0 < n ∧ c0 = 10) := (fun q => pc0 q.2.2)
        exact sg_nl1 l Z a0 hw G1 G3 OS hEL hSA c0 c1 c2 c3 n f X0 hn hf rfl  k0
    · skip
      refine E_ifT X0 d_nl_7 (XT.i0_le_t pn0) (pc' := 18) (by decide) rfl ?_
      have k0 : ¬ (¬ 0 < f ∧ 0 < n ∧ c0 = 10) := (fun q => pn0 ((o_lti (i := 0) (o := n) (by omega) (by omega)).mpr q.2.1))
      exact sg_nl1 l Z a0 hw G1 G3 OS hEL hSA c0 c1 c2 c3 n f X0 hn hf rfl  k0
set_option maxRecDepth 65536 in
set_option maxHeartbeats 40000000 in
theorem sg_lawA (l : Launch) (Z : State) (a0 : Array Value) (hw : ∀ d ∈ tables_1, d.before a0 Z = true) (p0 p1 p2 p3 : Int32) (G1 : Int32) (G3 : Value) (OS : Sts Z G1 G3) (hEL : EW Z a0 EL) (hSA : ∀ a ∈ Bundle.stringAtoms, a.before a0 Z = true) {p : Program} {e : Env} {s : State} {m : MethodId} {below : List Frame} {meth : Method} {c : Code} : ∀ {vm : Vm} {T0 : State} (c0 c1 c2 c3 : Int32) (n : Nat) (x t : Addr) (cs : List Int32) (o9 : Slot), Ww l Z ({ frames := 7, cells := 24, slots := 1152, locals := 176 } : Room) code 19 (some .boolean) "com/example/semblance/semblance/QueryTokensOffsetPinLaw" "law" p e s m #[(.int p0), (.int p1), (.int p2), (.int p3)] below meth c vm T0 8 64 → (OStr Z T0.heap x t cs) → (cs = [c0, c1, c2, c3].take n) → (n ≤ 4) → EndW p e below s Z (fun v _ => v = some (.int 1)) 24 1152 T0 (mkF m 104 #[.val (.int p0), .val (.int p1), .val (.int p2), .val (.int p3), .val (.int (Int32.ofNat n)), .val (.int c0), .val (.int c1), .val (.int c2), .val (.int c3), o9, .val (.ref x), .unset, .unset, .unset, .unset, .unset, .unset, .unset, .unset] []) := by
  intro vm T0 c0 c1 c2 c3 n x t cs o9 X0 S0 hcs hn
  have hlc : cs.length ≤ 4 := by rw [hcs]; simp; omega
  refine F_new X0 at_104 (hw _ (List.mem_of_getElem? (i := 27) rfl)) (hw _ (List.mem_of_getElem? (i := 28) rfl)) (hw _ (List.mem_of_getElem? (i := 29) rfl)) (by decide) (by decide) (pc' := 107) rfl ?_
  intro T1 b3 X2 hb4 K5 E6 D7
  have ne8 : x ≠ b3 := Nat.ne_of_lt (Nat.lt_of_lt_of_eq (OStr.lt S0) hb4.symm)
  have ne9 : t ≠ b3 := Nat.ne_of_lt (Nat.lt_of_lt_of_eq (OStr.ltv S0) hb4.symm)
  have Str_10 := OStr.keep S0 K5 nin0 nin0
  have g11 : Z.heap.size ≤ b3 := Nat.le_trans X0.le (Nat.le_of_eq hb4.symm)
  have F12 : Fld Z T1.heap b3 "com/example/semblance/semblance/QueryTokens$Position" "line" "I" (.int (0 : Int32)) := D7 (Or.inr (hw _ (List.mem_of_getElem? (i := 40) rfl))) (ty := .int) (by decide)
  have F13 : Fld Z T1.heap b3 "com/example/semblance/semblance/QueryTokens$Position" "column" "I" (.int (0 : Int32)) := D7 (Or.inr (hw _ (List.mem_of_getElem? (i := 42) rfl))) (ty := .int) (by decide)
  refine F_dup X2 at_107 rfl (pc' := 108) rfl ?_
  refine F_iloadN X2 at_108 rfl (pc' := 109) rfl ?_
  refine F_iloadN X2 at_109 rfl (pc' := 110) rfl ?_
  refine F_special X2 (rm := rm_pinit) (a := b3) at_110 rfl rfl (hw _ (List.mem_of_getElem? (i := 30) rfl)) (hw _ (List.mem_of_getElem? (i := 31) rfl)) (hw _ (List.mem_of_getElem? (i := 32) rfl)) (by decide) (hw _ (List.mem_of_getElem? (i := 29) rfl)) (argsL := [(.int p2), (.int p3)]) (st := [(.ref b3)]) rfl (ct_pinit l Z a0 hw G1 G3 OS hEL hSA b3 (.int (0 : Int32)) (.int (0 : Int32)) p2 p3 X2.old E6 F12 F13 g11) (lenOf (pd_11) rfl) rfl (by decide) (by decide) (by decide) (Nat.le_of_ble_eq_true rfl) [b3] (fun _ _ q => q.2.1) (sfS (Safe.exa X2.al E6 (by decide) (by decide)) (sf0))  (pc' := 113) rfl ?_
  intro T14 _ X15 hQ16
  obtain ⟨rfl, K17, FL, FC⟩ := hQ16
  have Str_18 := OStr.keep Str_10 K17 (ninS ne8 nin0) (ninS ne9 nin0)
  have Exa_19 := E6.keep K17
  show EndW p e below s Z _ _ _ T14 (mkF m 113 #[.val (.int p0), .val (.int p1), .val (.int p2), .val (.int p3), .val (.int (Int32.ofNat n)), .val (.int c0), .val (.int c1), .val (.int c2), .val (.int c3), o9, .val (.ref x), .unset, .unset, .unset, .unset, .unset, .unset, .unset, .unset] [(.ref b3)])
  refine F_astore X15 at_113 rfl (l' := #[.val (.int p0), .val (.int p1), .val (.int p2), .val (.int p3), .val (.int (Int32.ofNat n)), .val (.int c0), .val (.int c1), .val (.int c2), .val (.int c3), o9, .val (.ref x), .val (.ref b3), .unset, .unset, .unset, .unset, .unset, .unset, .unset]) rfl (pc' := 115) rfl ?_
  refine F_aload X15 at_115 rfl rfl (pc' := 117) rfl ?_
  refine F_aload X15 at_117 rfl rfl (pc' := 119) rfl ?_
  refine F_static X15 (rm := rm_offset) at_119 (hw _ (List.mem_of_getElem? (i := 43) rfl)) (hw _ (List.mem_of_getElem? (i := 44) rfl)) (hw _ (List.mem_of_getElem? (i := 45) rfl)) (hw _ (List.mem_of_getElem? (i := 46) rfl)) (by decide) (argsL := [(.ref x), (.ref b3)]) (st := []) rfl (ct_offset l Z a0 hw G1 G3 OS hEL hSA x t b3 cs p2 p3 X15.old Str_18 Exa_19 FL FC (by omega) (by omega)) (lenOf (pd_12) rfl) rfl (by decide) (by decide) (by decide) (Nat.le_of_ble_eq_true rfl) [] (fun _ _ q => by obtain ⟨_, e⟩ := q; exact own_ks e) (sf0)  (pc' := 122) rfl ?_
  intro T20 _ X21 hQ22
  obtain ⟨rfl, e23⟩ := hQ22
  rw [← e23] at Str_18 Exa_19 FL FC
  show EndW p e below s Z _ _ _ T20 (mkF m 122 #[.val (.int p0), .val (.int p1), .val (.int p2), .val (.int p3), .val (.int (Int32.ofNat n)), .val (.int c0), .val (.int c1), .val (.int c2), .val (.int c3), o9, .val (.ref x), .val (.ref b3), .unset, .unset, .unset, .unset, .unset, .unset, .unset] [(.int (fin (off cs p2 6 0 1) p3))])
  refine F_istore X21 at_122 (l' := #[.val (.int p0), .val (.int p1), .val (.int p2), .val (.int p3), .val (.int (Int32.ofNat n)), .val (.int c0), .val (.int c1), .val (.int c2), .val (.int c3), o9, .val (.ref x), .val (.ref b3), .val (.int (fin (off cs p2 6 0 1) p3)), .unset, .unset, .unset, .unset, .unset, .unset]) rfl (pc' := 124) rfl ?_
  refine F_iloadN X21 at_124 rfl (pc' := 125) rfl ?_
  refine F_iconst X21 (v := (1 : Int32)) at_125 rfl (pc' := 126) rfl ?_
  by_cases e1 : (1 : Int32) < p2
  · skip
    refine F_icT X21 at_126 (XT.ii_gt_t e1) (pc' := 135) (by decide) rfl ?_
    refine F_iload X21 at_135 rfl (pc' := 137) rfl ?_
    refine F_iload X21 at_137 rfl (pc' := 139) rfl ?_
    refine F_iload X21 at_139 rfl (pc' := 141) rfl ?_
    refine F_iload X21 at_141 rfl (pc' := 143) rfl ?_
    refine F_iload X21 at_143 rfl (pc' := 145) rfl ?_
    refine F_iconst X21 (v := (0 : Int32)) at_145 rfl (pc' := 146) rfl ?_
    refine F_static X21 (rm := rm_nl) at_146 (hw _ (List.mem_of_getElem? (i := 87) rfl)) (hw _ (List.mem_of_getElem? (i := 88) rfl)) (hw _ (List.mem_of_getElem? (i := 3) rfl)) (hw _ (List.mem_of_getElem? (i := 89) rfl)) (by decide) (argsL := [(.int c0), (.int c1), (.int c2), (.int c3), (.int (Int32.ofNat n)), (.int (0 : Int32))]) (st := []) rfl (ct_nl l Z a0 hw G1 G3 OS hEL hSA c0 c1 c2 c3 n 0 X21.old hn (by omega)) (lenOf (pd_13) rfl) rfl (by decide) (by decide) (by decide) (Nat.le_of_ble_eq_true rfl) [] (fun _ _ q => by obtain ⟨_, e⟩ := q; exact own_ks e) (sf0)  (pc' := 149) rfl ?_
    intro T24 _ X25 hQ26
    obtain ⟨rfl, e27⟩ := hQ26
    rw [← e27] at Str_18 Exa_19 FL FC
    rw [nlv_fnd hn (by omega) hcs]
    rcases hf1 : fnd (cs.drop 0) 0 with _ | j1
    · skip
      show EndW p e below s Z _ _ _ T24 (mkF m 149 #[.val (.int p0), .val (.int p1), .val (.int p2), .val (.int p3), .val (.int (Int32.ofNat n)), .val (.int c0), .val (.int c1), .val (.int c2), .val (.int c3), o9, .val (.ref x), .val (.ref b3), .val (.int (fin (off cs p2 6 0 1) p3)), .unset, .unset, .unset, .unset, .unset, .unset] [(.int (-1 : Int32))])
      refine F_istore X25 at_149 (l' := #[.val (.int p0), .val (.int p1), .val (.int p2), .val (.int p3), .val (.int (Int32.ofNat n)), .val (.int c0), .val (.int c1), .val (.int c2), .val (.int c3), o9, .val (.ref x), .val (.ref b3), .val (.int (fin (off cs p2 6 0 1) p3)), .unset, .val (.int (-1 : Int32)), .unset, .unset, .unset, .unset]) rfl (pc' := 151) rfl ?_
      refine F_iload X25 at_151 rfl (pc' := 153) rfl ?_
      refine F_ifF X25 at_153 (XT.i0_ge_f (by decide)) (pc' := 156) rfl ?_
      refine F_iconst X25 (v := (-1 : Int32)) at_156 rfl (pc' := 157) rfl ?_
      refine F_goto X25 at_157 (pc' := 177) (by decide) rfl ?_
      refine F_istore X25 at_177 (l' := #[.val (.int p0), .val (.int p1), .val (.int p2), .val (.int p3), .val (.int (Int32.ofNat n)), .val (.int c0), .val (.int c1), .val (.int c2), .val (.int c3), o9, .val (.ref x), .val (.ref b3), .val (.int (fin (off cs p2 6 0 1) p3)), .unset, .val (.int (-1 : Int32)), .val (.int (-1 : Int32)), .unset, .unset, .unset]) rfl (pc' := 179) rfl ?_
      refine F_iload X25 at_179 rfl (pc' := 181) rfl ?_
      refine F_ifF X25 at_181 (XT.i0_ge_f (by decide)) (pc' := 184) rfl ?_
      refine F_iconst X25 (v := (-1 : Int32)) at_184 rfl (pc' := 185) rfl ?_
      refine F_goto X25 at_185 (pc' := 205) (by decide) rfl ?_
      refine F_istore X25 at_205 (l' := #[.val (.int p0), .val (.int p1), .val (.int p2), .val (.int p3), .val (.int (Int32.ofNat n)), .val (.int c0), .val (.int c1), .val (.int c2), .val (.int c3), o9, .val (.ref x), .val (.ref b3), .val (.int (fin (off cs p2 6 0 1) p3)), .unset, .val (.int (-1 : Int32)), .val (.int (-1 : Int32)), .val (.int (-1 : Int32)), .unset, .unset]) rfl (pc' := 207) rfl ?_
      refine F_iload X25 at_207 rfl (pc' := 209) rfl ?_
      refine F_ifF X25 at_209 (XT.i0_ge_f (by decide)) (pc' := 212) rfl ?_
      refine F_iconst X25 (v := (-1 : Int32)) at_212 rfl (pc' := 213) rfl ?_
      refine F_goto X25 at_213 (pc' := 233) (by decide) rfl ?_
      refine F_istore X25 at_233 (l' := #[.val (.int p0), .val (.int p1), .val (.int p2), .val (.int p3), .val (.int (Int32.ofNat n)), .val (.int c0), .val (.int c1), .val (.int c2), .val (.int c3), o9, .val (.ref x), .val (.ref b3), .val (.int (fin (off cs p2 6 0 1) p3)), .unset, .val (.int (-1 : Int32)), .val (.int (-1 : Int32)), .val (.int (-1 : Int32)), .val (.int (-1 : Int32)), .unset]) rfl (pc' := 235) rfl ?_
      refine F_iloadN X25 at_235 rfl (pc' := 236) rfl ?_
      refine F_iconst X25 (v := (2 : Int32)) at_236 rfl (pc' := 237) rfl ?_
      by_cases e2 : p2 = (2 : Int32)
      · skip
        refine F_icF X25 at_237 (XT.ii_ne_f e2) (pc' := 240) rfl ?_
        refine F_iload X25 at_240 rfl (pc' := 242) rfl ?_
        refine F_istore X25 at_242 (l' := #[.val (.int p0), .val (.int p1), .val (.int p2), .val (.int p3), .val (.int (Int32.ofNat n)), .val (.int c0), .val (.int c1), .val (.int c2), .val (.int c3), o9, .val (.ref x), .val (.ref b3), .val (.int (fin (off cs p2 6 0 1) p3)), .unset, .val (.int (-1 : Int32)), .val (.int (-1 : Int32)), .val (.int (-1 : Int32)), .val (.int (-1 : Int32)), .val (.int (-1 : Int32))]) rfl (pc' := 244) rfl ?_
        refine F_goto X25 at_244 (pc' := 286) (by decide) rfl ?_
        refine F_iload X25 at_286 rfl (pc' := 288) rfl ?_
        refine F_ifF X25 at_288 (XT.i0_ge_f (by decide)) (pc' := 291) rfl ?_
        refine F_iconst X25 (v := (-1 : Int32)) at_291 rfl (pc' := 292) rfl ?_
        refine F_goto X25 at_292 (pc' := 299) (by decide) rfl ?_
        refine F_istore X25 at_299 (l' := #[.val (.int p0), .val (.int p1), .val (.int p2), .val (.int p3), .val (.int (Int32.ofNat n)), .val (.int c0), .val (.int c1), .val (.int c2), .val (.int c3), o9, .val (.ref x), .val (.ref b3), .val (.int (fin (off cs p2 6 0 1) p3)), .val (.int (-1 : Int32)), .val (.int (-1 : Int32)), .val (.int (-1 : Int32)), .val (.int (-1 : Int32)), .val (.int (-1 : Int32)), .val (.int (-1 : Int32))]) rfl (pc' := 301) rfl ?_
        refine F_iload X25 at_301 rfl (pc' := 303) rfl ?_
        refine F_ifF X25 at_303 (XT.i0_ge_f (by decide)) (pc' := 306) rfl ?_
        refine F_iconst X25 (v := (-1 : Int32)) at_306 rfl (pc' := 307) rfl ?_
        refine F_goto X25 at_307 (pc' := 316) (by decide) rfl ?_
        refine F_istore X25 at_316 (l' := #[.val (.int p0), .val (.int p1), .val (.int p2), .val (.int p3), .val (.int (Int32.ofNat n)), .val (.int c0), .val (.int c1), .val (.int c2), .val (.int c3), o9, .val (.ref x), .val (.ref b3), .val (.int (fin (off cs p2 6 0 1) p3)), .val (.int (-1 : Int32)), .val (.int (-1 : Int32)), .val (.int (-1 : Int32)), .val (.int (-1 : Int32)), .val (.int (-1 : Int32)), .val (.int (-1 : Int32))]) rfl (pc' := 318) rfl ?_
        refine F_iload X25 at_318 rfl (pc' := 320) rfl ?_
        refine F_iload X25 at_320 rfl (pc' := 322) rfl ?_
        refine F_icF X25 at_322 (XT.ii_ne_f (fin_neg (off_none (by rw [e2]; decide) hf1))) (pc' := 325) rfl ?_
        refine F_iconst X25 (v := (1 : Int32)) at_325 rfl (pc' := 326) rfl ?_
        refine F_goto X25 at_326 (pc' := 330) (by decide) rfl ?_
        exact F_ireturnN X25 (t := .boolean) at_330 rfl (by simp) (by decide) (by decide) (rfl)
      · skip
        refine F_icT X25 at_237 (XT.ii_ne_t e2) (pc' := 247) (by decide) rfl ?_
        refine F_iloadN X25 at_247 rfl (pc' := 248) rfl ?_
        refine F_iconst X25 (v := (3 : Int32)) at_248 rfl (pc' := 249) rfl ?_
        by_cases e3 : p2 = (3 : Int32)
        · skip
          refine F_icF X25 at_249 (XT.ii_ne_f e3) (pc' := 252) rfl ?_
          refine F_iload X25 at_252 rfl (pc' := 254) rfl ?_
          refine F_istore X25 at_254 (l' := #[.val (.int p0), .val (.int p1), .val (.int p2), .val (.int p3), .val (.int (Int32.ofNat n)), .val (.int c0), .val (.int c1), .val (.int c2), .val (.int c3), o9, .val (.ref x), .val (.ref b3), .val (.int (fin (off cs p2 6 0 1) p3)), .unset, .val (.int (-1 : Int32)), .val (.int (-1 : Int32)), .val (.int (-1 : Int32)), .val (.int (-1 : Int32)), .val (.int (-1 : Int32))]) rfl (pc' := 256) rfl ?_
          refine F_goto X25 at_256 (pc' := 286) (by decide) rfl ?_
          refine F_iload X25 at_286 rfl (pc' := 288) rfl ?_
          refine F_ifF X25 at_288 (XT.i0_ge_f (by decide)) (pc' := 291) rfl ?_
          refine F_iconst X25 (v := (-1 : Int32)) at_291 rfl (pc' := 292) rfl ?_
          refine F_goto X25 at_292 (pc' := 299) (by decide) rfl ?_
          refine F_istore X25 at_299 (l' := #[.val (.int p0), .val (.int p1), .val (.int p2), .val (.int p3), .val (.int (Int32.ofNat n)), .val (.int c0), .val (.int c1), .val (.int c2), .val (.int c3), o9, .val (.ref x), .val (.ref b3), .val (.int (fin (off cs p2 6 0 1) p3)), .val (.int (-1 : Int32)), .val (.int (-1 : Int32)), .val (.int (-1 : Int32)), .val (.int (-1 : Int32)), .val (.int (-1 : Int32)), .val (.int (-1 : Int32))]) rfl (pc' := 301) rfl ?_
          refine F_iload X25 at_301 rfl (pc' := 303) rfl ?_
          refine F_ifF X25 at_303 (XT.i0_ge_f (by decide)) (pc' := 306) rfl ?_
          refine F_iconst X25 (v := (-1 : Int32)) at_306 rfl (pc' := 307) rfl ?_
          refine F_goto X25 at_307 (pc' := 316) (by decide) rfl ?_
          refine F_istore X25 at_316 (l' := #[.val (.int p0), .val (.int p1), .val (.int p2), .val (.int p3), .val (.int (Int32.ofNat n)), .val (.int c0), .val (.int c1), .val (.int c2), .val (.int c3), o9, .val (.ref x), .val (.ref b3), .val (.int (fin (off cs p2 6 0 1) p3)), .val (.int (-1 : Int32)), .val (.int (-1 : Int32)), .val (.int (-1 : Int32)), .val (.int (-1 : Int32)), .val (.int (-1 : Int32)), .val (.int (-1 : Int32))]) rfl (pc' := 318) rfl ?_
          refine F_iload X25 at_318 rfl (pc' := 320) rfl ?_
          refine F_iload X25 at_320 rfl (pc' := 322) rfl ?_
          refine F_icF X25 at_322 (XT.ii_ne_f (fin_neg (off_none (by rw [e3]; decide) hf1))) (pc' := 325) rfl ?_
          refine F_iconst X25 (v := (1 : Int32)) at_325 rfl (pc' := 326) rfl ?_
          refine F_goto X25 at_326 (pc' := 330) (by decide) rfl ?_
          exact F_ireturnN X25 (t := .boolean) at_330 rfl (by simp) (by decide) (by decide) (rfl)
        · skip
          refine F_icT X25 at_249 (XT.ii_ne_t e3) (pc' := 259) (by decide) rfl ?_
          refine F_iloadN X25 at_259 rfl (pc' := 260) rfl ?_
          refine F_iconst X25 (v := (4 : Int32)) at_260 rfl (pc' := 261) rfl ?_
          by_cases e4 : p2 = (4 : Int32)
          · skip
            refine F_icF X25 at_261 (XT.ii_ne_f e4) (pc' := 264) rfl ?_
            refine F_iload X25 at_264 rfl (pc' := 266) rfl ?_
            refine F_istore X25 at_266 (l' := #[.val (.int p0), .val (.int p1), .val (.int p2), .val (.int p3), .val (.int (Int32.ofNat n)), .val (.int c0), .val (.int c1), .val (.int c2), .val (.int c3), o9, .val (.ref x), .val (.ref b3), .val (.int (fin (off cs p2 6 0 1) p3)), .unset, .val (.int (-1 : Int32)), .val (.int (-1 : Int32)), .val (.int (-1 : Int32)), .val (.int (-1 : Int32)), .val (.int (-1 : Int32))]) rfl (pc' := 268) rfl ?_
            refine F_goto X25 at_268 (pc' := 286) (by decide) rfl ?_
            refine F_iload X25 at_286 rfl (pc' := 288) rfl ?_
            refine F_ifF X25 at_288 (XT.i0_ge_f (by decide)) (pc' := 291) rfl ?_
            refine F_iconst X25 (v := (-1 : Int32)) at_291 rfl (pc' := 292) rfl ?_
            refine F_goto X25 at_292 (pc' := 299) (by decide) rfl ?_
            refine F_istore X25 at_299 (l' := #[.val (.int p0), .val (.int p1), .val (.int p2), .val (.int p3), .val (.int (Int32.ofNat n)), .val (.int c0), .val (.int c1), .val (.int c2), .val (.int c3), o9, .val (.ref x), .val (.ref b3), .val (.int (fin (off cs p2 6 0 1) p3)), .val (.int (-1 : Int32)), .val (.int (-1 : Int32)), .val (.int (-1 : Int32)), .val (.int (-1 : Int32)), .val (.int (-1 : Int32)), .val (.int (-1 : Int32))]) rfl (pc' := 301) rfl ?_
            refine F_iload X25 at_301 rfl (pc' := 303) rfl ?_
            refine F_ifF X25 at_303 (XT.i0_ge_f (by decide)) (pc' := 306) rfl ?_
            refine F_iconst X25 (v := (-1 : Int32)) at_306 rfl (pc' := 307) rfl ?_
            refine F_goto X25 at_307 (pc' := 316) (by decide) rfl ?_
            refine F_istore X25 at_316 (l' := #[.val (.int p0), .val (.int p1), .val (.int p2), .val (.int p3), .val (.int (Int32.ofNat n)), .val (.int c0), .val (.int c1), .val (.int c2), .val (.int c3), o9, .val (.ref x), .val (.ref b3), .val (.int (fin (off cs p2 6 0 1) p3)), .val (.int (-1 : Int32)), .val (.int (-1 : Int32)), .val (.int (-1 : Int32)), .val (.int (-1 : Int32)), .val (.int (-1 : Int32)), .val (.int (-1 : Int32))]) rfl (pc' := 318) rfl ?_
            refine F_iload X25 at_318 rfl (pc' := 320) rfl ?_
            refine F_iload X25 at_320 rfl (pc' := 322) rfl ?_
            refine F_icF X25 at_322 (XT.ii_ne_f (fin_neg (off_none (by rw [e4]; decide) hf1))) (pc' := 325) rfl ?_
            refine F_iconst X25 (v := (1 : Int32)) at_325 rfl (pc' := 326) rfl ?_
            refine F_goto X25 at_326 (pc' := 330) (by decide) rfl ?_
            exact F_ireturnN X25 (t := .boolean) at_330 rfl (by simp) (by decide) (by decide) (rfl)
          · skip
            refine F_icT X25 at_261 (XT.ii_ne_t e4) (pc' := 271) (by decide) rfl ?_
            refine F_iloadN X25 at_271 rfl (pc' := 272) rfl ?_
            refine F_iconst X25 (v := (5 : Int32)) at_272 rfl (pc' := 273) rfl ?_
            by_cases e5 : p2 = (5 : Int32)
            · skip
              refine F_icF X25 at_273 (XT.ii_ne_f e5) (pc' := 276) rfl ?_
              refine F_iload X25 at_276 rfl (pc' := 278) rfl ?_
              refine F_istore X25 at_278 (l' := #[.val (.int p0), .val (.int p1), .val (.int p2), .val (.int p3), .val (.int (Int32.ofNat n)), .val (.int c0), .val (.int c1), .val (.int c2), .val (.int c3), o9, .val (.ref x), .val (.ref b3), .val (.int (fin (off cs p2 6 0 1) p3)), .unset, .val (.int (-1 : Int32)), .val (.int (-1 : Int32)), .val (.int (-1 : Int32)), .val (.int (-1 : Int32)), .val (.int (-1 : Int32))]) rfl (pc' := 280) rfl ?_
              refine F_goto X25 at_280 (pc' := 286) (by decide) rfl ?_
              refine F_iload X25 at_286 rfl (pc' := 288) rfl ?_
              refine F_ifF X25 at_288 (XT.i0_ge_f (by decide)) (pc' := 291) rfl ?_
              refine F_iconst X25 (v := (-1 : Int32)) at_291 rfl (pc' := 292) rfl ?_
              refine F_goto X25 at_292 (pc' := 299) (by decide) rfl ?_
              refine F_istore X25 at_299 (l' := #[.val (.int p0), .val (.int p1), .val (.int p2), .val (.int p3), .val (.int (Int32.ofNat n)), .val (.int c0), .val (.int c1), .val (.int c2), .val (.int c3), o9, .val (.ref x), .val (.ref b3), .val (.int (fin (off cs p2 6 0 1) p3)), .val (.int (-1 : Int32)), .val (.int (-1 : Int32)), .val (.int (-1 : Int32)), .val (.int (-1 : Int32)), .val (.int (-1 : Int32)), .val (.int (-1 : Int32))]) rfl (pc' := 301) rfl ?_
              refine F_iload X25 at_301 rfl (pc' := 303) rfl ?_
              refine F_ifF X25 at_303 (XT.i0_ge_f (by decide)) (pc' := 306) rfl ?_
              refine F_iconst X25 (v := (-1 : Int32)) at_306 rfl (pc' := 307) rfl ?_
              refine F_goto X25 at_307 (pc' := 316) (by decide) rfl ?_
              refine F_istore X25 at_316 (l' := #[.val (.int p0), .val (.int p1), .val (.int p2), .val (.int p3), .val (.int (Int32.ofNat n)), .val (.int c0), .val (.int c1), .val (.int c2), .val (.int c3), o9, .val (.ref x), .val (.ref b3), .val (.int (fin (off cs p2 6 0 1) p3)), .val (.int (-1 : Int32)), .val (.int (-1 : Int32)), .val (.int (-1 : Int32)), .val (.int (-1 : Int32)), .val (.int (-1 : Int32)), .val (.int (-1 : Int32))]) rfl (pc' := 318) rfl ?_
              refine F_iload X25 at_318 rfl (pc' := 320) rfl ?_
              refine F_iload X25 at_320 rfl (pc' := 322) rfl ?_
              refine F_icF X25 at_322 (XT.ii_ne_f (fin_neg (off_none (by rw [e5]; decide) hf1))) (pc' := 325) rfl ?_
              refine F_iconst X25 (v := (1 : Int32)) at_325 rfl (pc' := 326) rfl ?_
              refine F_goto X25 at_326 (pc' := 330) (by decide) rfl ?_
              exact F_ireturnN X25 (t := .boolean) at_330 rfl (by simp) (by decide) (by decide) (rfl)
            · skip
              refine F_icT X25 at_273 (XT.ii_ne_t e5) (pc' := 283) (by decide) rfl ?_
              refine F_iconst X25 (v := (-1 : Int32)) at_283 rfl (pc' := 284) rfl ?_
              refine F_istore X25 at_284 (l' := #[.val (.int p0), .val (.int p1), .val (.int p2), .val (.int p3), .val (.int (Int32.ofNat n)), .val (.int c0), .val (.int c1), .val (.int c2), .val (.int c3), o9, .val (.ref x), .val (.ref b3), .val (.int (fin (off cs p2 6 0 1) p3)), .unset, .val (.int (-1 : Int32)), .val (.int (-1 : Int32)), .val (.int (-1 : Int32)), .val (.int (-1 : Int32)), .val (.int (-1 : Int32))]) rfl (pc' := 286) rfl ?_
              refine F_iload X25 at_286 rfl (pc' := 288) rfl ?_
              refine F_ifF X25 at_288 (XT.i0_ge_f (by decide)) (pc' := 291) rfl ?_
              refine F_iconst X25 (v := (-1 : Int32)) at_291 rfl (pc' := 292) rfl ?_
              refine F_goto X25 at_292 (pc' := 299) (by decide) rfl ?_
              refine F_istore X25 at_299 (l' := #[.val (.int p0), .val (.int p1), .val (.int p2), .val (.int p3), .val (.int (Int32.ofNat n)), .val (.int c0), .val (.int c1), .val (.int c2), .val (.int c3), o9, .val (.ref x), .val (.ref b3), .val (.int (fin (off cs p2 6 0 1) p3)), .val (.int (-1 : Int32)), .val (.int (-1 : Int32)), .val (.int (-1 : Int32)), .val (.int (-1 : Int32)), .val (.int (-1 : Int32)), .val (.int (-1 : Int32))]) rfl (pc' := 301) rfl ?_
              refine F_iload X25 at_301 rfl (pc' := 303) rfl ?_
              refine F_ifF X25 at_303 (XT.i0_ge_f (by decide)) (pc' := 306) rfl ?_
              refine F_iconst X25 (v := (-1 : Int32)) at_306 rfl (pc' := 307) rfl ?_
              refine F_goto X25 at_307 (pc' := 316) (by decide) rfl ?_
              refine F_istore X25 at_316 (l' := #[.val (.int p0), .val (.int p1), .val (.int p2), .val (.int p3), .val (.int (Int32.ofNat n)), .val (.int c0), .val (.int c1), .val (.int c2), .val (.int c3), o9, .val (.ref x), .val (.ref b3), .val (.int (fin (off cs p2 6 0 1) p3)), .val (.int (-1 : Int32)), .val (.int (-1 : Int32)), .val (.int (-1 : Int32)), .val (.int (-1 : Int32)), .val (.int (-1 : Int32)), .val (.int (-1 : Int32))]) rfl (pc' := 318) rfl ?_
              refine F_iload X25 at_318 rfl (pc' := 320) rfl ?_
              refine F_iload X25 at_320 rfl (pc' := 322) rfl ?_
              refine F_icF X25 at_322 (XT.ii_ne_f (fin_neg (off_none (ln_big e1 e2 e3 e4 e5).1 hf1))) (pc' := 325) rfl ?_
              refine F_iconst X25 (v := (1 : Int32)) at_325 rfl (pc' := 326) rfl ?_
              refine F_goto X25 at_326 (pc' := 330) (by decide) rfl ?_
              exact F_ireturnN X25 (t := .boolean) at_330 rfl (by simp) (by decide) (by decide) (rfl)
    · skip
      have hj1 := fnd_ge _ hf1
      rw [List.length_drop] at hj1
      show EndW p e below s Z _ _ _ T24 (mkF m 149 #[.val (.int p0), .val (.int p1), .val (.int p2), .val (.int p3), .val (.int (Int32.ofNat n)), .val (.int c0), .val (.int c1), .val (.int c2), .val (.int c3), o9, .val (.ref x), .val (.ref b3), .val (.int (fin (off cs p2 6 0 1) p3)), .unset, .unset, .unset, .unset, .unset, .unset] [(.int (Int32.ofNat j1))])
      refine F_istore X25 at_149 (l' := #[.val (.int p0), .val (.int p1), .val (.int p2), .val (.int p3), .val (.int (Int32.ofNat n)), .val (.int c0), .val (.int c1), .val (.int c2), .val (.int c3), o9, .val (.ref x), .val (.ref b3), .val (.int (fin (off cs p2 6 0 1) p3)), .unset, .val (.int (Int32.ofNat j1)), .unset, .unset, .unset, .unset]) rfl (pc' := 151) rfl ?_
      refine F_iload X25 at_151 rfl (pc' := 153) rfl ?_
      refine F_ifT X25 at_153 (XT.i0_ge_t (o_nn (by omega))) (pc' := 160) (by decide) rfl ?_
      refine F_iload X25 at_160 rfl (pc' := 162) rfl ?_
      refine F_iload X25 at_162 rfl (pc' := 164) rfl ?_
      refine F_iload X25 at_164 rfl (pc' := 166) rfl ?_
      refine F_iload X25 at_166 rfl (pc' := 168) rfl ?_
      refine F_iload X25 at_168 rfl (pc' := 170) rfl ?_
      refine F_iload X25 at_170 rfl (pc' := 172) rfl ?_
      refine F_iconst X25 (v := (1 : Int32)) at_172 rfl (pc' := 173) rfl ?_
      refine F_iadd X25 (v := (Int32.ofNat (j1 + 1))) at_173 o_add (pc' := 174) rfl ?_
      refine F_static X25 (rm := rm_nl) at_174 (hw _ (List.mem_of_getElem? (i := 87) rfl)) (hw _ (List.mem_of_getElem? (i := 88) rfl)) (hw _ (List.mem_of_getElem? (i := 3) rfl)) (hw _ (List.mem_of_getElem? (i := 89) rfl)) (by decide) (argsL := [(.int c0), (.int c1), (.int c2), (.int c3), (.int (Int32.ofNat n)), (.int (Int32.ofNat (j1 + 1)))]) (st := []) rfl (ct_nl l Z a0 hw G1 G3 OS hEL hSA c0 c1 c2 c3 n (j1 + 1) X25.old hn (by omega)) (lenOf (pd_13) rfl) rfl (by decide) (by decide) (by decide) (Nat.le_of_ble_eq_true rfl) [] (fun _ _ q => by obtain ⟨_, e⟩ := q; exact own_ks e) (sf0)  (pc' := 177) rfl ?_
      intro T28 _ X29 hQ30
      obtain ⟨rfl, e31⟩ := hQ30
      rw [← e31] at Str_18 Exa_19 FL FC
      rw [nlv_fnd hn (by omega) hcs]
      rcases hf2 : fnd (cs.drop (j1 + 1)) (j1 + 1) with _ | j2
      · skip
        show EndW p e below s Z _ _ _ T28 (mkF m 177 #[.val (.int p0), .val (.int p1), .val (.int p2), .val (.int p3), .val (.int (Int32.ofNat n)), .val (.int c0), .val (.int c1), .val (.int c2), .val (.int c3), o9, .val (.ref x), .val (.ref b3), .val (.int (fin (off cs p2 6 0 1) p3)), .unset, .val (.int (Int32.ofNat j1)), .unset, .unset, .unset, .unset] [(.int (-1 : Int32))])
        refine F_istore X29 at_177 (l' := #[.val (.int p0), .val (.int p1), .val (.int p2), .val (.int p3), .val (.int (Int32.ofNat n)), .val (.int c0), .val (.int c1), .val (.int c2), .val (.int c3), o9, .val (.ref x), .val (.ref b3), .val (.int (fin (off cs p2 6 0 1) p3)), .unset, .val (.int (Int32.ofNat j1)), .val (.int (-1 : Int32)), .unset, .unset, .unset]) rfl (pc' := 179) rfl ?_
        refine F_iload X29 at_179 rfl (pc' := 181) rfl ?_
        refine F_ifF X29 at_181 (XT.i0_ge_f (by decide)) (pc' := 184) rfl ?_
        refine F_iconst X29 (v := (-1 : Int32)) at_184 rfl (pc' := 185) rfl ?_
        refine F_goto X29 at_185 (pc' := 205) (by decide) rfl ?_
        refine F_istore X29 at_205 (l' := #[.val (.int p0), .val (.int p1), .val (.int p2), .val (.int p3), .val (.int (Int32.ofNat n)), .val (.int c0), .val (.int c1), .val (.int c2), .val (.int c3), o9, .val (.ref x), .val (.ref b3), .val (.int (fin (off cs p2 6 0 1) p3)), .unset, .val (.int (Int32.ofNat j1)), .val (.int (-1 : Int32)), .val (.int (-1 : Int32)), .unset, .unset]) rfl (pc' := 207) rfl ?_
        refine F_iload X29 at_207 rfl (pc' := 209) rfl ?_
        refine F_ifF X29 at_209 (XT.i0_ge_f (by decide)) (pc' := 212) rfl ?_
        refine F_iconst X29 (v := (-1 : Int32)) at_212 rfl (pc' := 213) rfl ?_
        refine F_goto X29 at_213 (pc' := 233) (by decide) rfl ?_
        refine F_istore X29 at_233 (l' := #[.val (.int p0), .val (.int p1), .val (.int p2), .val (.int p3), .val (.int (Int32.ofNat n)), .val (.int c0), .val (.int c1), .val (.int c2), .val (.int c3), o9, .val (.ref x), .val (.ref b3), .val (.int (fin (off cs p2 6 0 1) p3)), .unset, .val (.int (Int32.ofNat j1)), .val (.int (-1 : Int32)), .val (.int (-1 : Int32)), .val (.int (-1 : Int32)), .unset]) rfl (pc' := 235) rfl ?_
        refine F_iloadN X29 at_235 rfl (pc' := 236) rfl ?_
        refine F_iconst X29 (v := (2 : Int32)) at_236 rfl (pc' := 237) rfl ?_
        by_cases e2 : p2 = (2 : Int32)
        · skip
          refine F_icF X29 at_237 (XT.ii_ne_f e2) (pc' := 240) rfl ?_
          refine F_iload X29 at_240 rfl (pc' := 242) rfl ?_
          refine F_istore X29 at_242 (l' := #[.val (.int p0), .val (.int p1), .val (.int p2), .val (.int p3), .val (.int (Int32.ofNat n)), .val (.int c0), .val (.int c1), .val (.int c2), .val (.int c3), o9, .val (.ref x), .val (.ref b3), .val (.int (fin (off cs p2 6 0 1) p3)), .unset, .val (.int (Int32.ofNat j1)), .val (.int (-1 : Int32)), .val (.int (-1 : Int32)), .val (.int (-1 : Int32)), .val (.int (Int32.ofNat j1))]) rfl (pc' := 244) rfl ?_
          refine F_goto X29 at_244 (pc' := 286) (by decide) rfl ?_
          refine F_iload X29 at_286 rfl (pc' := 288) rfl ?_
          refine F_ifT X29 at_288 (XT.i0_ge_t (o_nn (by omega))) (pc' := 295) (by decide) rfl ?_
          refine F_iload X29 at_295 rfl (pc' := 297) rfl ?_
          refine F_iconst X29 (v := (1 : Int32)) at_297 rfl (pc' := 298) rfl ?_
          refine F_iadd X29 (v := (Int32.ofNat (j1 + 1))) at_298 o_add (pc' := 299) rfl ?_
          refine F_istore X29 at_299 (l' := #[.val (.int p0), .val (.int p1), .val (.int p2), .val (.int p3), .val (.int (Int32.ofNat n)), .val (.int c0), .val (.int c1), .val (.int c2), .val (.int c3), o9, .val (.ref x), .val (.ref b3), .val (.int (fin (off cs p2 6 0 1) p3)), .val (.int (Int32.ofNat (j1 + 1))), .val (.int (Int32.ofNat j1)), .val (.int (-1 : Int32)), .val (.int (-1 : Int32)), .val (.int (-1 : Int32)), .val (.int (Int32.ofNat j1))]) rfl (pc' := 301) rfl ?_
          refine F_iload X29 at_301 rfl (pc' := 303) rfl ?_
          refine F_ifT X29 at_303 (XT.i0_ge_t (o_nn (by omega))) (pc' := 310) (by decide) rfl ?_
          refine F_iload X29 at_310 rfl (pc' := 312) rfl ?_
          refine F_iloadN X29 at_312 rfl (pc' := 313) rfl ?_
          refine F_iadd X29 at_313 rfl (pc' := 314) rfl ?_
          refine F_iconst X29 (v := (1 : Int32)) at_314 rfl (pc' := 315) rfl ?_
          refine F_isub X29 at_315 rfl (pc' := 316) rfl ?_
          refine F_istore X29 at_316 (l' := #[.val (.int p0), .val (.int p1), .val (.int p2), .val (.int p3), .val (.int (Int32.ofNat n)), .val (.int c0), .val (.int c1), .val (.int c2), .val (.int c3), o9, .val (.ref x), .val (.ref b3), .val (.int (fin (off cs p2 6 0 1) p3)), .val (.int (Int32.ofNat (j1 + 1))), .val (.int (((Int32.ofNat (j1 + 1)) + p3) - (1 : Int32))), .val (.int (-1 : Int32)), .val (.int (-1 : Int32)), .val (.int (-1 : Int32)), .val (.int (Int32.ofNat j1))]) rfl (pc' := 318) rfl ?_
          refine F_iload X29 at_318 rfl (pc' := 320) rfl ?_
          refine F_iload X29 at_320 rfl (pc' := 322) rfl ?_
          refine F_icF X29 at_322 (XT.ii_ne_f (fin_pos (k := j1 + 1) ((off_some (by rw [e2]; decide) hf1).trans (off_stop (by rw [e2]; decide))) (by omega))) (pc' := 325) rfl ?_
          refine F_iconst X29 (v := (1 : Int32)) at_325 rfl (pc' := 326) rfl ?_
          refine F_goto X29 at_326 (pc' := 330) (by decide) rfl ?_
          exact F_ireturnN X29 (t := .boolean) at_330 rfl (by simp) (by decide) (by decide) (rfl)
        · skip
          refine F_icT X29 at_237 (XT.ii_ne_t e2) (pc' := 247) (by decide) rfl ?_
          refine F_iloadN X29 at_247 rfl (pc' := 248) rfl ?_
          refine F_iconst X29 (v := (3 : Int32)) at_248 rfl (pc' := 249) rfl ?_
          by_cases e3 : p2 = (3 : Int32)
          · skip
            refine F_icF X29 at_249 (XT.ii_ne_f e3) (pc' := 252) rfl ?_
            refine F_iload X29 at_252 rfl (pc' := 254) rfl ?_
            refine F_istore X29 at_254 (l' := #[.val (.int p0), .val (.int p1), .val (.int p2), .val (.int p3), .val (.int (Int32.ofNat n)), .val (.int c0), .val (.int c1), .val (.int c2), .val (.int c3), o9, .val (.ref x), .val (.ref b3), .val (.int (fin (off cs p2 6 0 1) p3)), .unset, .val (.int (Int32.ofNat j1)), .val (.int (-1 : Int32)), .val (.int (-1 : Int32)), .val (.int (-1 : Int32)), .val (.int (-1 : Int32))]) rfl (pc' := 256) rfl ?_
            refine F_goto X29 at_256 (pc' := 286) (by decide) rfl ?_
            refine F_iload X29 at_286 rfl (pc' := 288) rfl ?_
            refine F_ifF X29 at_288 (XT.i0_ge_f (by decide)) (pc' := 291) rfl ?_
            refine F_iconst X29 (v := (-1 : Int32)) at_291 rfl (pc' := 292) rfl ?_
            refine F_goto X29 at_292 (pc' := 299) (by decide) rfl ?_
            refine F_istore X29 at_299 (l' := #[.val (.int p0), .val (.int p1), .val (.int p2), .val (.int p3), .val (.int (Int32.ofNat n)), .val (.int c0), .val (.int c1), .val (.int c2), .val (.int c3), o9, .val (.ref x), .val (.ref b3), .val (.int (fin (off cs p2 6 0 1) p3)), .val (.int (-1 : Int32)), .val (.int (Int32.ofNat j1)), .val (.int (-1 : Int32)), .val (.int (-1 : Int32)), .val (.int (-1 : Int32)), .val (.int (-1 : Int32))]) rfl (pc' := 301) rfl ?_
            refine F_iload X29 at_301 rfl (pc' := 303) rfl ?_
            refine F_ifF X29 at_303 (XT.i0_ge_f (by decide)) (pc' := 306) rfl ?_
            refine F_iconst X29 (v := (-1 : Int32)) at_306 rfl (pc' := 307) rfl ?_
            refine F_goto X29 at_307 (pc' := 316) (by decide) rfl ?_
            refine F_istore X29 at_316 (l' := #[.val (.int p0), .val (.int p1), .val (.int p2), .val (.int p3), .val (.int (Int32.ofNat n)), .val (.int c0), .val (.int c1), .val (.int c2), .val (.int c3), o9, .val (.ref x), .val (.ref b3), .val (.int (fin (off cs p2 6 0 1) p3)), .val (.int (-1 : Int32)), .val (.int (-1 : Int32)), .val (.int (-1 : Int32)), .val (.int (-1 : Int32)), .val (.int (-1 : Int32)), .val (.int (-1 : Int32))]) rfl (pc' := 318) rfl ?_
            refine F_iload X29 at_318 rfl (pc' := 320) rfl ?_
            refine F_iload X29 at_320 rfl (pc' := 322) rfl ?_
            refine F_icF X29 at_322 (XT.ii_ne_f (fin_neg ((off_some (by rw [e3]; decide) hf1).trans (off_none (by rw [e3]; decide) hf2)))) (pc' := 325) rfl ?_
            refine F_iconst X29 (v := (1 : Int32)) at_325 rfl (pc' := 326) rfl ?_
            refine F_goto X29 at_326 (pc' := 330) (by decide) rfl ?_
            exact F_ireturnN X29 (t := .boolean) at_330 rfl (by simp) (by decide) (by decide) (rfl)
          · skip
            refine F_icT X29 at_249 (XT.ii_ne_t e3) (pc' := 259) (by decide) rfl ?_
            refine F_iloadN X29 at_259 rfl (pc' := 260) rfl ?_
            refine F_iconst X29 (v := (4 : Int32)) at_260 rfl (pc' := 261) rfl ?_
            by_cases e4 : p2 = (4 : Int32)
            · skip
              refine F_icF X29 at_261 (XT.ii_ne_f e4) (pc' := 264) rfl ?_
              refine F_iload X29 at_264 rfl (pc' := 266) rfl ?_
              refine F_istore X29 at_266 (l' := #[.val (.int p0), .val (.int p1), .val (.int p2), .val (.int p3), .val (.int (Int32.ofNat n)), .val (.int c0), .val (.int c1), .val (.int c2), .val (.int c3), o9, .val (.ref x), .val (.ref b3), .val (.int (fin (off cs p2 6 0 1) p3)), .unset, .val (.int (Int32.ofNat j1)), .val (.int (-1 : Int32)), .val (.int (-1 : Int32)), .val (.int (-1 : Int32)), .val (.int (-1 : Int32))]) rfl (pc' := 268) rfl ?_
              refine F_goto X29 at_268 (pc' := 286) (by decide) rfl ?_
              refine F_iload X29 at_286 rfl (pc' := 288) rfl ?_
              refine F_ifF X29 at_288 (XT.i0_ge_f (by decide)) (pc' := 291) rfl ?_
              refine F_iconst X29 (v := (-1 : Int32)) at_291 rfl (pc' := 292) rfl ?_
              refine F_goto X29 at_292 (pc' := 299) (by decide) rfl ?_
              refine F_istore X29 at_299 (l' := #[.val (.int p0), .val (.int p1), .val (.int p2), .val (.int p3), .val (.int (Int32.ofNat n)), .val (.int c0), .val (.int c1), .val (.int c2), .val (.int c3), o9, .val (.ref x), .val (.ref b3), .val (.int (fin (off cs p2 6 0 1) p3)), .val (.int (-1 : Int32)), .val (.int (Int32.ofNat j1)), .val (.int (-1 : Int32)), .val (.int (-1 : Int32)), .val (.int (-1 : Int32)), .val (.int (-1 : Int32))]) rfl (pc' := 301) rfl ?_
              refine F_iload X29 at_301 rfl (pc' := 303) rfl ?_
              refine F_ifF X29 at_303 (XT.i0_ge_f (by decide)) (pc' := 306) rfl ?_
              refine F_iconst X29 (v := (-1 : Int32)) at_306 rfl (pc' := 307) rfl ?_
              refine F_goto X29 at_307 (pc' := 316) (by decide) rfl ?_
              refine F_istore X29 at_316 (l' := #[.val (.int p0), .val (.int p1), .val (.int p2), .val (.int p3), .val (.int (Int32.ofNat n)), .val (.int c0), .val (.int c1), .val (.int c2), .val (.int c3), o9, .val (.ref x), .val (.ref b3), .val (.int (fin (off cs p2 6 0 1) p3)), .val (.int (-1 : Int32)), .val (.int (-1 : Int32)), .val (.int (-1 : Int32)), .val (.int (-1 : Int32)), .val (.int (-1 : Int32)), .val (.int (-1 : Int32))]) rfl (pc' := 318) rfl ?_
              refine F_iload X29 at_318 rfl (pc' := 320) rfl ?_
              refine F_iload X29 at_320 rfl (pc' := 322) rfl ?_
              refine F_icF X29 at_322 (XT.ii_ne_f (fin_neg ((off_some (by rw [e4]; decide) hf1).trans (off_none (by rw [e4]; decide) hf2)))) (pc' := 325) rfl ?_
              refine F_iconst X29 (v := (1 : Int32)) at_325 rfl (pc' := 326) rfl ?_
              refine F_goto X29 at_326 (pc' := 330) (by decide) rfl ?_
              exact F_ireturnN X29 (t := .boolean) at_330 rfl (by simp) (by decide) (by decide) (rfl)
            · skip
              refine F_icT X29 at_261 (XT.ii_ne_t e4) (pc' := 271) (by decide) rfl ?_
              refine F_iloadN X29 at_271 rfl (pc' := 272) rfl ?_
              refine F_iconst X29 (v := (5 : Int32)) at_272 rfl (pc' := 273) rfl ?_
              by_cases e5 : p2 = (5 : Int32)
              · skip
                refine F_icF X29 at_273 (XT.ii_ne_f e5) (pc' := 276) rfl ?_
                refine F_iload X29 at_276 rfl (pc' := 278) rfl ?_
                refine F_istore X29 at_278 (l' := #[.val (.int p0), .val (.int p1), .val (.int p2), .val (.int p3), .val (.int (Int32.ofNat n)), .val (.int c0), .val (.int c1), .val (.int c2), .val (.int c3), o9, .val (.ref x), .val (.ref b3), .val (.int (fin (off cs p2 6 0 1) p3)), .unset, .val (.int (Int32.ofNat j1)), .val (.int (-1 : Int32)), .val (.int (-1 : Int32)), .val (.int (-1 : Int32)), .val (.int (-1 : Int32))]) rfl (pc' := 280) rfl ?_
                refine F_goto X29 at_280 (pc' := 286) (by decide) rfl ?_
                refine F_iload X29 at_286 rfl (pc' := 288) rfl ?_
                refine F_ifF X29 at_288 (XT.i0_ge_f (by decide)) (pc' := 291) rfl ?_
                refine F_iconst X29 (v := (-1 : Int32)) at_291 rfl (pc' := 292) rfl ?_
                refine F_goto X29 at_292 (pc' := 299) (by decide) rfl ?_
                refine F_istore X29 at_299 (l' := #[.val (.int p0), .val (.int p1), .val (.int p2), .val (.int p3), .val (.int (Int32.ofNat n)), .val (.int c0), .val (.int c1), .val (.int c2), .val (.int c3), o9, .val (.ref x), .val (.ref b3), .val (.int (fin (off cs p2 6 0 1) p3)), .val (.int (-1 : Int32)), .val (.int (Int32.ofNat j1)), .val (.int (-1 : Int32)), .val (.int (-1 : Int32)), .val (.int (-1 : Int32)), .val (.int (-1 : Int32))]) rfl (pc' := 301) rfl ?_
                refine F_iload X29 at_301 rfl (pc' := 303) rfl ?_
                refine F_ifF X29 at_303 (XT.i0_ge_f (by decide)) (pc' := 306) rfl ?_
                refine F_iconst X29 (v := (-1 : Int32)) at_306 rfl (pc' := 307) rfl ?_
                refine F_goto X29 at_307 (pc' := 316) (by decide) rfl ?_
                refine F_istore X29 at_316 (l' := #[.val (.int p0), .val (.int p1), .val (.int p2), .val (.int p3), .val (.int (Int32.ofNat n)), .val (.int c0), .val (.int c1), .val (.int c2), .val (.int c3), o9, .val (.ref x), .val (.ref b3), .val (.int (fin (off cs p2 6 0 1) p3)), .val (.int (-1 : Int32)), .val (.int (-1 : Int32)), .val (.int (-1 : Int32)), .val (.int (-1 : Int32)), .val (.int (-1 : Int32)), .val (.int (-1 : Int32))]) rfl (pc' := 318) rfl ?_
                refine F_iload X29 at_318 rfl (pc' := 320) rfl ?_
                refine F_iload X29 at_320 rfl (pc' := 322) rfl ?_
                refine F_icF X29 at_322 (XT.ii_ne_f (fin_neg ((off_some (by rw [e5]; decide) hf1).trans (off_none (by rw [e5]; decide) hf2)))) (pc' := 325) rfl ?_
                refine F_iconst X29 (v := (1 : Int32)) at_325 rfl (pc' := 326) rfl ?_
                refine F_goto X29 at_326 (pc' := 330) (by decide) rfl ?_
                exact F_ireturnN X29 (t := .boolean) at_330 rfl (by simp) (by decide) (by decide) (rfl)
              · skip
                refine F_icT X29 at_273 (XT.ii_ne_t e5) (pc' := 283) (by decide) rfl ?_
                refine F_iconst X29 (v := (-1 : Int32)) at_283 rfl (pc' := 284) rfl ?_
                refine F_istore X29 at_284 (l' := #[.val (.int p0), .val (.int p1), .val (.int p2), .val (.int p3), .val (.int (Int32.ofNat n)), .val (.int c0), .val (.int c1), .val (.int c2), .val (.int c3), o9, .val (.ref x), .val (.ref b3), .val (.int (fin (off cs p2 6 0 1) p3)), .unset, .val (.int (Int32.ofNat j1)), .val (.int (-1 : Int32)), .val (.int (-1 : Int32)), .val (.int (-1 : Int32)), .val (.int (-1 : Int32))]) rfl (pc' := 286) rfl ?_
                refine F_iload X29 at_286 rfl (pc' := 288) rfl ?_
                refine F_ifF X29 at_288 (XT.i0_ge_f (by decide)) (pc' := 291) rfl ?_
                refine F_iconst X29 (v := (-1 : Int32)) at_291 rfl (pc' := 292) rfl ?_
                refine F_goto X29 at_292 (pc' := 299) (by decide) rfl ?_
                refine F_istore X29 at_299 (l' := #[.val (.int p0), .val (.int p1), .val (.int p2), .val (.int p3), .val (.int (Int32.ofNat n)), .val (.int c0), .val (.int c1), .val (.int c2), .val (.int c3), o9, .val (.ref x), .val (.ref b3), .val (.int (fin (off cs p2 6 0 1) p3)), .val (.int (-1 : Int32)), .val (.int (Int32.ofNat j1)), .val (.int (-1 : Int32)), .val (.int (-1 : Int32)), .val (.int (-1 : Int32)), .val (.int (-1 : Int32))]) rfl (pc' := 301) rfl ?_
                refine F_iload X29 at_301 rfl (pc' := 303) rfl ?_
                refine F_ifF X29 at_303 (XT.i0_ge_f (by decide)) (pc' := 306) rfl ?_
                refine F_iconst X29 (v := (-1 : Int32)) at_306 rfl (pc' := 307) rfl ?_
                refine F_goto X29 at_307 (pc' := 316) (by decide) rfl ?_
                refine F_istore X29 at_316 (l' := #[.val (.int p0), .val (.int p1), .val (.int p2), .val (.int p3), .val (.int (Int32.ofNat n)), .val (.int c0), .val (.int c1), .val (.int c2), .val (.int c3), o9, .val (.ref x), .val (.ref b3), .val (.int (fin (off cs p2 6 0 1) p3)), .val (.int (-1 : Int32)), .val (.int (-1 : Int32)), .val (.int (-1 : Int32)), .val (.int (-1 : Int32)), .val (.int (-1 : Int32)), .val (.int (-1 : Int32))]) rfl (pc' := 318) rfl ?_
                refine F_iload X29 at_318 rfl (pc' := 320) rfl ?_
                refine F_iload X29 at_320 rfl (pc' := 322) rfl ?_
                refine F_icF X29 at_322 (XT.ii_ne_f (fin_neg ((off_some (ln_big e1 e2 e3 e4 e5).1 hf1).trans (off_none (ln_big e1 e2 e3 e4 e5).2.1 hf2)))) (pc' := 325) rfl ?_
                refine F_iconst X29 (v := (1 : Int32)) at_325 rfl (pc' := 326) rfl ?_
                refine F_goto X29 at_326 (pc' := 330) (by decide) rfl ?_
                exact F_ireturnN X29 (t := .boolean) at_330 rfl (by simp) (by decide) (by decide) (rfl)
      · skip
        have hj2 := fnd_ge _ hf2
        rw [List.length_drop] at hj2
        show EndW p e below s Z _ _ _ T28 (mkF m 177 #[.val (.int p0), .val (.int p1), .val (.int p2), .val (.int p3), .val (.int (Int32.ofNat n)), .val (.int c0), .val (.int c1), .val (.int c2), .val (.int c3), o9, .val (.ref x), .val (.ref b3), .val (.int (fin (off cs p2 6 0 1) p3)), .unset, .val (.int (Int32.ofNat j1)), .unset, .unset, .unset, .unset] [(.int (Int32.ofNat j2))])
        refine F_istore X29 at_177 (l' := #[.val (.int p0), .val (.int p1), .val (.int p2), .val (.int p3), .val (.int (Int32.ofNat n)), .val (.int c0), .val (.int c1), .val (.int c2), .val (.int c3), o9, .val (.ref x), .val (.ref b3), .val (.int (fin (off cs p2 6 0 1) p3)), .unset, .val (.int (Int32.ofNat j1)), .val (.int (Int32.ofNat j2)), .unset, .unset, .unset]) rfl (pc' := 179) rfl ?_
        refine F_iload X29 at_179 rfl (pc' := 181) rfl ?_
        refine F_ifT X29 at_181 (XT.i0_ge_t (o_nn (by omega))) (pc' := 188) (by decide) rfl ?_
        refine F_iload X29 at_188 rfl (pc' := 190) rfl ?_
        refine F_iload X29 at_190 rfl (pc' := 192) rfl ?_
        refine F_iload X29 at_192 rfl (pc' := 194) rfl ?_
        refine F_iload X29 at_194 rfl (pc' := 196) rfl ?_
        refine F_iload X29 at_196 rfl (pc' := 198) rfl ?_
        refine F_iload X29 at_198 rfl (pc' := 200) rfl ?_
        refine F_iconst X29 (v := (1 : Int32)) at_200 rfl (pc' := 201) rfl ?_
        refine F_iadd X29 (v := (Int32.ofNat (j2 + 1))) at_201 o_add (pc' := 202) rfl ?_
        refine F_static X29 (rm := rm_nl) at_202 (hw _ (List.mem_of_getElem? (i := 87) rfl)) (hw _ (List.mem_of_getElem? (i := 88) rfl)) (hw _ (List.mem_of_getElem? (i := 3) rfl)) (hw _ (List.mem_of_getElem? (i := 89) rfl)) (by decide) (argsL := [(.int c0), (.int c1), (.int c2), (.int c3), (.int (Int32.ofNat n)), (.int (Int32.ofNat (j2 + 1)))]) (st := []) rfl (ct_nl l Z a0 hw G1 G3 OS hEL hSA c0 c1 c2 c3 n (j2 + 1) X29.old hn (by omega)) (lenOf (pd_13) rfl) rfl (by decide) (by decide) (by decide) (Nat.le_of_ble_eq_true rfl) [] (fun _ _ q => by obtain ⟨_, e⟩ := q; exact own_ks e) (sf0)  (pc' := 205) rfl ?_
        intro T32 _ X33 hQ34
        obtain ⟨rfl, e35⟩ := hQ34
        rw [← e35] at Str_18 Exa_19 FL FC
        rw [nlv_fnd hn (by omega) hcs]
        rcases hf3 : fnd (cs.drop (j2 + 1)) (j2 + 1) with _ | j3
        · skip
          show EndW p e below s Z _ _ _ T32 (mkF m 205 #[.val (.int p0), .val (.int p1), .val (.int p2), .val (.int p3), .val (.int (Int32.ofNat n)), .val (.int c0), .val (.int c1), .val (.int c2), .val (.int c3), o9, .val (.ref x), .val (.ref b3), .val (.int (fin (off cs p2 6 0 1) p3)), .unset, .val (.int (Int32.ofNat j1)), .val (.int (Int32.ofNat j2)), .unset, .unset, .unset] [(.int (-1 : Int32))])
          refine F_istore X33 at_205 (l' := #[.val (.int p0), .val (.int p1), .val (.int p2), .val (.int p3), .val (.int (Int32.ofNat n)), .val (.int c0), .val (.int c1), .val (.int c2), .val (.int c3), o9, .val (.ref x), .val (.ref b3), .val (.int (fin (off cs p2 6 0 1) p3)), .unset, .val (.int (Int32.ofNat j1)), .val (.int (Int32.ofNat j2)), .val (.int (-1 : Int32)), .unset, .unset]) rfl (pc' := 207) rfl ?_
          refine F_iload X33 at_207 rfl (pc' := 209) rfl ?_
          refine F_ifF X33 at_209 (XT.i0_ge_f (by decide)) (pc' := 212) rfl ?_
          refine F_iconst X33 (v := (-1 : Int32)) at_212 rfl (pc' := 213) rfl ?_
          refine F_goto X33 at_213 (pc' := 233) (by decide) rfl ?_
          refine F_istore X33 at_233 (l' := #[.val (.int p0), .val (.int p1), .val (.int p2), .val (.int p3), .val (.int (Int32.ofNat n)), .val (.int c0), .val (.int c1), .val (.int c2), .val (.int c3), o9, .val (.ref x), .val (.ref b3), .val (.int (fin (off cs p2 6 0 1) p3)), .unset, .val (.int (Int32.ofNat j1)), .val (.int (Int32.ofNat j2)), .val (.int (-1 : Int32)), .val (.int (-1 : Int32)), .unset]) rfl (pc' := 235) rfl ?_
          refine F_iloadN X33 at_235 rfl (pc' := 236) rfl ?_
          refine F_iconst X33 (v := (2 : Int32)) at_236 rfl (pc' := 237) rfl ?_
          by_cases e2 : p2 = (2 : Int32)
          · skip
            refine F_icF X33 at_237 (XT.ii_ne_f e2) (pc' := 240) rfl ?_
            refine F_iload X33 at_240 rfl (pc' := 242) rfl ?_
            refine F_istore X33 at_242 (l' := #[.val (.int p0), .val (.int p1), .val (.int p2), .val (.int p3), .val (.int (Int32.ofNat n)), .val (.int c0), .val (.int c1), .val (.int c2), .val (.int c3), o9, .val (.ref x), .val (.ref b3), .val (.int (fin (off cs p2 6 0 1) p3)), .unset, .val (.int (Int32.ofNat j1)), .val (.int (Int32.ofNat j2)), .val (.int (-1 : Int32)), .val (.int (-1 : Int32)), .val (.int (Int32.ofNat j1))]) rfl (pc' := 244) rfl ?_
            refine F_goto X33 at_244 (pc' := 286) (by decide) rfl ?_
            refine F_iload X33 at_286 rfl (pc' := 288) rfl ?_
            refine F_ifT X33 at_288 (XT.i0_ge_t (o_nn (by omega))) (pc' := 295) (by decide) rfl ?_
            refine F_iload X33 at_295 rfl (pc' := 297) rfl ?_
            refine F_iconst X33 (v := (1 : Int32)) at_297 rfl (pc' := 298) rfl ?_
            refine F_iadd X33 (v := (Int32.ofNat (j1 + 1))) at_298 o_add (pc' := 299) rfl ?_
            refine F_istore X33 at_299 (l' := #[.val (.int p0), .val (.int p1), .val (.int p2), .val (.int p3), .val (.int (Int32.ofNat n)), .val (.int c0), .val (.int c1), .val (.int c2), .val (.int c3), o9, .val (.ref x), .val (.ref b3), .val (.int (fin (off cs p2 6 0 1) p3)), .val (.int (Int32.ofNat (j1 + 1))), .val (.int (Int32.ofNat j1)), .val (.int (Int32.ofNat j2)), .val (.int (-1 : Int32)), .val (.int (-1 : Int32)), .val (.int (Int32.ofNat j1))]) rfl (pc' := 301) rfl ?_
            refine F_iload X33 at_301 rfl (pc' := 303) rfl ?_
            refine F_ifT X33 at_303 (XT.i0_ge_t (o_nn (by omega))) (pc' := 310) (by decide) rfl ?_
            refine F_iload X33 at_310 rfl (pc' := 312) rfl ?_
            refine F_iloadN X33 at_312 rfl (pc' := 313) rfl ?_
            refine F_iadd X33 at_313 rfl (pc' := 314) rfl ?_
            refine F_iconst X33 (v := (1 : Int32)) at_314 rfl (pc' := 315) rfl ?_
            refine F_isub X33 at_315 rfl (pc' := 316) rfl ?_
            refine F_istore X33 at_316 (l' := #[.val (.int p0), .val (.int p1), .val (.int p2), .val (.int p3), .val (.int (Int32.ofNat n)), .val (.int c0), .val (.int c1), .val (.int c2), .val (.int c3), o9, .val (.ref x), .val (.ref b3), .val (.int (fin (off cs p2 6 0 1) p3)), .val (.int (Int32.ofNat (j1 + 1))), .val (.int (((Int32.ofNat (j1 + 1)) + p3) - (1 : Int32))), .val (.int (Int32.ofNat j2)), .val (.int (-1 : Int32)), .val (.int (-1 : Int32)), .val (.int (Int32.ofNat j1))]) rfl (pc' := 318) rfl ?_
            refine F_iload X33 at_318 rfl (pc' := 320) rfl ?_
            refine F_iload X33 at_320 rfl (pc' := 322) rfl ?_
            refine F_icF X33 at_322 (XT.ii_ne_f (fin_pos (k := j1 + 1) ((off_some (by rw [e2]; decide) hf1).trans (off_stop (by rw [e2]; decide))) (by omega))) (pc' := 325) rfl ?_
            refine F_iconst X33 (v := (1 : Int32)) at_325 rfl (pc' := 326) rfl ?_
            refine F_goto X33 at_326 (pc' := 330) (by decide) rfl ?_
            exact F_ireturnN X33 (t := .boolean) at_330 rfl (by simp) (by decide) (by decide) (rfl)
          · skip
            refine F_icT X33 at_237 (XT.ii_ne_t e2) (pc' := 247) (by decide) rfl ?_
            refine F_iloadN X33 at_247 rfl (pc' := 248) rfl ?_
            refine F_iconst X33 (v := (3 : Int32)) at_248 rfl (pc' := 249) rfl ?_
            by_cases e3 : p2 = (3 : Int32)
            · skip
              refine F_icF X33 at_249 (XT.ii_ne_f e3) (pc' := 252) rfl ?_
              refine F_iload X33 at_252 rfl (pc' := 254) rfl ?_
              refine F_istore X33 at_254 (l' := #[.val (.int p0), .val (.int p1), .val (.int p2), .val (.int p3), .val (.int (Int32.ofNat n)), .val (.int c0), .val (.int c1), .val (.int c2), .val (.int c3), o9, .val (.ref x), .val (.ref b3), .val (.int (fin (off cs p2 6 0 1) p3)), .unset, .val (.int (Int32.ofNat j1)), .val (.int (Int32.ofNat j2)), .val (.int (-1 : Int32)), .val (.int (-1 : Int32)), .val (.int (Int32.ofNat j2))]) rfl (pc' := 256) rfl ?_
              refine F_goto X33 at_256 (pc' := 286) (by decide) rfl ?_
              refine F_iload X33 at_286 rfl (pc' := 288) rfl ?_
              refine F_ifT X33 at_288 (XT.i0_ge_t (o_nn (by omega))) (pc' := 295) (by decide) rfl ?_
              refine F_iload X33 at_295 rfl (pc' := 297) rfl ?_
              refine F_iconst X33 (v := (1 : Int32)) at_297 rfl (pc' := 298) rfl ?_
              refine F_iadd X33 (v := (Int32.ofNat (j2 + 1))) at_298 o_add (pc' := 299) rfl ?_
              refine F_istore X33 at_299 (l' := #[.val (.int p0), .val (.int p1), .val (.int p2), .val (.int p3), .val (.int (Int32.ofNat n)), .val (.int c0), .val (.int c1), .val (.int c2), .val (.int c3), o9, .val (.ref x), .val (.ref b3), .val (.int (fin (off cs p2 6 0 1) p3)), .val (.int (Int32.ofNat (j2 + 1))), .val (.int (Int32.ofNat j1)), .val (.int (Int32.ofNat j2)), .val (.int (-1 : Int32)), .val (.int (-1 : Int32)), .val (.int (Int32.ofNat j2))]) rfl (pc' := 301) rfl ?_
              refine F_iload X33 at_301 rfl (pc' := 303) rfl ?_
              refine F_ifT X33 at_303 (XT.i0_ge_t (o_nn (by omega))) (pc' := 310) (by decide) rfl ?_
              refine F_iload X33 at_310 rfl (pc' := 312) rfl ?_
              refine F_iloadN X33 at_312 rfl (pc' := 313) rfl ?_
              refine F_iadd X33 at_313 rfl (pc' := 314) rfl ?_
              refine F_iconst X33 (v := (1 : Int32)) at_314 rfl (pc' := 315) rfl ?_
              refine F_isub X33 at_315 rfl (pc' := 316) rfl ?_
              refine F_istore X33 at_316 (l' := #[.val (.int p0), .val (.int p1), .val (.int p2), .val (.int p3), .val (.int (Int32.ofNat n)), .val (.int c0), .val (.int c1), .val (.int c2), .val (.int c3), o9, .val (.ref x), .val (.ref b3), .val (.int (fin (off cs p2 6 0 1) p3)), .val (.int (Int32.ofNat (j2 + 1))), .val (.int (((Int32.ofNat (j2 + 1)) + p3) - (1 : Int32))), .val (.int (Int32.ofNat j2)), .val (.int (-1 : Int32)), .val (.int (-1 : Int32)), .val (.int (Int32.ofNat j2))]) rfl (pc' := 318) rfl ?_
              refine F_iload X33 at_318 rfl (pc' := 320) rfl ?_
              refine F_iload X33 at_320 rfl (pc' := 322) rfl ?_
              refine F_icF X33 at_322 (XT.ii_ne_f (fin_pos (k := j2 + 1) ((off_some (by rw [e3]; decide) hf1).trans ((off_some (by rw [e3]; decide) hf2).trans (off_stop (by rw [e3]; decide)))) (by omega))) (pc' := 325) rfl ?_
              refine F_iconst X33 (v := (1 : Int32)) at_325 rfl (pc' := 326) rfl ?_
              refine F_goto X33 at_326 (pc' := 330) (by decide) rfl ?_
              exact F_ireturnN X33 (t := .boolean) at_330 rfl (by simp) (by decide) (by decide) (rfl)
            · skip
              refine F_icT X33 at_249 (XT.ii_ne_t e3) (pc' := 259) (by decide) rfl ?_
              refine F_iloadN X33 at_259 rfl (pc' := 260) rfl ?_
              refine F_iconst X33 (v := (4 : Int32)) at_260 rfl (pc' := 261) rfl ?_
              by_cases e4 : p2 = (4 : Int32)
              · skip
                refine F_icF X33 at_261 (XT.ii_ne_f e4) (pc' := 264) rfl ?_
                refine F_iload X33 at_264 rfl (pc' := 266) rfl ?_
                refine F_istore X33 at_266 (l' := #[.val (.int p0), .val (.int p1), .val (.int p2), .val (.int p3), .val (.int (Int32.ofNat n)), .val (.int c0), .val (.int c1), .val (.int c2), .val (.int c3), o9, .val (.ref x), .val (.ref b3), .val (.int (fin (off cs p2 6 0 1) p3)), .unset, .val (.int (Int32.ofNat j1)), .val (.int (Int32.ofNat j2)), .val (.int (-1 : Int32)), .val (.int (-1 : Int32)), .val (.int (-1 : Int32))]) rfl (pc' := 268) rfl ?_
                refine F_goto X33 at_268 (pc' := 286) (by decide) rfl ?_
                refine F_iload X33 at_286 rfl (pc' := 288) rfl ?_
                refine F_ifF X33 at_288 (XT.i0_ge_f (by decide)) (pc' := 291) rfl ?_
                refine F_iconst X33 (v := (-1 : Int32)) at_291 rfl (pc' := 292) rfl ?_
                refine F_goto X33 at_292 (pc' := 299) (by decide) rfl ?_
                refine F_istore X33 at_299 (l' := #[.val (.int p0), .val (.int p1), .val (.int p2), .val (.int p3), .val (.int (Int32.ofNat n)), .val (.int c0), .val (.int c1), .val (.int c2), .val (.int c3), o9, .val (.ref x), .val (.ref b3), .val (.int (fin (off cs p2 6 0 1) p3)), .val (.int (-1 : Int32)), .val (.int (Int32.ofNat j1)), .val (.int (Int32.ofNat j2)), .val (.int (-1 : Int32)), .val (.int (-1 : Int32)), .val (.int (-1 : Int32))]) rfl (pc' := 301) rfl ?_
                refine F_iload X33 at_301 rfl (pc' := 303) rfl ?_
                refine F_ifF X33 at_303 (XT.i0_ge_f (by decide)) (pc' := 306) rfl ?_
                refine F_iconst X33 (v := (-1 : Int32)) at_306 rfl (pc' := 307) rfl ?_
                refine F_goto X33 at_307 (pc' := 316) (by decide) rfl ?_
                refine F_istore X33 at_316 (l' := #[.val (.int p0), .val (.int p1), .val (.int p2), .val (.int p3), .val (.int (Int32.ofNat n)), .val (.int c0), .val (.int c1), .val (.int c2), .val (.int c3), o9, .val (.ref x), .val (.ref b3), .val (.int (fin (off cs p2 6 0 1) p3)), .val (.int (-1 : Int32)), .val (.int (-1 : Int32)), .val (.int (Int32.ofNat j2)), .val (.int (-1 : Int32)), .val (.int (-1 : Int32)), .val (.int (-1 : Int32))]) rfl (pc' := 318) rfl ?_
                refine F_iload X33 at_318 rfl (pc' := 320) rfl ?_
                refine F_iload X33 at_320 rfl (pc' := 322) rfl ?_
                refine F_icF X33 at_322 (XT.ii_ne_f (fin_neg ((off_some (by rw [e4]; decide) hf1).trans ((off_some (by rw [e4]; decide) hf2).trans (off_none (by rw [e4]; decide) hf3))))) (pc' := 325) rfl ?_
                refine F_iconst X33 (v := (1 : Int32)) at_325 rfl (pc' := 326) rfl ?_
                refine F_goto X33 at_326 (pc' := 330) (by decide) rfl ?_
                exact F_ireturnN X33 (t := .boolean) at_330 rfl (by simp) (by decide) (by decide) (rfl)
              · skip
                refine F_icT X33 at_261 (XT.ii_ne_t e4) (pc' := 271) (by decide) rfl ?_
                refine F_iloadN X33 at_271 rfl (pc' := 272) rfl ?_
                refine F_iconst X33 (v := (5 : Int32)) at_272 rfl (pc' := 273) rfl ?_
                by_cases e5 : p2 = (5 : Int32)
                · skip
                  refine F_icF X33 at_273 (XT.ii_ne_f e5) (pc' := 276) rfl ?_
                  refine F_iload X33 at_276 rfl (pc' := 278) rfl ?_
                  refine F_istore X33 at_278 (l' := #[.val (.int p0), .val (.int p1), .val (.int p2), .val (.int p3), .val (.int (Int32.ofNat n)), .val (.int c0), .val (.int c1), .val (.int c2), .val (.int c3), o9, .val (.ref x), .val (.ref b3), .val (.int (fin (off cs p2 6 0 1) p3)), .unset, .val (.int (Int32.ofNat j1)), .val (.int (Int32.ofNat j2)), .val (.int (-1 : Int32)), .val (.int (-1 : Int32)), .val (.int (-1 : Int32))]) rfl (pc' := 280) rfl ?_
                  refine F_goto X33 at_280 (pc' := 286) (by decide) rfl ?_
                  refine F_iload X33 at_286 rfl (pc' := 288) rfl ?_
                  refine F_ifF X33 at_288 (XT.i0_ge_f (by decide)) (pc' := 291) rfl ?_
                  refine F_iconst X33 (v := (-1 : Int32)) at_291 rfl (pc' := 292) rfl ?_
                  refine F_goto X33 at_292 (pc' := 299) (by decide) rfl ?_
                  refine F_istore X33 at_299 (l' := #[.val (.int p0), .val (.int p1), .val (.int p2), .val (.int p3), .val (.int (Int32.ofNat n)), .val (.int c0), .val (.int c1), .val (.int c2), .val (.int c3), o9, .val (.ref x), .val (.ref b3), .val (.int (fin (off cs p2 6 0 1) p3)), .val (.int (-1 : Int32)), .val (.int (Int32.ofNat j1)), .val (.int (Int32.ofNat j2)), .val (.int (-1 : Int32)), .val (.int (-1 : Int32)), .val (.int (-1 : Int32))]) rfl (pc' := 301) rfl ?_
                  refine F_iload X33 at_301 rfl (pc' := 303) rfl ?_
                  refine F_ifF X33 at_303 (XT.i0_ge_f (by decide)) (pc' := 306) rfl ?_
                  refine F_iconst X33 (v := (-1 : Int32)) at_306 rfl (pc' := 307) rfl ?_
                  refine F_goto X33 at_307 (pc' := 316) (by decide) rfl ?_
                  refine F_istore X33 at_316 (l' := #[.val (.int p0), .val (.int p1), .val (.int p2), .val (.int p3), .val (.int (Int32.ofNat n)), .val (.int c0), .val (.int c1), .val (.int c2), .val (.int c3), o9, .val (.ref x), .val (.ref b3), .val (.int (fin (off cs p2 6 0 1) p3)), .val (.int (-1 : Int32)), .val (.int (-1 : Int32)), .val (.int (Int32.ofNat j2)), .val (.int (-1 : Int32)), .val (.int (-1 : Int32)), .val (.int (-1 : Int32))]) rfl (pc' := 318) rfl ?_
                  refine F_iload X33 at_318 rfl (pc' := 320) rfl ?_
                  refine F_iload X33 at_320 rfl (pc' := 322) rfl ?_
                  refine F_icF X33 at_322 (XT.ii_ne_f (fin_neg ((off_some (by rw [e5]; decide) hf1).trans ((off_some (by rw [e5]; decide) hf2).trans (off_none (by rw [e5]; decide) hf3))))) (pc' := 325) rfl ?_
                  refine F_iconst X33 (v := (1 : Int32)) at_325 rfl (pc' := 326) rfl ?_
                  refine F_goto X33 at_326 (pc' := 330) (by decide) rfl ?_
                  exact F_ireturnN X33 (t := .boolean) at_330 rfl (by simp) (by decide) (by decide) (rfl)
                · skip
                  refine F_icT X33 at_273 (XT.ii_ne_t e5) (pc' := 283) (by decide) rfl ?_
                  refine F_iconst X33 (v := (-1 : Int32)) at_283 rfl (pc' := 284) rfl ?_
                  refine F_istore X33 at_284 (l' := #[.val (.int p0), .val (.int p1), .val (.int p2), .val (.int p3), .val (.int (Int32.ofNat n)), .val (.int c0), .val (.int c1), .val (.int c2), .val (.int c3), o9, .val (.ref x), .val (.ref b3), .val (.int (fin (off cs p2 6 0 1) p3)), .unset, .val (.int (Int32.ofNat j1)), .val (.int (Int32.ofNat j2)), .val (.int (-1 : Int32)), .val (.int (-1 : Int32)), .val (.int (-1 : Int32))]) rfl (pc' := 286) rfl ?_
                  refine F_iload X33 at_286 rfl (pc' := 288) rfl ?_
                  refine F_ifF X33 at_288 (XT.i0_ge_f (by decide)) (pc' := 291) rfl ?_
                  refine F_iconst X33 (v := (-1 : Int32)) at_291 rfl (pc' := 292) rfl ?_
                  refine F_goto X33 at_292 (pc' := 299) (by decide) rfl ?_
                  refine F_istore X33 at_299 (l' := #[.val (.int p0), .val (.int p1), .val (.int p2), .val (.int p3), .val (.int (Int32.ofNat n)), .val (.int c0), .val (.int c1), .val (.int c2), .val (.int c3), o9, .val (.ref x), .val (.ref b3), .val (.int (fin (off cs p2 6 0 1) p3)), .val (.int (-1 : Int32)), .val (.int (Int32.ofNat j1)), .val (.int (Int32.ofNat j2)), .val (.int (-1 : Int32)), .val (.int (-1 : Int32)), .val (.int (-1 : Int32))]) rfl (pc' := 301) rfl ?_
                  refine F_iload X33 at_301 rfl (pc' := 303) rfl ?_
                  refine F_ifF X33 at_303 (XT.i0_ge_f (by decide)) (pc' := 306) rfl ?_
                  refine F_iconst X33 (v := (-1 : Int32)) at_306 rfl (pc' := 307) rfl ?_
                  refine F_goto X33 at_307 (pc' := 316) (by decide) rfl ?_
                  refine F_istore X33 at_316 (l' := #[.val (.int p0), .val (.int p1), .val (.int p2), .val (.int p3), .val (.int (Int32.ofNat n)), .val (.int c0), .val (.int c1), .val (.int c2), .val (.int c3), o9, .val (.ref x), .val (.ref b3), .val (.int (fin (off cs p2 6 0 1) p3)), .val (.int (-1 : Int32)), .val (.int (-1 : Int32)), .val (.int (Int32.ofNat j2)), .val (.int (-1 : Int32)), .val (.int (-1 : Int32)), .val (.int (-1 : Int32))]) rfl (pc' := 318) rfl ?_
                  refine F_iload X33 at_318 rfl (pc' := 320) rfl ?_
                  refine F_iload X33 at_320 rfl (pc' := 322) rfl ?_
                  refine F_icF X33 at_322 (XT.ii_ne_f (fin_neg ((off_some (ln_big e1 e2 e3 e4 e5).1 hf1).trans ((off_some (ln_big e1 e2 e3 e4 e5).2.1 hf2).trans (off_none (ln_big e1 e2 e3 e4 e5).2.2.1 hf3))))) (pc' := 325) rfl ?_
                  refine F_iconst X33 (v := (1 : Int32)) at_325 rfl (pc' := 326) rfl ?_
                  refine F_goto X33 at_326 (pc' := 330) (by decide) rfl ?_
                  exact F_ireturnN X33 (t := .boolean) at_330 rfl (by simp) (by decide) (by decide) (rfl)
        · skip
          have hj3 := fnd_ge _ hf3
          rw [List.length_drop] at hj3
          show EndW p e below s Z _ _ _ T32 (mkF m 205 #[.val (.int p0), .val (.int p1), .val (.int p2), .val (.int p3), .val (.int (Int32.ofNat n)), .val (.int c0), .val (.int c1), .val (.int c2), .val (.int c3), o9, .val (.ref x), .val (.ref b3), .val (.int (fin (off cs p2 6 0 1) p3)), .unset, .val (.int (Int32.ofNat j1)), .val (.int (Int32.ofNat j2)), .unset, .unset, .unset] [(.int (Int32.ofNat j3))])
          refine F_istore X33 at_205 (l' := #[.val (.int p0), .val (.int p1), .val (.int p2), .val (.int p3), .val (.int (Int32.ofNat n)), .val (.int c0), .val (.int c1), .val (.int c2), .val (.int c3), o9, .val (.ref x), .val (.ref b3), .val (.int (fin (off cs p2 6 0 1) p3)), .unset, .val (.int (Int32.ofNat j1)), .val (.int (Int32.ofNat j2)), .val (.int (Int32.ofNat j3)), .unset, .unset]) rfl (pc' := 207) rfl ?_
          refine F_iload X33 at_207 rfl (pc' := 209) rfl ?_
          refine F_ifT X33 at_209 (XT.i0_ge_t (o_nn (by omega))) (pc' := 216) (by decide) rfl ?_
          refine F_iload X33 at_216 rfl (pc' := 218) rfl ?_
          refine F_iload X33 at_218 rfl (pc' := 220) rfl ?_
          refine F_iload X33 at_220 rfl (pc' := 222) rfl ?_
          refine F_iload X33 at_222 rfl (pc' := 224) rfl ?_
          refine F_iload X33 at_224 rfl (pc' := 226) rfl ?_
          refine F_iload X33 at_226 rfl (pc' := 228) rfl ?_
          refine F_iconst X33 (v := (1 : Int32)) at_228 rfl (pc' := 229) rfl ?_
          refine F_iadd X33 (v := (Int32.ofNat (j3 + 1))) at_229 o_add (pc' := 230) rfl ?_
          refine F_static X33 (rm := rm_nl) at_230 (hw _ (List.mem_of_getElem? (i := 87) rfl)) (hw _ (List.mem_of_getElem? (i := 88) rfl)) (hw _ (List.mem_of_getElem? (i := 3) rfl)) (hw _ (List.mem_of_getElem? (i := 89) rfl)) (by decide) (argsL := [(.int c0), (.int c1), (.int c2), (.int c3), (.int (Int32.ofNat n)), (.int (Int32.ofNat (j3 + 1)))]) (st := []) rfl (ct_nl l Z a0 hw G1 G3 OS hEL hSA c0 c1 c2 c3 n (j3 + 1) X33.old hn (by omega)) (lenOf (pd_13) rfl) rfl (by decide) (by decide) (by decide) (Nat.le_of_ble_eq_true rfl) [] (fun _ _ q => by obtain ⟨_, e⟩ := q; exact own_ks e) (sf0)  (pc' := 233) rfl ?_
          intro T36 _ X37 hQ38
          obtain ⟨rfl, e39⟩ := hQ38
          rw [← e39] at Str_18 Exa_19 FL FC
          rw [nlv_fnd hn (by omega) hcs]
          rcases hf4 : fnd (cs.drop (j3 + 1)) (j3 + 1) with _ | j4
          · skip
            show EndW p e below s Z _ _ _ T36 (mkF m 233 #[.val (.int p0), .val (.int p1), .val (.int p2), .val (.int p3), .val (.int (Int32.ofNat n)), .val (.int c0), .val (.int c1), .val (.int c2), .val (.int c3), o9, .val (.ref x), .val (.ref b3), .val (.int (fin (off cs p2 6 0 1) p3)), .unset, .val (.int (Int32.ofNat j1)), .val (.int (Int32.ofNat j2)), .val (.int (Int32.ofNat j3)), .unset, .unset] [(.int (-1 : Int32))])
            refine F_istore X37 at_233 (l' := #[.val (.int p0), .val (.int p1), .val (.int p2), .val (.int p3), .val (.int (Int32.ofNat n)), .val (.int c0), .val (.int c1), .val (.int c2), .val (.int c3), o9, .val (.ref x), .val (.ref b3), .val (.int (fin (off cs p2 6 0 1) p3)), .unset, .val (.int (Int32.ofNat j1)), .val (.int (Int32.ofNat j2)), .val (.int (Int32.ofNat j3)), .val (.int (-1 : Int32)), .unset]) rfl (pc' := 235) rfl ?_
            refine F_iloadN X37 at_235 rfl (pc' := 236) rfl ?_
            refine F_iconst X37 (v := (2 : Int32)) at_236 rfl (pc' := 237) rfl ?_
            by_cases e2 : p2 = (2 : Int32)
            · skip
              refine F_icF X37 at_237 (XT.ii_ne_f e2) (pc' := 240) rfl ?_
              refine F_iload X37 at_240 rfl (pc' := 242) rfl ?_
              refine F_istore X37 at_242 (l' := #[.val (.int p0), .val (.int p1), .val (.int p2), .val (.int p3), .val (.int (Int32.ofNat n)), .val (.int c0), .val (.int c1), .val (.int c2), .val (.int c3), o9, .val (.ref x), .val (.ref b3), .val (.int (fin (off cs p2 6 0 1) p3)), .unset, .val (.int (Int32.ofNat j1)), .val (.int (Int32.ofNat j2)), .val (.int (Int32.ofNat j3)), .val (.int (-1 : Int32)), .val (.int (Int32.ofNat j1))]) rfl (pc' := 244) rfl ?_
              refine F_goto X37 at_244 (pc' := 286) (by decide) rfl ?_
              refine F_iload X37 at_286 rfl (pc' := 288) rfl ?_
              refine F_ifT X37 at_288 (XT.i0_ge_t (o_nn (by omega))) (pc' := 295) (by decide) rfl ?_
              refine F_iload X37 at_295 rfl (pc' := 297) rfl ?_
              refine F_iconst X37 (v := (1 : Int32)) at_297 rfl (pc' := 298) rfl ?_
              refine F_iadd X37 (v := (Int32.ofNat (j1 + 1))) at_298 o_add (pc' := 299) rfl ?_
              refine F_istore X37 at_299 (l' := #[.val (.int p0), .val (.int p1), .val (.int p2), .val (.int p3), .val (.int (Int32.ofNat n)), .val (.int c0), .val (.int c1), .val (.int c2), .val (.int c3), o9, .val (.ref x), .val (.ref b3), .val (.int (fin (off cs p2 6 0 1) p3)), .val (.int (Int32.ofNat (j1 + 1))), .val (.int (Int32.ofNat j1)), .val (.int (Int32.ofNat j2)), .val (.int (Int32.ofNat j3)), .val (.int (-1 : Int32)), .val (.int (Int32.ofNat j1))]) rfl (pc' := 301) rfl ?_
              refine F_iload X37 at_301 rfl (pc' := 303) rfl ?_
              refine F_ifT X37 at_303 (XT.i0_ge_t (o_nn (by omega))) (pc' := 310) (by decide) rfl ?_
              refine F_iload X37 at_310 rfl (pc' := 312) rfl ?_
              refine F_iloadN X37 at_312 rfl (pc' := 313) rfl ?_
              refine F_iadd X37 at_313 rfl (pc' := 314) rfl ?_
              refine F_iconst X37 (v := (1 : Int32)) at_314 rfl (pc' := 315) rfl ?_
              refine F_isub X37 at_315 rfl (pc' := 316) rfl ?_
              refine F_istore X37 at_316 (l' := #[.val (.int p0), .val (.int p1), .val (.int p2), .val (.int p3), .val (.int (Int32.ofNat n)), .val (.int c0), .val (.int c1), .val (.int c2), .val (.int c3), o9, .val (.ref x), .val (.ref b3), .val (.int (fin (off cs p2 6 0 1) p3)), .val (.int (Int32.ofNat (j1 + 1))), .val (.int (((Int32.ofNat (j1 + 1)) + p3) - (1 : Int32))), .val (.int (Int32.ofNat j2)), .val (.int (Int32.ofNat j3)), .val (.int (-1 : Int32)), .val (.int (Int32.ofNat j1))]) rfl (pc' := 318) rfl ?_
              refine F_iload X37 at_318 rfl (pc' := 320) rfl ?_
              refine F_iload X37 at_320 rfl (pc' := 322) rfl ?_
              refine F_icF X37 at_322 (XT.ii_ne_f (fin_pos (k := j1 + 1) ((off_some (by rw [e2]; decide) hf1).trans (off_stop (by rw [e2]; decide))) (by omega))) (pc' := 325) rfl ?_
              refine F_iconst X37 (v := (1 : Int32)) at_325 rfl (pc' := 326) rfl ?_
              refine F_goto X37 at_326 (pc' := 330) (by decide) rfl ?_
              exact F_ireturnN X37 (t := .boolean) at_330 rfl (by simp) (by decide) (by decide) (rfl)
            · skip
              refine F_icT X37 at_237 (XT.ii_ne_t e2) (pc' := 247) (by decide) rfl ?_
              refine F_iloadN X37 at_247 rfl (pc' := 248) rfl ?_
              refine F_iconst X37 (v := (3 : Int32)) at_248 rfl (pc' := 249) rfl ?_
              by_cases e3 : p2 = (3 : Int32)
              · skip
                refine F_icF X37 at_249 (XT.ii_ne_f e3) (pc' := 252) rfl ?_
                refine F_iload X37 at_252 rfl (pc' := 254) rfl ?_
                refine F_istore X37 at_254 (l' := #[.val (.int p0), .val (.int p1), .val (.int p2), .val (.int p3), .val (.int (Int32.ofNat n)), .val (.int c0), .val (.int c1), .val (.int c2), .val (.int c3), o9, .val (.ref x), .val (.ref b3), .val (.int (fin (off cs p2 6 0 1) p3)), .unset, .val (.int (Int32.ofNat j1)), .val (.int (Int32.ofNat j2)), .val (.int (Int32.ofNat j3)), .val (.int (-1 : Int32)), .val (.int (Int32.ofNat j2))]) rfl (pc' := 256) rfl ?_
                refine F_goto X37 at_256 (pc' := 286) (by decide) rfl ?_
                refine F_iload X37 at_286 rfl (pc' := 288) rfl ?_
                refine F_ifT X37 at_288 (XT.i0_ge_t (o_nn (by omega))) (pc' := 295) (by decide) rfl ?_
                refine F_iload X37 at_295 rfl (pc' := 297) rfl ?_
                refine F_iconst X37 (v := (1 : Int32)) at_297 rfl (pc' := 298) rfl ?_
                refine F_iadd X37 (v := (Int32.ofNat (j2 + 1))) at_298 o_add (pc' := 299) rfl ?_
                refine F_istore X37 at_299 (l' := #[.val (.int p0), .val (.int p1), .val (.int p2), .val (.int p3), .val (.int (Int32.ofNat n)), .val (.int c0), .val (.int c1), .val (.int c2), .val (.int c3), o9, .val (.ref x), .val (.ref b3), .val (.int (fin (off cs p2 6 0 1) p3)), .val (.int (Int32.ofNat (j2 + 1))), .val (.int (Int32.ofNat j1)), .val (.int (Int32.ofNat j2)), .val (.int (Int32.ofNat j3)), .val (.int (-1 : Int32)), .val (.int (Int32.ofNat j2))]) rfl (pc' := 301) rfl ?_
                refine F_iload X37 at_301 rfl (pc' := 303) rfl ?_
                refine F_ifT X37 at_303 (XT.i0_ge_t (o_nn (by omega))) (pc' := 310) (by decide) rfl ?_
                refine F_iload X37 at_310 rfl (pc' := 312) rfl ?_
                refine F_iloadN X37 at_312 rfl (pc' := 313) rfl ?_
                refine F_iadd X37 at_313 rfl (pc' := 314) rfl ?_
                refine F_iconst X37 (v := (1 : Int32)) at_314 rfl (pc' := 315) rfl ?_
                refine F_isub X37 at_315 rfl (pc' := 316) rfl ?_
                refine F_istore X37 at_316 (l' := #[.val (.int p0), .val (.int p1), .val (.int p2), .val (.int p3), .val (.int (Int32.ofNat n)), .val (.int c0), .val (.int c1), .val (.int c2), .val (.int c3), o9, .val (.ref x), .val (.ref b3), .val (.int (fin (off cs p2 6 0 1) p3)), .val (.int (Int32.ofNat (j2 + 1))), .val (.int (((Int32.ofNat (j2 + 1)) + p3) - (1 : Int32))), .val (.int (Int32.ofNat j2)), .val (.int (Int32.ofNat j3)), .val (.int (-1 : Int32)), .val (.int (Int32.ofNat j2))]) rfl (pc' := 318) rfl ?_
                refine F_iload X37 at_318 rfl (pc' := 320) rfl ?_
                refine F_iload X37 at_320 rfl (pc' := 322) rfl ?_
                refine F_icF X37 at_322 (XT.ii_ne_f (fin_pos (k := j2 + 1) ((off_some (by rw [e3]; decide) hf1).trans ((off_some (by rw [e3]; decide) hf2).trans (off_stop (by rw [e3]; decide)))) (by omega))) (pc' := 325) rfl ?_
                refine F_iconst X37 (v := (1 : Int32)) at_325 rfl (pc' := 326) rfl ?_
                refine F_goto X37 at_326 (pc' := 330) (by decide) rfl ?_
                exact F_ireturnN X37 (t := .boolean) at_330 rfl (by simp) (by decide) (by decide) (rfl)
              · skip
                refine F_icT X37 at_249 (XT.ii_ne_t e3) (pc' := 259) (by decide) rfl ?_
                refine F_iloadN X37 at_259 rfl (pc' := 260) rfl ?_
                refine F_iconst X37 (v := (4 : Int32)) at_260 rfl (pc' := 261) rfl ?_
                by_cases e4 : p2 = (4 : Int32)
                · skip
                  refine F_icF X37 at_261 (XT.ii_ne_f e4) (pc' := 264) rfl ?_
                  refine F_iload X37 at_264 rfl (pc' := 266) rfl ?_
                  refine F_istore X37 at_266 (l' := #[.val (.int p0), .val (.int p1), .val (.int p2), .val (.int p3), .val (.int (Int32.ofNat n)), .val (.int c0), .val (.int c1), .val (.int c2), .val (.int c3), o9, .val (.ref x), .val (.ref b3), .val (.int (fin (off cs p2 6 0 1) p3)), .unset, .val (.int (Int32.ofNat j1)), .val (.int (Int32.ofNat j2)), .val (.int (Int32.ofNat j3)), .val (.int (-1 : Int32)), .val (.int (Int32.ofNat j3))]) rfl (pc' := 268) rfl ?_
                  refine F_goto X37 at_268 (pc' := 286) (by decide) rfl ?_
                  refine F_iload X37 at_286 rfl (pc' := 288) rfl ?_
                  refine F_ifT X37 at_288 (XT.i0_ge_t (o_nn (by omega))) (pc' := 295) (by decide) rfl ?_
                  refine F_iload X37 at_295 rfl (pc' := 297) rfl ?_
                  refine F_iconst X37 (v := (1 : Int32)) at_297 rfl (pc' := 298) rfl ?_
                  refine F_iadd X37 (v := (Int32.ofNat (j3 + 1))) at_298 o_add (pc' := 299) rfl ?_
                  refine F_istore X37 at_299 (l' := #[.val (.int p0), .val (.int p1), .val (.int p2), .val (.int p3), .val (.int (Int32.ofNat n)), .val (.int c0), .val (.int c1), .val (.int c2), .val (.int c3), o9, .val (.ref x), .val (.ref b3), .val (.int (fin (off cs p2 6 0 1) p3)), .val (.int (Int32.ofNat (j3 + 1))), .val (.int (Int32.ofNat j1)), .val (.int (Int32.ofNat j2)), .val (.int (Int32.ofNat j3)), .val (.int (-1 : Int32)), .val (.int (Int32.ofNat j3))]) rfl (pc' := 301) rfl ?_
                  refine F_iload X37 at_301 rfl (pc' := 303) rfl ?_
                  refine F_ifT X37 at_303 (XT.i0_ge_t (o_nn (by omega))) (pc' := 310) (by decide) rfl ?_
                  refine F_iload X37 at_310 rfl (pc' := 312) rfl ?_
                  refine F_iloadN X37 at_312 rfl (pc' := 313) rfl ?_
                  refine F_iadd X37 at_313 rfl (pc' := 314) rfl ?_
                  refine F_iconst X37 (v := (1 : Int32)) at_314 rfl (pc' := 315) rfl ?_
                  refine F_isub X37 at_315 rfl (pc' := 316) rfl ?_
                  refine F_istore X37 at_316 (l' := #[.val (.int p0), .val (.int p1), .val (.int p2), .val (.int p3), .val (.int (Int32.ofNat n)), .val (.int c0), .val (.int c1), .val (.int c2), .val (.int c3), o9, .val (.ref x), .val (.ref b3), .val (.int (fin (off cs p2 6 0 1) p3)), .val (.int (Int32.ofNat (j3 + 1))), .val (.int (((Int32.ofNat (j3 + 1)) + p3) - (1 : Int32))), .val (.int (Int32.ofNat j2)), .val (.int (Int32.ofNat j3)), .val (.int (-1 : Int32)), .val (.int (Int32.ofNat j3))]) rfl (pc' := 318) rfl ?_
                  refine F_iload X37 at_318 rfl (pc' := 320) rfl ?_
                  refine F_iload X37 at_320 rfl (pc' := 322) rfl ?_
                  refine F_icF X37 at_322 (XT.ii_ne_f (fin_pos (k := j3 + 1) ((off_some (by rw [e4]; decide) hf1).trans ((off_some (by rw [e4]; decide) hf2).trans ((off_some (by rw [e4]; decide) hf3).trans (off_stop (by rw [e4]; decide))))) (by omega))) (pc' := 325) rfl ?_
                  refine F_iconst X37 (v := (1 : Int32)) at_325 rfl (pc' := 326) rfl ?_
                  refine F_goto X37 at_326 (pc' := 330) (by decide) rfl ?_
                  exact F_ireturnN X37 (t := .boolean) at_330 rfl (by simp) (by decide) (by decide) (rfl)
                · skip
                  refine F_icT X37 at_261 (XT.ii_ne_t e4) (pc' := 271) (by decide) rfl ?_
                  refine F_iloadN X37 at_271 rfl (pc' := 272) rfl ?_
                  refine F_iconst X37 (v := (5 : Int32)) at_272 rfl (pc' := 273) rfl ?_
                  by_cases e5 : p2 = (5 : Int32)
                  · skip
                    refine F_icF X37 at_273 (XT.ii_ne_f e5) (pc' := 276) rfl ?_
                    refine F_iload X37 at_276 rfl (pc' := 278) rfl ?_
                    refine F_istore X37 at_278 (l' := #[.val (.int p0), .val (.int p1), .val (.int p2), .val (.int p3), .val (.int (Int32.ofNat n)), .val (.int c0), .val (.int c1), .val (.int c2), .val (.int c3), o9, .val (.ref x), .val (.ref b3), .val (.int (fin (off cs p2 6 0 1) p3)), .unset, .val (.int (Int32.ofNat j1)), .val (.int (Int32.ofNat j2)), .val (.int (Int32.ofNat j3)), .val (.int (-1 : Int32)), .val (.int (-1 : Int32))]) rfl (pc' := 280) rfl ?_
                    refine F_goto X37 at_280 (pc' := 286) (by decide) rfl ?_
                    refine F_iload X37 at_286 rfl (pc' := 288) rfl ?_
                    refine F_ifF X37 at_288 (XT.i0_ge_f (by decide)) (pc' := 291) rfl ?_
                    refine F_iconst X37 (v := (-1 : Int32)) at_291 rfl (pc' := 292) rfl ?_
                    refine F_goto X37 at_292 (pc' := 299) (by decide) rfl ?_
                    refine F_istore X37 at_299 (l' := #[.val (.int p0), .val (.int p1), .val (.int p2), .val (.int p3), .val (.int (Int32.ofNat n)), .val (.int c0), .val (.int c1), .val (.int c2), .val (.int c3), o9, .val (.ref x), .val (.ref b3), .val (.int (fin (off cs p2 6 0 1) p3)), .val (.int (-1 : Int32)), .val (.int (Int32.ofNat j1)), .val (.int (Int32.ofNat j2)), .val (.int (Int32.ofNat j3)), .val (.int (-1 : Int32)), .val (.int (-1 : Int32))]) rfl (pc' := 301) rfl ?_
                    refine F_iload X37 at_301 rfl (pc' := 303) rfl ?_
                    refine F_ifF X37 at_303 (XT.i0_ge_f (by decide)) (pc' := 306) rfl ?_
                    refine F_iconst X37 (v := (-1 : Int32)) at_306 rfl (pc' := 307) rfl ?_
                    refine F_goto X37 at_307 (pc' := 316) (by decide) rfl ?_
                    refine F_istore X37 at_316 (l' := #[.val (.int p0), .val (.int p1), .val (.int p2), .val (.int p3), .val (.int (Int32.ofNat n)), .val (.int c0), .val (.int c1), .val (.int c2), .val (.int c3), o9, .val (.ref x), .val (.ref b3), .val (.int (fin (off cs p2 6 0 1) p3)), .val (.int (-1 : Int32)), .val (.int (-1 : Int32)), .val (.int (Int32.ofNat j2)), .val (.int (Int32.ofNat j3)), .val (.int (-1 : Int32)), .val (.int (-1 : Int32))]) rfl (pc' := 318) rfl ?_
                    refine F_iload X37 at_318 rfl (pc' := 320) rfl ?_
                    refine F_iload X37 at_320 rfl (pc' := 322) rfl ?_
                    refine F_icF X37 at_322 (XT.ii_ne_f (fin_neg ((off_some (by rw [e5]; decide) hf1).trans ((off_some (by rw [e5]; decide) hf2).trans ((off_some (by rw [e5]; decide) hf3).trans (off_none (by rw [e5]; decide) hf4)))))) (pc' := 325) rfl ?_
                    refine F_iconst X37 (v := (1 : Int32)) at_325 rfl (pc' := 326) rfl ?_
                    refine F_goto X37 at_326 (pc' := 330) (by decide) rfl ?_
                    exact F_ireturnN X37 (t := .boolean) at_330 rfl (by simp) (by decide) (by decide) (rfl)
                  · skip
                    refine F_icT X37 at_273 (XT.ii_ne_t e5) (pc' := 283) (by decide) rfl ?_
                    refine F_iconst X37 (v := (-1 : Int32)) at_283 rfl (pc' := 284) rfl ?_
                    refine F_istore X37 at_284 (l' := #[.val (.int p0), .val (.int p1), .val (.int p2), .val (.int p3), .val (.int (Int32.ofNat n)), .val (.int c0), .val (.int c1), .val (.int c2), .val (.int c3), o9, .val (.ref x), .val (.ref b3), .val (.int (fin (off cs p2 6 0 1) p3)), .unset, .val (.int (Int32.ofNat j1)), .val (.int (Int32.ofNat j2)), .val (.int (Int32.ofNat j3)), .val (.int (-1 : Int32)), .val (.int (-1 : Int32))]) rfl (pc' := 286) rfl ?_
                    refine F_iload X37 at_286 rfl (pc' := 288) rfl ?_
                    refine F_ifF X37 at_288 (XT.i0_ge_f (by decide)) (pc' := 291) rfl ?_
                    refine F_iconst X37 (v := (-1 : Int32)) at_291 rfl (pc' := 292) rfl ?_
                    refine F_goto X37 at_292 (pc' := 299) (by decide) rfl ?_
                    refine F_istore X37 at_299 (l' := #[.val (.int p0), .val (.int p1), .val (.int p2), .val (.int p3), .val (.int (Int32.ofNat n)), .val (.int c0), .val (.int c1), .val (.int c2), .val (.int c3), o9, .val (.ref x), .val (.ref b3), .val (.int (fin (off cs p2 6 0 1) p3)), .val (.int (-1 : Int32)), .val (.int (Int32.ofNat j1)), .val (.int (Int32.ofNat j2)), .val (.int (Int32.ofNat j3)), .val (.int (-1 : Int32)), .val (.int (-1 : Int32))]) rfl (pc' := 301) rfl ?_
                    refine F_iload X37 at_301 rfl (pc' := 303) rfl ?_
                    refine F_ifF X37 at_303 (XT.i0_ge_f (by decide)) (pc' := 306) rfl ?_
                    refine F_iconst X37 (v := (-1 : Int32)) at_306 rfl (pc' := 307) rfl ?_
                    refine F_goto X37 at_307 (pc' := 316) (by decide) rfl ?_
                    refine F_istore X37 at_316 (l' := #[.val (.int p0), .val (.int p1), .val (.int p2), .val (.int p3), .val (.int (Int32.ofNat n)), .val (.int c0), .val (.int c1), .val (.int c2), .val (.int c3), o9, .val (.ref x), .val (.ref b3), .val (.int (fin (off cs p2 6 0 1) p3)), .val (.int (-1 : Int32)), .val (.int (-1 : Int32)), .val (.int (Int32.ofNat j2)), .val (.int (Int32.ofNat j3)), .val (.int (-1 : Int32)), .val (.int (-1 : Int32))]) rfl (pc' := 318) rfl ?_
                    refine F_iload X37 at_318 rfl (pc' := 320) rfl ?_
                    refine F_iload X37 at_320 rfl (pc' := 322) rfl ?_
                    refine F_icF X37 at_322 (XT.ii_ne_f (fin_neg ((off_some (ln_big e1 e2 e3 e4 e5).1 hf1).trans ((off_some (ln_big e1 e2 e3 e4 e5).2.1 hf2).trans ((off_some (ln_big e1 e2 e3 e4 e5).2.2.1 hf3).trans (off_none (ln_big e1 e2 e3 e4 e5).2.2.2.1 hf4)))))) (pc' := 325) rfl ?_
                    refine F_iconst X37 (v := (1 : Int32)) at_325 rfl (pc' := 326) rfl ?_
                    refine F_goto X37 at_326 (pc' := 330) (by decide) rfl ?_
                    exact F_ireturnN X37 (t := .boolean) at_330 rfl (by simp) (by decide) (by decide) (rfl)
          · skip
            have hj4 := fnd_ge _ hf4
            rw [List.length_drop] at hj4
            show EndW p e below s Z _ _ _ T36 (mkF m 233 #[.val (.int p0), .val (.int p1), .val (.int p2), .val (.int p3), .val (.int (Int32.ofNat n)), .val (.int c0), .val (.int c1), .val (.int c2), .val (.int c3), o9, .val (.ref x), .val (.ref b3), .val (.int (fin (off cs p2 6 0 1) p3)), .unset, .val (.int (Int32.ofNat j1)), .val (.int (Int32.ofNat j2)), .val (.int (Int32.ofNat j3)), .unset, .unset] [(.int (Int32.ofNat j4))])
            refine F_istore X37 at_233 (l' := #[.val (.int p0), .val (.int p1), .val (.int p2), .val (.int p3), .val (.int (Int32.ofNat n)), .val (.int c0), .val (.int c1), .val (.int c2), .val (.int c3), o9, .val (.ref x), .val (.ref b3), .val (.int (fin (off cs p2 6 0 1) p3)), .unset, .val (.int (Int32.ofNat j1)), .val (.int (Int32.ofNat j2)), .val (.int (Int32.ofNat j3)), .val (.int (Int32.ofNat j4)), .unset]) rfl (pc' := 235) rfl ?_
            refine F_iloadN X37 at_235 rfl (pc' := 236) rfl ?_
            refine F_iconst X37 (v := (2 : Int32)) at_236 rfl (pc' := 237) rfl ?_
            by_cases e2 : p2 = (2 : Int32)
            · skip
              refine F_icF X37 at_237 (XT.ii_ne_f e2) (pc' := 240) rfl ?_
              refine F_iload X37 at_240 rfl (pc' := 242) rfl ?_
              refine F_istore X37 at_242 (l' := #[.val (.int p0), .val (.int p1), .val (.int p2), .val (.int p3), .val (.int (Int32.ofNat n)), .val (.int c0), .val (.int c1), .val (.int c2), .val (.int c3), o9, .val (.ref x), .val (.ref b3), .val (.int (fin (off cs p2 6 0 1) p3)), .unset, .val (.int (Int32.ofNat j1)), .val (.int (Int32.ofNat j2)), .val (.int (Int32.ofNat j3)), .val (.int (Int32.ofNat j4)), .val (.int (Int32.ofNat j1))]) rfl (pc' := 244) rfl ?_
              refine F_goto X37 at_244 (pc' := 286) (by decide) rfl ?_
              refine F_iload X37 at_286 rfl (pc' := 288) rfl ?_
              refine F_ifT X37 at_288 (XT.i0_ge_t (o_nn (by omega))) (pc' := 295) (by decide) rfl ?_
              refine F_iload X37 at_295 rfl (pc' := 297) rfl ?_
              refine F_iconst X37 (v := (1 : Int32)) at_297 rfl (pc' := 298) rfl ?_
              refine F_iadd X37 (v := (Int32.ofNat (j1 + 1))) at_298 o_add (pc' := 299) rfl ?_
              refine F_istore X37 at_299 (l' := #[.val (.int p0), .val (.int p1), .val (.int p2), .val (.int p3), .val (.int (Int32.ofNat n)), .val (.int c0), .val (.int c1), .val (.int c2), .val (.int c3), o9, .val (.ref x), .val (.ref b3), .val (.int (fin (off cs p2 6 0 1) p3)), .val (.int (Int32.ofNat (j1 + 1))), .val (.int (Int32.ofNat j1)), .val (.int (Int32.ofNat j2)), .val (.int (Int32.ofNat j3)), .val (.int (Int32.ofNat j4)), .val (.int (Int32.ofNat j1))]) rfl (pc' := 301) rfl ?_
              refine F_iload X37 at_301 rfl (pc' := 303) rfl ?_
              refine F_ifT X37 at_303 (XT.i0_ge_t (o_nn (by omega))) (pc' := 310) (by decide) rfl ?_
              refine F_iload X37 at_310 rfl (pc' := 312) rfl ?_
              refine F_iloadN X37 at_312 rfl (pc' := 313) rfl ?_
              refine F_iadd X37 at_313 rfl (pc' := 314) rfl ?_
              refine F_iconst X37 (v := (1 : Int32)) at_314 rfl (pc' := 315) rfl ?_
              refine F_isub X37 at_315 rfl (pc' := 316) rfl ?_
              refine F_istore X37 at_316 (l' := #[.val (.int p0), .val (.int p1), .val (.int p2), .val (.int p3), .val (.int (Int32.ofNat n)), .val (.int c0), .val (.int c1), .val (.int c2), .val (.int c3), o9, .val (.ref x), .val (.ref b3), .val (.int (fin (off cs p2 6 0 1) p3)), .val (.int (Int32.ofNat (j1 + 1))), .val (.int (((Int32.ofNat (j1 + 1)) + p3) - (1 : Int32))), .val (.int (Int32.ofNat j2)), .val (.int (Int32.ofNat j3)), .val (.int (Int32.ofNat j4)), .val (.int (Int32.ofNat j1))]) rfl (pc' := 318) rfl ?_
              refine F_iload X37 at_318 rfl (pc' := 320) rfl ?_
              refine F_iload X37 at_320 rfl (pc' := 322) rfl ?_
              refine F_icF X37 at_322 (XT.ii_ne_f (fin_pos (k := j1 + 1) ((off_some (by rw [e2]; decide) hf1).trans (off_stop (by rw [e2]; decide))) (by omega))) (pc' := 325) rfl ?_
              refine F_iconst X37 (v := (1 : Int32)) at_325 rfl (pc' := 326) rfl ?_
              refine F_goto X37 at_326 (pc' := 330) (by decide) rfl ?_
              exact F_ireturnN X37 (t := .boolean) at_330 rfl (by simp) (by decide) (by decide) (rfl)
            · skip
              refine F_icT X37 at_237 (XT.ii_ne_t e2) (pc' := 247) (by decide) rfl ?_
              refine F_iloadN X37 at_247 rfl (pc' := 248) rfl ?_
              refine F_iconst X37 (v := (3 : Int32)) at_248 rfl (pc' := 249) rfl ?_
              by_cases e3 : p2 = (3 : Int32)
              · skip
                refine F_icF X37 at_249 (XT.ii_ne_f e3) (pc' := 252) rfl ?_
                refine F_iload X37 at_252 rfl (pc' := 254) rfl ?_
                refine F_istore X37 at_254 (l' := #[.val (.int p0), .val (.int p1), .val (.int p2), .val (.int p3), .val (.int (Int32.ofNat n)), .val (.int c0), .val (.int c1), .val (.int c2), .val (.int c3), o9, .val (.ref x), .val (.ref b3), .val (.int (fin (off cs p2 6 0 1) p3)), .unset, .val (.int (Int32.ofNat j1)), .val (.int (Int32.ofNat j2)), .val (.int (Int32.ofNat j3)), .val (.int (Int32.ofNat j4)), .val (.int (Int32.ofNat j2))]) rfl (pc' := 256) rfl ?_
                refine F_goto X37 at_256 (pc' := 286) (by decide) rfl ?_
                refine F_iload X37 at_286 rfl (pc' := 288) rfl ?_
                refine F_ifT X37 at_288 (XT.i0_ge_t (o_nn (by omega))) (pc' := 295) (by decide) rfl ?_
                refine F_iload X37 at_295 rfl (pc' := 297) rfl ?_
                refine F_iconst X37 (v := (1 : Int32)) at_297 rfl (pc' := 298) rfl ?_
                refine F_iadd X37 (v := (Int32.ofNat (j2 + 1))) at_298 o_add (pc' := 299) rfl ?_
                refine F_istore X37 at_299 (l' := #[.val (.int p0), .val (.int p1), .val (.int p2), .val (.int p3), .val (.int (Int32.ofNat n)), .val (.int c0), .val (.int c1), .val (.int c2), .val (.int c3), o9, .val (.ref x), .val (.ref b3), .val (.int (fin (off cs p2 6 0 1) p3)), .val (.int (Int32.ofNat (j2 + 1))), .val (.int (Int32.ofNat j1)), .val (.int (Int32.ofNat j2)), .val (.int (Int32.ofNat j3)), .val (.int (Int32.ofNat j4)), .val (.int (Int32.ofNat j2))]) rfl (pc' := 301) rfl ?_
                refine F_iload X37 at_301 rfl (pc' := 303) rfl ?_
                refine F_ifT X37 at_303 (XT.i0_ge_t (o_nn (by omega))) (pc' := 310) (by decide) rfl ?_
                refine F_iload X37 at_310 rfl (pc' := 312) rfl ?_
                refine F_iloadN X37 at_312 rfl (pc' := 313) rfl ?_
                refine F_iadd X37 at_313 rfl (pc' := 314) rfl ?_
                refine F_iconst X37 (v := (1 : Int32)) at_314 rfl (pc' := 315) rfl ?_
                refine F_isub X37 at_315 rfl (pc' := 316) rfl ?_
                refine F_istore X37 at_316 (l' := #[.val (.int p0), .val (.int p1), .val (.int p2), .val (.int p3), .val (.int (Int32.ofNat n)), .val (.int c0), .val (.int c1), .val (.int c2), .val (.int c3), o9, .val (.ref x), .val (.ref b3), .val (.int (fin (off cs p2 6 0 1) p3)), .val (.int (Int32.ofNat (j2 + 1))), .val (.int (((Int32.ofNat (j2 + 1)) + p3) - (1 : Int32))), .val (.int (Int32.ofNat j2)), .val (.int (Int32.ofNat j3)), .val (.int (Int32.ofNat j4)), .val (.int (Int32.ofNat j2))]) rfl (pc' := 318) rfl ?_
                refine F_iload X37 at_318 rfl (pc' := 320) rfl ?_
                refine F_iload X37 at_320 rfl (pc' := 322) rfl ?_
                refine F_icF X37 at_322 (XT.ii_ne_f (fin_pos (k := j2 + 1) ((off_some (by rw [e3]; decide) hf1).trans ((off_some (by rw [e3]; decide) hf2).trans (off_stop (by rw [e3]; decide)))) (by omega))) (pc' := 325) rfl ?_
                refine F_iconst X37 (v := (1 : Int32)) at_325 rfl (pc' := 326) rfl ?_
                refine F_goto X37 at_326 (pc' := 330) (by decide) rfl ?_
                exact F_ireturnN X37 (t := .boolean) at_330 rfl (by simp) (by decide) (by decide) (rfl)
              · skip
                refine F_icT X37 at_249 (XT.ii_ne_t e3) (pc' := 259) (by decide) rfl ?_
                refine F_iloadN X37 at_259 rfl (pc' := 260) rfl ?_
                refine F_iconst X37 (v := (4 : Int32)) at_260 rfl (pc' := 261) rfl ?_
                by_cases e4 : p2 = (4 : Int32)
                · skip
                  refine F_icF X37 at_261 (XT.ii_ne_f e4) (pc' := 264) rfl ?_
                  refine F_iload X37 at_264 rfl (pc' := 266) rfl ?_
                  refine F_istore X37 at_266 (l' := #[.val (.int p0), .val (.int p1), .val (.int p2), .val (.int p3), .val (.int (Int32.ofNat n)), .val (.int c0), .val (.int c1), .val (.int c2), .val (.int c3), o9, .val (.ref x), .val (.ref b3), .val (.int (fin (off cs p2 6 0 1) p3)), .unset, .val (.int (Int32.ofNat j1)), .val (.int (Int32.ofNat j2)), .val (.int (Int32.ofNat j3)), .val (.int (Int32.ofNat j4)), .val (.int (Int32.ofNat j3))]) rfl (pc' := 268) rfl ?_
                  refine F_goto X37 at_268 (pc' := 286) (by decide) rfl ?_
                  refine F_iload X37 at_286 rfl (pc' := 288) rfl ?_
                  refine F_ifT X37 at_288 (XT.i0_ge_t (o_nn (by omega))) (pc' := 295) (by decide) rfl ?_
                  refine F_iload X37 at_295 rfl (pc' := 297) rfl ?_
                  refine F_iconst X37 (v := (1 : Int32)) at_297 rfl (pc' := 298) rfl ?_
                  refine F_iadd X37 (v := (Int32.ofNat (j3 + 1))) at_298 o_add (pc' := 299) rfl ?_
                  refine F_istore X37 at_299 (l' := #[.val (.int p0), .val (.int p1), .val (.int p2), .val (.int p3), .val (.int (Int32.ofNat n)), .val (.int c0), .val (.int c1), .val (.int c2), .val (.int c3), o9, .val (.ref x), .val (.ref b3), .val (.int (fin (off cs p2 6 0 1) p3)), .val (.int (Int32.ofNat (j3 + 1))), .val (.int (Int32.ofNat j1)), .val (.int (Int32.ofNat j2)), .val (.int (Int32.ofNat j3)), .val (.int (Int32.ofNat j4)), .val (.int (Int32.ofNat j3))]) rfl (pc' := 301) rfl ?_
                  refine F_iload X37 at_301 rfl (pc' := 303) rfl ?_
                  refine F_ifT X37 at_303 (XT.i0_ge_t (o_nn (by omega))) (pc' := 310) (by decide) rfl ?_
                  refine F_iload X37 at_310 rfl (pc' := 312) rfl ?_
                  refine F_iloadN X37 at_312 rfl (pc' := 313) rfl ?_
                  refine F_iadd X37 at_313 rfl (pc' := 314) rfl ?_
                  refine F_iconst X37 (v := (1 : Int32)) at_314 rfl (pc' := 315) rfl ?_
                  refine F_isub X37 at_315 rfl (pc' := 316) rfl ?_
                  refine F_istore X37 at_316 (l' := #[.val (.int p0), .val (.int p1), .val (.int p2), .val (.int p3), .val (.int (Int32.ofNat n)), .val (.int c0), .val (.int c1), .val (.int c2), .val (.int c3), o9, .val (.ref x), .val (.ref b3), .val (.int (fin (off cs p2 6 0 1) p3)), .val (.int (Int32.ofNat (j3 + 1))), .val (.int (((Int32.ofNat (j3 + 1)) + p3) - (1 : Int32))), .val (.int (Int32.ofNat j2)), .val (.int (Int32.ofNat j3)), .val (.int (Int32.ofNat j4)), .val (.int (Int32.ofNat j3))]) rfl (pc' := 318) rfl ?_
                  refine F_iload X37 at_318 rfl (pc' := 320) rfl ?_
                  refine F_iload X37 at_320 rfl (pc' := 322) rfl ?_
                  refine F_icF X37 at_322 (XT.ii_ne_f (fin_pos (k := j3 + 1) ((off_some (by rw [e4]; decide) hf1).trans ((off_some (by rw [e4]; decide) hf2).trans ((off_some (by rw [e4]; decide) hf3).trans (off_stop (by rw [e4]; decide))))) (by omega))) (pc' := 325) rfl ?_
                  refine F_iconst X37 (v := (1 : Int32)) at_325 rfl (pc' := 326) rfl ?_
                  refine F_goto X37 at_326 (pc' := 330) (by decide) rfl ?_
                  exact F_ireturnN X37 (t := .boolean) at_330 rfl (by simp) (by decide) (by decide) (rfl)
                · skip
                  refine F_icT X37 at_261 (XT.ii_ne_t e4) (pc' := 271) (by decide) rfl ?_
                  refine F_iloadN X37 at_271 rfl (pc' := 272) rfl ?_
                  refine F_iconst X37 (v := (5 : Int32)) at_272 rfl (pc' := 273) rfl ?_
                  by_cases e5 : p2 = (5 : Int32)
                  · skip
                    refine F_icF X37 at_273 (XT.ii_ne_f e5) (pc' := 276) rfl ?_
                    refine F_iload X37 at_276 rfl (pc' := 278) rfl ?_
                    refine F_istore X37 at_278 (l' := #[.val (.int p0), .val (.int p1), .val (.int p2), .val (.int p3), .val (.int (Int32.ofNat n)), .val (.int c0), .val (.int c1), .val (.int c2), .val (.int c3), o9, .val (.ref x), .val (.ref b3), .val (.int (fin (off cs p2 6 0 1) p3)), .unset, .val (.int (Int32.ofNat j1)), .val (.int (Int32.ofNat j2)), .val (.int (Int32.ofNat j3)), .val (.int (Int32.ofNat j4)), .val (.int (Int32.ofNat j4))]) rfl (pc' := 280) rfl ?_
                    refine F_goto X37 at_280 (pc' := 286) (by decide) rfl ?_
                    refine F_iload X37 at_286 rfl (pc' := 288) rfl ?_
                    refine F_ifT X37 at_288 (XT.i0_ge_t (o_nn (by omega))) (pc' := 295) (by decide) rfl ?_
                    refine F_iload X37 at_295 rfl (pc' := 297) rfl ?_
                    refine F_iconst X37 (v := (1 : Int32)) at_297 rfl (pc' := 298) rfl ?_
                    refine F_iadd X37 (v := (Int32.ofNat (j4 + 1))) at_298 o_add (pc' := 299) rfl ?_
                    refine F_istore X37 at_299 (l' := #[.val (.int p0), .val (.int p1), .val (.int p2), .val (.int p3), .val (.int (Int32.ofNat n)), .val (.int c0), .val (.int c1), .val (.int c2), .val (.int c3), o9, .val (.ref x), .val (.ref b3), .val (.int (fin (off cs p2 6 0 1) p3)), .val (.int (Int32.ofNat (j4 + 1))), .val (.int (Int32.ofNat j1)), .val (.int (Int32.ofNat j2)), .val (.int (Int32.ofNat j3)), .val (.int (Int32.ofNat j4)), .val (.int (Int32.ofNat j4))]) rfl (pc' := 301) rfl ?_
                    refine F_iload X37 at_301 rfl (pc' := 303) rfl ?_
                    refine F_ifT X37 at_303 (XT.i0_ge_t (o_nn (by omega))) (pc' := 310) (by decide) rfl ?_
                    refine F_iload X37 at_310 rfl (pc' := 312) rfl ?_
                    refine F_iloadN X37 at_312 rfl (pc' := 313) rfl ?_
                    refine F_iadd X37 at_313 rfl (pc' := 314) rfl ?_
                    refine F_iconst X37 (v := (1 : Int32)) at_314 rfl (pc' := 315) rfl ?_
                    refine F_isub X37 at_315 rfl (pc' := 316) rfl ?_
                    refine F_istore X37 at_316 (l' := #[.val (.int p0), .val (.int p1), .val (.int p2), .val (.int p3), .val (.int (Int32.ofNat n)), .val (.int c0), .val (.int c1), .val (.int c2), .val (.int c3), o9, .val (.ref x), .val (.ref b3), .val (.int (fin (off cs p2 6 0 1) p3)), .val (.int (Int32.ofNat (j4 + 1))), .val (.int (((Int32.ofNat (j4 + 1)) + p3) - (1 : Int32))), .val (.int (Int32.ofNat j2)), .val (.int (Int32.ofNat j3)), .val (.int (Int32.ofNat j4)), .val (.int (Int32.ofNat j4))]) rfl (pc' := 318) rfl ?_
                    refine F_iload X37 at_318 rfl (pc' := 320) rfl ?_
                    refine F_iload X37 at_320 rfl (pc' := 322) rfl ?_
                    refine F_icF X37 at_322 (XT.ii_ne_f (fin_pos (k := j4 + 1) ((off_some (by rw [e5]; decide) hf1).trans ((off_some (by rw [e5]; decide) hf2).trans ((off_some (by rw [e5]; decide) hf3).trans ((off_some (by rw [e5]; decide) hf4).trans (off_stop (by rw [e5]; decide)))))) (by omega))) (pc' := 325) rfl ?_
                    refine F_iconst X37 (v := (1 : Int32)) at_325 rfl (pc' := 326) rfl ?_
                    refine F_goto X37 at_326 (pc' := 330) (by decide) rfl ?_
                    exact F_ireturnN X37 (t := .boolean) at_330 rfl (by simp) (by decide) (by decide) (rfl)
                  · skip
                    refine F_icT X37 at_273 (XT.ii_ne_t e5) (pc' := 283) (by decide) rfl ?_
                    refine F_iconst X37 (v := (-1 : Int32)) at_283 rfl (pc' := 284) rfl ?_
                    refine F_istore X37 at_284 (l' := #[.val (.int p0), .val (.int p1), .val (.int p2), .val (.int p3), .val (.int (Int32.ofNat n)), .val (.int c0), .val (.int c1), .val (.int c2), .val (.int c3), o9, .val (.ref x), .val (.ref b3), .val (.int (fin (off cs p2 6 0 1) p3)), .unset, .val (.int (Int32.ofNat j1)), .val (.int (Int32.ofNat j2)), .val (.int (Int32.ofNat j3)), .val (.int (Int32.ofNat j4)), .val (.int (-1 : Int32))]) rfl (pc' := 286) rfl ?_
                    refine F_iload X37 at_286 rfl (pc' := 288) rfl ?_
                    refine F_ifF X37 at_288 (XT.i0_ge_f (by decide)) (pc' := 291) rfl ?_
                    refine F_iconst X37 (v := (-1 : Int32)) at_291 rfl (pc' := 292) rfl ?_
                    refine F_goto X37 at_292 (pc' := 299) (by decide) rfl ?_
                    refine F_istore X37 at_299 (l' := #[.val (.int p0), .val (.int p1), .val (.int p2), .val (.int p3), .val (.int (Int32.ofNat n)), .val (.int c0), .val (.int c1), .val (.int c2), .val (.int c3), o9, .val (.ref x), .val (.ref b3), .val (.int (fin (off cs p2 6 0 1) p3)), .val (.int (-1 : Int32)), .val (.int (Int32.ofNat j1)), .val (.int (Int32.ofNat j2)), .val (.int (Int32.ofNat j3)), .val (.int (Int32.ofNat j4)), .val (.int (-1 : Int32))]) rfl (pc' := 301) rfl ?_
                    refine F_iload X37 at_301 rfl (pc' := 303) rfl ?_
                    refine F_ifF X37 at_303 (XT.i0_ge_f (by decide)) (pc' := 306) rfl ?_
                    refine F_iconst X37 (v := (-1 : Int32)) at_306 rfl (pc' := 307) rfl ?_
                    refine F_goto X37 at_307 (pc' := 316) (by decide) rfl ?_
                    refine F_istore X37 at_316 (l' := #[.val (.int p0), .val (.int p1), .val (.int p2), .val (.int p3), .val (.int (Int32.ofNat n)), .val (.int c0), .val (.int c1), .val (.int c2), .val (.int c3), o9, .val (.ref x), .val (.ref b3), .val (.int (fin (off cs p2 6 0 1) p3)), .val (.int (-1 : Int32)), .val (.int (-1 : Int32)), .val (.int (Int32.ofNat j2)), .val (.int (Int32.ofNat j3)), .val (.int (Int32.ofNat j4)), .val (.int (-1 : Int32))]) rfl (pc' := 318) rfl ?_
                    refine F_iload X37 at_318 rfl (pc' := 320) rfl ?_
                    refine F_iload X37 at_320 rfl (pc' := 322) rfl ?_
                    refine F_icF X37 at_322 (XT.ii_ne_f (fin_neg ((off_some (ln_big e1 e2 e3 e4 e5).1 hf1).trans ((off_some (ln_big e1 e2 e3 e4 e5).2.1 hf2).trans ((off_some (ln_big e1 e2 e3 e4 e5).2.2.1 hf3).trans ((off_some (ln_big e1 e2 e3 e4 e5).2.2.2.1 hf4).trans (off_none (ln_big e1 e2 e3 e4 e5).2.2.2.2 (fnd_end (by omega))))))))) (pc' := 325) rfl ?_
                    refine F_iconst X37 (v := (1 : Int32)) at_325 rfl (pc' := 326) rfl ?_
                    refine F_goto X37 at_326 (pc' := 330) (by decide) rfl ?_
                    exact F_ireturnN X37 (t := .boolean) at_330 rfl (by simp) (by decide) (by decide) (rfl)
  · skip
    refine F_icF X21 at_126 (XT.ii_gt_f e1) (pc' := 129) rfl ?_
    refine F_iconst X21 (v := (0 : Int32)) at_129 rfl (pc' := 130) rfl ?_
    refine F_istore X21 at_130 (l' := #[.val (.int p0), .val (.int p1), .val (.int p2), .val (.int p3), .val (.int (Int32.ofNat n)), .val (.int c0), .val (.int c1), .val (.int c2), .val (.int c3), o9, .val (.ref x), .val (.ref b3), .val (.int (fin (off cs p2 6 0 1) p3)), .val (.int (0 : Int32)), .unset, .unset, .unset, .unset, .unset]) rfl (pc' := 132) rfl ?_
    refine F_goto X21 at_132 (pc' := 301) (by decide) rfl ?_
    refine F_iload X21 at_301 rfl (pc' := 303) rfl ?_
    refine F_ifT X21 at_303 (XT.i0_ge_t (by decide)) (pc' := 310) (by decide) rfl ?_
    refine F_iload X21 at_310 rfl (pc' := 312) rfl ?_
    refine F_iloadN X21 at_312 rfl (pc' := 313) rfl ?_
    refine F_iadd X21 at_313 rfl (pc' := 314) rfl ?_
    refine F_iconst X21 (v := (1 : Int32)) at_314 rfl (pc' := 315) rfl ?_
    refine F_isub X21 at_315 rfl (pc' := 316) rfl ?_
    refine F_istore X21 at_316 (l' := #[.val (.int p0), .val (.int p1), .val (.int p2), .val (.int p3), .val (.int (Int32.ofNat n)), .val (.int c0), .val (.int c1), .val (.int c2), .val (.int c3), o9, .val (.ref x), .val (.ref b3), .val (.int (fin (off cs p2 6 0 1) p3)), .val (.int (0 : Int32)), .val (.int (((0 : Int32) + p3) - (1 : Int32))), .unset, .unset, .unset, .unset]) rfl (pc' := 318) rfl ?_
    refine F_iload X21 at_318 rfl (pc' := 320) rfl ?_
    refine F_iload X21 at_320 rfl (pc' := 322) rfl ?_
    refine F_icF X21 at_322 (XT.ii_ne_f (fin_pos (k := 0) (off_stop e1) (by decide))) (pc' := 325) rfl ?_
    refine F_iconst X21 (v := (1 : Int32)) at_325 rfl (pc' := 326) rfl ?_
    refine F_goto X21 at_326 (pc' := 330) (by decide) rfl ?_
    exact F_ireturnN X21 (t := .boolean) at_330 rfl (by simp) (by decide) (by decide) (rfl)
set_option maxRecDepth 65536 in
set_option maxHeartbeats 40000000 in
theorem ct_law (l : Launch) (Z : State) (a0 : Array Value) (hw : ∀ d ∈ tables_1, d.before a0 Z = true) (p0 p1 p2 p3 : Int32) (G1 : Int32) (G3 : Value) (O : Ext Z.heap Z.heap) (OS : Sts Z G1 G3) (hEL : EW Z a0 EL) (hSA : ∀ a ∈ Bundle.stringAtoms, a.before a0 Z = true) : CtW l Z x code maxLocals ret room_1 #[(.int p0), (.int p1), (.int p2), (.int p3)] Z.heap (fun v _ => v = some (.int 1)) := by
  show CtW l Z (⟨"com/example/semblance/semblance/QueryTokensOffsetPinLaw", "law", "(IIII)Z"⟩ : MethodName) code 19 (some .boolean) ({ frames := 7, cells := 24, slots := 1152, locals := 176 } : Room) _ _ _
  refine CtW.of_body (Ls := #[.val (.int p0), .val (.int p1), .val (.int p2), .val (.int p3), .unset, .unset, .unset, .unset, .unset, .unset, .unset, .unset, .unset, .unset, .unset, .unset, .unset, .unset, .unset]) (by decide +kernel) O hEL (fun m => by first | rfl | (simp [entryFrame, mkF, argsToLocals, Value.category]; done)) ?_
  intro p e s m below meth c T0 X0 e0
  obtain ⟨nn, hq, hnn⟩ := own_five p0
  refine F_iloadN X0 at_0 rfl (pc' := 1) rfl ?_
  refine F_ldcI X0 (v := (2147483647 : Int32)) at_1 (hw _ (List.mem_of_getElem? (i := 0) rfl)) (pc' := 3) rfl ?_
  refine F_iand X0 at_3 rfl (pc' := 4) rfl ?_
  refine F_iconst X0 (v := (5 : Int32)) at_4 rfl (pc' := 5) rfl ?_
  refine F_irem X0 (v := nn) at_5 (by decide) hq (pc' := 6) rfl ?_
  refine F_istore X0 at_6 (l' := #[.val (.int p0), .val (.int p1), .val (.int p2), .val (.int p3), .val (.int nn), .unset, .unset, .unset, .unset, .unset, .unset, .unset, .unset, .unset, .unset, .unset, .unset, .unset, .unset]) rfl (pc' := 8) rfl ?_
  rcases hnn with rfl | rfl | rfl | rfl | rfl
  · skip
    show EndW p e below s Z _ _ _ T0 (mkF m 8 #[.val (.int p0), .val (.int p1), .val (.int p2), .val (.int p3), .val (.int (0 : Int32)), .unset, .unset, .unset, .unset, .unset, .unset, .unset, .unset, .unset, .unset, .unset, .unset, .unset, .unset] [])
    refine F_iloadN X0 at_8 rfl (pc' := 9) rfl ?_
    refine F_iloadN X0 at_9 rfl (pc' := 10) rfl ?_
    refine F_iconst X0 (v := (0 : Int32)) at_10 rfl (pc' := 11) rfl ?_
    refine F_static X0 (rm := rm_pick) at_11 (hw _ (List.mem_of_getElem? (i := 1) rfl)) (hw _ (List.mem_of_getElem? (i := 2) rfl)) (hw _ (List.mem_of_getElem? (i := 3) rfl)) (hw _ (List.mem_of_getElem? (i := 4) rfl)) (by decide) (argsL := [(.int p0), (.int p1), (.int (0 : Int32))]) (st := []) rfl (ct_pick l Z a0 hw G1 G3 OS hEL hSA p0 p1 (0 : Int32) X0.old) (lenOf (pd_14) rfl) rfl (by decide) (by decide) (by decide) (Nat.le_of_ble_eq_true rfl) [] (fun _ _ q => by obtain ⟨_, _, e, _⟩ := q; exact own_ks e) (sf0)  (pc' := 14) rfl ?_
    intro T1 _ X2 hQ3
    obtain ⟨c0, rfl, e4, bc0⟩ := hQ3
    show EndW p e below s Z _ _ _ T1 (mkF m 14 #[.val (.int p0), .val (.int p1), .val (.int p2), .val (.int p3), .val (.int (0 : Int32)), .unset, .unset, .unset, .unset, .unset, .unset, .unset, .unset, .unset, .unset, .unset, .unset, .unset, .unset] [(.int c0)])
    refine F_istore X2 at_14 (l' := #[.val (.int p0), .val (.int p1), .val (.int p2), .val (.int p3), .val (.int (0 : Int32)), .val (.int c0), .unset, .unset, .unset, .unset, .unset, .unset, .unset, .unset, .unset, .unset, .unset, .unset, .unset]) rfl (pc' := 16) rfl ?_
    refine F_iloadN X2 at_16 rfl (pc' := 17) rfl ?_
    refine F_iloadN X2 at_17 rfl (pc' := 18) rfl ?_
    refine F_iconst X2 (v := (1 : Int32)) at_18 rfl (pc' := 19) rfl ?_
    refine F_static X2 (rm := rm_pick) at_19 (hw _ (List.mem_of_getElem? (i := 1) rfl)) (hw _ (List.mem_of_getElem? (i := 2) rfl)) (hw _ (List.mem_of_getElem? (i := 3) rfl)) (hw _ (List.mem_of_getElem? (i := 4) rfl)) (by decide) (argsL := [(.int p0), (.int p1), (.int (1 : Int32))]) (st := []) rfl (ct_pick l Z a0 hw G1 G3 OS hEL hSA p0 p1 (1 : Int32) X2.old) (lenOf (pd_14) rfl) rfl (by decide) (by decide) (by decide) (Nat.le_of_ble_eq_true rfl) [] (fun _ _ q => by obtain ⟨_, _, e, _⟩ := q; exact own_ks e) (sf0)  (pc' := 22) rfl ?_
    intro T5 _ X6 hQ7
    obtain ⟨c1, rfl, e8, bc1⟩ := hQ7
    show EndW p e below s Z _ _ _ T5 (mkF m 22 #[.val (.int p0), .val (.int p1), .val (.int p2), .val (.int p3), .val (.int (0 : Int32)), .val (.int c0), .unset, .unset, .unset, .unset, .unset, .unset, .unset, .unset, .unset, .unset, .unset, .unset, .unset] [(.int c1)])
    refine F_istore X6 at_22 (l' := #[.val (.int p0), .val (.int p1), .val (.int p2), .val (.int p3), .val (.int (0 : Int32)), .val (.int c0), .val (.int c1), .unset, .unset, .unset, .unset, .unset, .unset, .unset, .unset, .unset, .unset, .unset, .unset]) rfl (pc' := 24) rfl ?_
    refine F_iloadN X6 at_24 rfl (pc' := 25) rfl ?_
    refine F_iloadN X6 at_25 rfl (pc' := 26) rfl ?_
    refine F_iconst X6 (v := (2 : Int32)) at_26 rfl (pc' := 27) rfl ?_
    refine F_static X6 (rm := rm_pick) at_27 (hw _ (List.mem_of_getElem? (i := 1) rfl)) (hw _ (List.mem_of_getElem? (i := 2) rfl)) (hw _ (List.mem_of_getElem? (i := 3) rfl)) (hw _ (List.mem_of_getElem? (i := 4) rfl)) (by decide) (argsL := [(.int p0), (.int p1), (.int (2 : Int32))]) (st := []) rfl (ct_pick l Z a0 hw G1 G3 OS hEL hSA p0 p1 (2 : Int32) X6.old) (lenOf (pd_14) rfl) rfl (by decide) (by decide) (by decide) (Nat.le_of_ble_eq_true rfl) [] (fun _ _ q => by obtain ⟨_, _, e, _⟩ := q; exact own_ks e) (sf0)  (pc' := 30) rfl ?_
    intro T9 _ X10 hQ11
    obtain ⟨c2, rfl, e12, bc2⟩ := hQ11
    show EndW p e below s Z _ _ _ T9 (mkF m 30 #[.val (.int p0), .val (.int p1), .val (.int p2), .val (.int p3), .val (.int (0 : Int32)), .val (.int c0), .val (.int c1), .unset, .unset, .unset, .unset, .unset, .unset, .unset, .unset, .unset, .unset, .unset, .unset] [(.int c2)])
    refine F_istore X10 at_30 (l' := #[.val (.int p0), .val (.int p1), .val (.int p2), .val (.int p3), .val (.int (0 : Int32)), .val (.int c0), .val (.int c1), .val (.int c2), .unset, .unset, .unset, .unset, .unset, .unset, .unset, .unset, .unset, .unset, .unset]) rfl (pc' := 32) rfl ?_
    refine F_iloadN X10 at_32 rfl (pc' := 33) rfl ?_
    refine F_iloadN X10 at_33 rfl (pc' := 34) rfl ?_
    refine F_iconst X10 (v := (3 : Int32)) at_34 rfl (pc' := 35) rfl ?_
    refine F_static X10 (rm := rm_pick) at_35 (hw _ (List.mem_of_getElem? (i := 1) rfl)) (hw _ (List.mem_of_getElem? (i := 2) rfl)) (hw _ (List.mem_of_getElem? (i := 3) rfl)) (hw _ (List.mem_of_getElem? (i := 4) rfl)) (by decide) (argsL := [(.int p0), (.int p1), (.int (3 : Int32))]) (st := []) rfl (ct_pick l Z a0 hw G1 G3 OS hEL hSA p0 p1 (3 : Int32) X10.old) (lenOf (pd_14) rfl) rfl (by decide) (by decide) (by decide) (Nat.le_of_ble_eq_true rfl) [] (fun _ _ q => by obtain ⟨_, _, e, _⟩ := q; exact own_ks e) (sf0)  (pc' := 38) rfl ?_
    intro T13 _ X14 hQ15
    obtain ⟨c3, rfl, e16, bc3⟩ := hQ15
    show EndW p e below s Z _ _ _ T13 (mkF m 38 #[.val (.int p0), .val (.int p1), .val (.int p2), .val (.int p3), .val (.int (0 : Int32)), .val (.int c0), .val (.int c1), .val (.int c2), .unset, .unset, .unset, .unset, .unset, .unset, .unset, .unset, .unset, .unset, .unset] [(.int c3)])
    refine F_istore X14 at_38 (l' := #[.val (.int p0), .val (.int p1), .val (.int p2), .val (.int p3), .val (.int (0 : Int32)), .val (.int c0), .val (.int c1), .val (.int c2), .val (.int c3), .unset, .unset, .unset, .unset, .unset, .unset, .unset, .unset, .unset, .unset]) rfl (pc' := 40) rfl ?_
    refine F_iload X14 at_40 rfl (pc' := 42) rfl ?_
    refine F_newarray X14 0 at_42 (hw _ (List.mem_of_getElem? (i := 5) rfl)) (by decide) (by decide) (by decide) (by decide) (by decide) (pc' := 44) rfl ?_
    intro T17 b19 k23 X18 hb20 K21 V22
    have g24 : Z.heap.size ≤ b19 := Nat.le_trans X14.le (Nat.le_of_eq hb20.symm)
    have V25 : Arv Z T17.heap b19 k23 .char (0 : Int32) [] (.int (0 : Int32)) := V22.pad (pad_rep [] (.int (0 : Int32)) 0)
    refine F_astore X18 at_44 rfl (l' := #[.val (.int p0), .val (.int p1), .val (.int p2), .val (.int p3), .val (.int (0 : Int32)), .val (.int c0), .val (.int c1), .val (.int c2), .val (.int c3), .val (.ref b19), .unset, .unset, .unset, .unset, .unset, .unset, .unset, .unset, .unset]) rfl (pc' := 46) rfl ?_
    refine F_iload X18 at_46 rfl (pc' := 48) rfl ?_
    refine F_ifT X18 at_48 (XT.i0_le_t (by decide)) (pc' := 57) (by decide) rfl ?_
    refine F_iload X18 at_57 rfl (pc' := 59) rfl ?_
    refine F_iconst X18 (v := (1 : Int32)) at_59 rfl (pc' := 60) rfl ?_
    refine F_icT X18 at_60 (XT.ii_le_t (by decide)) (pc' := 69) (by decide) rfl ?_
    refine F_iload X18 at_69 rfl (pc' := 71) rfl ?_
    refine F_iconst X18 (v := (2 : Int32)) at_71 rfl (pc' := 72) rfl ?_
    refine F_icT X18 at_72 (XT.ii_le_t (by decide)) (pc' := 81) (by decide) rfl ?_
    refine F_iload X18 at_81 rfl (pc' := 83) rfl ?_
    refine F_iconst X18 (v := (3 : Int32)) at_83 rfl (pc' := 84) rfl ?_
    refine F_icT X18 at_84 (XT.ii_le_t (by decide)) (pc' := 93) (by decide) rfl ?_
    refine F_new X18 at_93 (hw _ (List.mem_of_getElem? (i := 6) rfl)) (hw _ (List.mem_of_getElem? (i := 7) rfl)) (hw _ (List.mem_of_getElem? (i := 8) rfl)) (by decide) (by decide) (pc' := 96) rfl ?_
    intro T26 b28 X27 hb29 K30 E31 D32
    have ne33 : b19 ≠ b28 := Nat.ne_of_lt (Nat.lt_of_lt_of_eq V25.lt hb29.symm)
    have Arv_34 := V25.keep K30 nin0
    have g35 : Z.heap.size ≤ b28 := Nat.le_trans X18.le (Nat.le_of_eq hb29.symm)
    have F36 : Fld Z T26.heap b28 "java/lang/String" "value" "[B" .null := D32 (Or.inr (hw _ (List.mem_of_getElem? (i := 21) rfl))) (ty := (.array .byte)) (by decide)
    have F37 : Fld Z T26.heap b28 "java/lang/String" "coder" "B" (.int (0 : Int32)) := D32 (Or.inr (hw _ (List.mem_of_getElem? (i := 22) rfl))) (ty := .byte) (by decide)
    refine F_dup X27 at_96 rfl (pc' := 97) rfl ?_
    refine F_aload X27 at_97 rfl rfl (pc' := 99) rfl ?_
    refine G_special X27 (rm := rm_sinit0) (a := b28) at_99 rfl rfl (hw _ (List.mem_of_getElem? (i := 9) rfl)) (hw _ (List.mem_of_getElem? (i := 10) rfl)) (hw _ (List.mem_of_getElem? (i := 11) rfl)) (by decide) (hw _ (List.mem_of_getElem? (i := 8) rfl)) (argsL := [(.ref b19)]) (st := [(.ref b28)]) rfl (ct_sinit0 l Z a0 hw G1 G3 OS hEL hSA b28 b19 k23 (.int (0 : Int32)) X27.old E31 F36 F37 g35 Arv_34) (lenOf (pd_15) rfl) rfl (by decide) (by decide) (by decide) (Nat.le_of_ble_eq_true rfl)  (pc' := 102) rfl ?_
    intro T38 _ X39 hQ40 hsf41
    obtain ⟨rfl, K42, t43, S44⟩ := hQ40
    have Arv_45 := Arv_34.keep K42 (ninS ne33 nin0)
    show EndW p e below s Z _ _ _ T38 (mkF m 102 #[.val (.int p0), .val (.int p1), .val (.int p2), .val (.int p3), .val (.int (0 : Int32)), .val (.int c0), .val (.int c1), .val (.int c2), .val (.int c3), .val (.ref b19), .unset, .unset, .unset, .unset, .unset, .unset, .unset, .unset, .unset] [(.ref b28)])
    refine F_astore X39 at_102 rfl (l' := #[.val (.int p0), .val (.int p1), .val (.int p2), .val (.int p3), .val (.int (0 : Int32)), .val (.int c0), .val (.int c1), .val (.int c2), .val (.int c3), .val (.ref b19), .val (.ref b28), .unset, .unset, .unset, .unset, .unset, .unset, .unset, .unset]) rfl (pc' := 104) rfl ?_
    exact sg_lawA l Z a0 hw p0 p1 p2 p3 G1 G3 OS hEL hSA c0 c1 c2 c3 0 b28 t43 [] (.val (.ref b19)) (X39.more (Nat.le_of_ble_eq_true rfl) (Nat.le_of_ble_eq_true rfl)) S44 rfl (by decide)
  · skip
    show EndW p e below s Z _ _ _ T0 (mkF m 8 #[.val (.int p0), .val (.int p1), .val (.int p2), .val (.int p3), .val (.int (1 : Int32)), .unset, .unset, .unset, .unset, .unset, .unset, .unset, .unset, .unset, .unset, .unset, .unset, .unset, .unset] [])
    refine F_iloadN X0 at_8 rfl (pc' := 9) rfl ?_
    refine F_iloadN X0 at_9 rfl (pc' := 10) rfl ?_
    refine F_iconst X0 (v := (0 : Int32)) at_10 rfl (pc' := 11) rfl ?_
    refine F_static X0 (rm := rm_pick) at_11 (hw _ (List.mem_of_getElem? (i := 1) rfl)) (hw _ (List.mem_of_getElem? (i := 2) rfl)) (hw _ (List.mem_of_getElem? (i := 3) rfl)) (hw _ (List.mem_of_getElem? (i := 4) rfl)) (by decide) (argsL := [(.int p0), (.int p1), (.int (0 : Int32))]) (st := []) rfl (ct_pick l Z a0 hw G1 G3 OS hEL hSA p0 p1 (0 : Int32) X0.old) (lenOf (pd_14) rfl) rfl (by decide) (by decide) (by decide) (Nat.le_of_ble_eq_true rfl) [] (fun _ _ q => by obtain ⟨_, _, e, _⟩ := q; exact own_ks e) (sf0)  (pc' := 14) rfl ?_
    intro T46 _ X47 hQ48
    obtain ⟨c0, rfl, e49, bc0⟩ := hQ48
    show EndW p e below s Z _ _ _ T46 (mkF m 14 #[.val (.int p0), .val (.int p1), .val (.int p2), .val (.int p3), .val (.int (1 : Int32)), .unset, .unset, .unset, .unset, .unset, .unset, .unset, .unset, .unset, .unset, .unset, .unset, .unset, .unset] [(.int c0)])
    refine F_istore X47 at_14 (l' := #[.val (.int p0), .val (.int p1), .val (.int p2), .val (.int p3), .val (.int (1 : Int32)), .val (.int c0), .unset, .unset, .unset, .unset, .unset, .unset, .unset, .unset, .unset, .unset, .unset, .unset, .unset]) rfl (pc' := 16) rfl ?_
    refine F_iloadN X47 at_16 rfl (pc' := 17) rfl ?_
    refine F_iloadN X47 at_17 rfl (pc' := 18) rfl ?_
    refine F_iconst X47 (v := (1 : Int32)) at_18 rfl (pc' := 19) rfl ?_
    refine F_static X47 (rm := rm_pick) at_19 (hw _ (List.mem_of_getElem? (i := 1) rfl)) (hw _ (List.mem_of_getElem? (i := 2) rfl)) (hw _ (List.mem_of_getElem? (i := 3) rfl)) (hw _ (List.mem_of_getElem? (i := 4) rfl)) (by decide) (argsL := [(.int p0), (.int p1), (.int (1 : Int32))]) (st := []) rfl (ct_pick l Z a0 hw G1 G3 OS hEL hSA p0 p1 (1 : Int32) X47.old) (lenOf (pd_14) rfl) rfl (by decide) (by decide) (by decide) (Nat.le_of_ble_eq_true rfl) [] (fun _ _ q => by obtain ⟨_, _, e, _⟩ := q; exact own_ks e) (sf0)  (pc' := 22) rfl ?_
    intro T50 _ X51 hQ52
    obtain ⟨c1, rfl, e53, bc1⟩ := hQ52
    show EndW p e below s Z _ _ _ T50 (mkF m 22 #[.val (.int p0), .val (.int p1), .val (.int p2), .val (.int p3), .val (.int (1 : Int32)), .val (.int c0), .unset, .unset, .unset, .unset, .unset, .unset, .unset, .unset, .unset, .unset, .unset, .unset, .unset] [(.int c1)])
    refine F_istore X51 at_22 (l' := #[.val (.int p0), .val (.int p1), .val (.int p2), .val (.int p3), .val (.int (1 : Int32)), .val (.int c0), .val (.int c1), .unset, .unset, .unset, .unset, .unset, .unset, .unset, .unset, .unset, .unset, .unset, .unset]) rfl (pc' := 24) rfl ?_
    refine F_iloadN X51 at_24 rfl (pc' := 25) rfl ?_
    refine F_iloadN X51 at_25 rfl (pc' := 26) rfl ?_
    refine F_iconst X51 (v := (2 : Int32)) at_26 rfl (pc' := 27) rfl ?_
    refine F_static X51 (rm := rm_pick) at_27 (hw _ (List.mem_of_getElem? (i := 1) rfl)) (hw _ (List.mem_of_getElem? (i := 2) rfl)) (hw _ (List.mem_of_getElem? (i := 3) rfl)) (hw _ (List.mem_of_getElem? (i := 4) rfl)) (by decide) (argsL := [(.int p0), (.int p1), (.int (2 : Int32))]) (st := []) rfl (ct_pick l Z a0 hw G1 G3 OS hEL hSA p0 p1 (2 : Int32) X51.old) (lenOf (pd_14) rfl) rfl (by decide) (by decide) (by decide) (Nat.le_of_ble_eq_true rfl) [] (fun _ _ q => by obtain ⟨_, _, e, _⟩ := q; exact own_ks e) (sf0)  (pc' := 30) rfl ?_
    intro T54 _ X55 hQ56
    obtain ⟨c2, rfl, e57, bc2⟩ := hQ56
    show EndW p e below s Z _ _ _ T54 (mkF m 30 #[.val (.int p0), .val (.int p1), .val (.int p2), .val (.int p3), .val (.int (1 : Int32)), .val (.int c0), .val (.int c1), .unset, .unset, .unset, .unset, .unset, .unset, .unset, .unset, .unset, .unset, .unset, .unset] [(.int c2)])
    refine F_istore X55 at_30 (l' := #[.val (.int p0), .val (.int p1), .val (.int p2), .val (.int p3), .val (.int (1 : Int32)), .val (.int c0), .val (.int c1), .val (.int c2), .unset, .unset, .unset, .unset, .unset, .unset, .unset, .unset, .unset, .unset, .unset]) rfl (pc' := 32) rfl ?_
    refine F_iloadN X55 at_32 rfl (pc' := 33) rfl ?_
    refine F_iloadN X55 at_33 rfl (pc' := 34) rfl ?_
    refine F_iconst X55 (v := (3 : Int32)) at_34 rfl (pc' := 35) rfl ?_
    refine F_static X55 (rm := rm_pick) at_35 (hw _ (List.mem_of_getElem? (i := 1) rfl)) (hw _ (List.mem_of_getElem? (i := 2) rfl)) (hw _ (List.mem_of_getElem? (i := 3) rfl)) (hw _ (List.mem_of_getElem? (i := 4) rfl)) (by decide) (argsL := [(.int p0), (.int p1), (.int (3 : Int32))]) (st := []) rfl (ct_pick l Z a0 hw G1 G3 OS hEL hSA p0 p1 (3 : Int32) X55.old) (lenOf (pd_14) rfl) rfl (by decide) (by decide) (by decide) (Nat.le_of_ble_eq_true rfl) [] (fun _ _ q => by obtain ⟨_, _, e, _⟩ := q; exact own_ks e) (sf0)  (pc' := 38) rfl ?_
    intro T58 _ X59 hQ60
    obtain ⟨c3, rfl, e61, bc3⟩ := hQ60
    show EndW p e below s Z _ _ _ T58 (mkF m 38 #[.val (.int p0), .val (.int p1), .val (.int p2), .val (.int p3), .val (.int (1 : Int32)), .val (.int c0), .val (.int c1), .val (.int c2), .unset, .unset, .unset, .unset, .unset, .unset, .unset, .unset, .unset, .unset, .unset] [(.int c3)])
    refine F_istore X59 at_38 (l' := #[.val (.int p0), .val (.int p1), .val (.int p2), .val (.int p3), .val (.int (1 : Int32)), .val (.int c0), .val (.int c1), .val (.int c2), .val (.int c3), .unset, .unset, .unset, .unset, .unset, .unset, .unset, .unset, .unset, .unset]) rfl (pc' := 40) rfl ?_
    refine F_iload X59 at_40 rfl (pc' := 42) rfl ?_
    refine F_newarray X59 1 at_42 (hw _ (List.mem_of_getElem? (i := 5) rfl)) (by decide) (by decide) (by decide) (by decide) (by decide) (pc' := 44) rfl ?_
    intro T62 b64 k68 X63 hb65 K66 V67
    have g69 : Z.heap.size ≤ b64 := Nat.le_trans X59.le (Nat.le_of_eq hb65.symm)
    have V70 : Arv Z T62.heap b64 k68 .char (1 : Int32) [(.int (0 : Int32))] (.int (0 : Int32)) := V67.pad (pad_rep [] (.int (0 : Int32)) 1)
    refine F_astore X63 at_44 rfl (l' := #[.val (.int p0), .val (.int p1), .val (.int p2), .val (.int p3), .val (.int (1 : Int32)), .val (.int c0), .val (.int c1), .val (.int c2), .val (.int c3), .val (.ref b64), .unset, .unset, .unset, .unset, .unset, .unset, .unset, .unset, .unset]) rfl (pc' := 46) rfl ?_
    refine F_iload X63 at_46 rfl (pc' := 48) rfl ?_
    refine F_ifF X63 at_48 (XT.i0_le_f (by decide)) (pc' := 51) rfl ?_
    refine F_aload X63 at_51 rfl rfl (pc' := 53) rfl ?_
    refine F_iconst X63 (v := (0 : Int32)) at_53 rfl (pc' := 54) rfl ?_
    refine F_iload X63 at_54 rfl (pc' := 56) rfl ?_
    refine F_castore X63 0 (y := c0) at_56 (c8_nar bc0) V70 ⟨by decide, by decide⟩ rfl (Nat.le_of_ble_eq_true rfl) g69 (pc' := 57) rfl ?_
    intro T71 X72 K73 V74
    have V75 : Arv Z T71.heap b64 k68 .char (1 : Int32) [(.int c0)] (.int (0 : Int32)) := V74
    refine F_iload X72 at_57 rfl (pc' := 59) rfl ?_
    refine F_iconst X72 (v := (1 : Int32)) at_59 rfl (pc' := 60) rfl ?_
    refine F_icT X72 at_60 (XT.ii_le_t (by decide)) (pc' := 69) (by decide) rfl ?_
    refine F_iload X72 at_69 rfl (pc' := 71) rfl ?_
    refine F_iconst X72 (v := (2 : Int32)) at_71 rfl (pc' := 72) rfl ?_
    refine F_icT X72 at_72 (XT.ii_le_t (by decide)) (pc' := 81) (by decide) rfl ?_
    refine F_iload X72 at_81 rfl (pc' := 83) rfl ?_
    refine F_iconst X72 (v := (3 : Int32)) at_83 rfl (pc' := 84) rfl ?_
    refine F_icT X72 at_84 (XT.ii_le_t (by decide)) (pc' := 93) (by decide) rfl ?_
    refine F_new X72 at_93 (hw _ (List.mem_of_getElem? (i := 6) rfl)) (hw _ (List.mem_of_getElem? (i := 7) rfl)) (hw _ (List.mem_of_getElem? (i := 8) rfl)) (by decide) (by decide) (pc' := 96) rfl ?_
    intro T76 b78 X77 hb79 K80 E81 D82
    have ne83 : b64 ≠ b78 := Nat.ne_of_lt (Nat.lt_of_lt_of_eq V75.lt hb79.symm)
    have Arv_84 := V75.keep K80 nin0
    have g85 : Z.heap.size ≤ b78 := Nat.le_trans X72.le (Nat.le_of_eq hb79.symm)
    have F86 : Fld Z T76.heap b78 "java/lang/String" "value" "[B" .null := D82 (Or.inr (hw _ (List.mem_of_getElem? (i := 21) rfl))) (ty := (.array .byte)) (by decide)
    have F87 : Fld Z T76.heap b78 "java/lang/String" "coder" "B" (.int (0 : Int32)) := D82 (Or.inr (hw _ (List.mem_of_getElem? (i := 22) rfl))) (ty := .byte) (by decide)
    refine F_dup X77 at_96 rfl (pc' := 97) rfl ?_
    refine F_aload X77 at_97 rfl rfl (pc' := 99) rfl ?_
    refine F_special X77 (rm := rm_sinit) (a := b78) at_99 rfl rfl (hw _ (List.mem_of_getElem? (i := 9) rfl)) (hw _ (List.mem_of_getElem? (i := 10) rfl)) (hw _ (List.mem_of_getElem? (i := 11) rfl)) (by decide) (hw _ (List.mem_of_getElem? (i := 8) rfl)) (argsL := [(.ref b64)]) (st := [(.ref b78)]) rfl (ct_sinit l Z a0 hw G1 G3 OS hEL hSA b78 b64 k68 [c0] (.int (0 : Int32)) .null (.int (0 : Int32)) X77.old (Nat.le_of_ble_eq_true rfl) (Nat.le_of_ble_eq_true rfl) (allC bc0 allN) E81 F86 F87 g85 Arv_84) (lenOf (pd_15) rfl) rfl (by decide) (by decide) (by decide) (Nat.le_of_ble_eq_true rfl) [b78] (fun _ _ q => q.2.1) (sfS (own_safe X77.al E81 F86 (hw _ (List.mem_of_getElem? (i := 7) rfl))) (sf0))  (pc' := 102) rfl ?_
    intro T88 _ X89 hQ90
    obtain ⟨rfl, K91, t92, sz93, S94⟩ := hQ90
    have ne95 : b64 ≠ t92 := Nat.ne_of_lt (Nat.lt_of_lt_of_le Arv_84.lt sz93)
    have ne96 : b78 ≠ t92 := Nat.ne_of_lt (Nat.lt_of_lt_of_le E81.lt sz93)
    have Arv_97 := Arv_84.keep K91 (ninS ne83 nin0)
    show EndW p e below s Z _ _ _ T88 (mkF m 102 #[.val (.int p0), .val (.int p1), .val (.int p2), .val (.int p3), .val (.int (1 : Int32)), .val (.int c0), .val (.int c1), .val (.int c2), .val (.int c3), .val (.ref b64), .unset, .unset, .unset, .unset, .unset, .unset, .unset, .unset, .unset] [(.ref b78)])
    refine F_astore X89 at_102 rfl (l' := #[.val (.int p0), .val (.int p1), .val (.int p2), .val (.int p3), .val (.int (1 : Int32)), .val (.int c0), .val (.int c1), .val (.int c2), .val (.int c3), .val (.ref b64), .val (.ref b78), .unset, .unset, .unset, .unset, .unset, .unset, .unset, .unset]) rfl (pc' := 104) rfl ?_
    exact sg_lawA l Z a0 hw p0 p1 p2 p3 G1 G3 OS hEL hSA c0 c1 c2 c3 1 b78 t92 [c0] (.val (.ref b64)) (X89.more (Nat.le_of_ble_eq_true rfl) (Nat.le_of_ble_eq_true rfl)) S94 rfl (by decide)
  · skip
    show EndW p e below s Z _ _ _ T0 (mkF m 8 #[.val (.int p0), .val (.int p1), .val (.int p2), .val (.int p3), .val (.int (2 : Int32)), .unset, .unset, .unset, .unset, .unset, .unset, .unset, .unset, .unset, .unset, .unset, .unset, .unset, .unset] [])
    refine F_iloadN X0 at_8 rfl (pc' := 9) rfl ?_
    refine F_iloadN X0 at_9 rfl (pc' := 10) rfl ?_
    refine F_iconst X0 (v := (0 : Int32)) at_10 rfl (pc' := 11) rfl ?_
    refine F_static X0 (rm := rm_pick) at_11 (hw _ (List.mem_of_getElem? (i := 1) rfl)) (hw _ (List.mem_of_getElem? (i := 2) rfl)) (hw _ (List.mem_of_getElem? (i := 3) rfl)) (hw _ (List.mem_of_getElem? (i := 4) rfl)) (by decide) (argsL := [(.int p0), (.int p1), (.int (0 : Int32))]) (st := []) rfl (ct_pick l Z a0 hw G1 G3 OS hEL hSA p0 p1 (0 : Int32) X0.old) (lenOf (pd_14) rfl) rfl (by decide) (by decide) (by decide) (Nat.le_of_ble_eq_true rfl) [] (fun _ _ q => by obtain ⟨_, _, e, _⟩ := q; exact own_ks e) (sf0)  (pc' := 14) rfl ?_
    intro T98 _ X99 hQ100
    obtain ⟨c0, rfl, e101, bc0⟩ := hQ100
    show EndW p e below s Z _ _ _ T98 (mkF m 14 #[.val (.int p0), .val (.int p1), .val (.int p2), .val (.int p3), .val (.int (2 : Int32)), .unset, .unset, .unset, .unset, .unset, .unset, .unset, .unset, .unset, .unset, .unset, .unset, .unset, .unset] [(.int c0)])
    refine F_istore X99 at_14 (l' := #[.val (.int p0), .val (.int p1), .val (.int p2), .val (.int p3), .val (.int (2 : Int32)), .val (.int c0), .unset, .unset, .unset, .unset, .unset, .unset, .unset, .unset, .unset, .unset, .unset, .unset, .unset]) rfl (pc' := 16) rfl ?_
    refine F_iloadN X99 at_16 rfl (pc' := 17) rfl ?_
    refine F_iloadN X99 at_17 rfl (pc' := 18) rfl ?_
    refine F_iconst X99 (v := (1 : Int32)) at_18 rfl (pc' := 19) rfl ?_
    refine F_static X99 (rm := rm_pick) at_19 (hw _ (List.mem_of_getElem? (i := 1) rfl)) (hw _ (List.mem_of_getElem? (i := 2) rfl)) (hw _ (List.mem_of_getElem? (i := 3) rfl)) (hw _ (List.mem_of_getElem? (i := 4) rfl)) (by decide) (argsL := [(.int p0), (.int p1), (.int (1 : Int32))]) (st := []) rfl (ct_pick l Z a0 hw G1 G3 OS hEL hSA p0 p1 (1 : Int32) X99.old) (lenOf (pd_14) rfl) rfl (by decide) (by decide) (by decide) (Nat.le_of_ble_eq_true rfl) [] (fun _ _ q => by obtain ⟨_, _, e, _⟩ := q; exact own_ks e) (sf0)  (pc' := 22) rfl ?_
    intro T102 _ X103 hQ104
    obtain ⟨c1, rfl, e105, bc1⟩ := hQ104
    show EndW p e below s Z _ _ _ T102 (mkF m 22 #[.val (.int p0), .val (.int p1), .val (.int p2), .val (.int p3), .val (.int (2 : Int32)), .val (.int c0), .unset, .unset, .unset, .unset, .unset, .unset, .unset, .unset, .unset, .unset, .unset, .unset, .unset] [(.int c1)])
    refine F_istore X103 at_22 (l' := #[.val (.int p0), .val (.int p1), .val (.int p2), .val (.int p3), .val (.int (2 : Int32)), .val (.int c0), .val (.int c1), .unset, .unset, .unset, .unset, .unset, .unset, .unset, .unset, .unset, .unset, .unset, .unset]) rfl (pc' := 24) rfl ?_
    refine F_iloadN X103 at_24 rfl (pc' := 25) rfl ?_
    refine F_iloadN X103 at_25 rfl (pc' := 26) rfl ?_
    refine F_iconst X103 (v := (2 : Int32)) at_26 rfl (pc' := 27) rfl ?_
    refine F_static X103 (rm := rm_pick) at_27 (hw _ (List.mem_of_getElem? (i := 1) rfl)) (hw _ (List.mem_of_getElem? (i := 2) rfl)) (hw _ (List.mem_of_getElem? (i := 3) rfl)) (hw _ (List.mem_of_getElem? (i := 4) rfl)) (by decide) (argsL := [(.int p0), (.int p1), (.int (2 : Int32))]) (st := []) rfl (ct_pick l Z a0 hw G1 G3 OS hEL hSA p0 p1 (2 : Int32) X103.old) (lenOf (pd_14) rfl) rfl (by decide) (by decide) (by decide) (Nat.le_of_ble_eq_true rfl) [] (fun _ _ q => by obtain ⟨_, _, e, _⟩ := q; exact own_ks e) (sf0)  (pc' := 30) rfl ?_
    intro T106 _ X107 hQ108
    obtain ⟨c2, rfl, e109, bc2⟩ := hQ108
    show EndW p e below s Z _ _ _ T106 (mkF m 30 #[.val (.int p0), .val (.int p1), .val (.int p2), .val (.int p3), .val (.int (2 : Int32)), .val (.int c0), .val (.int c1), .unset, .unset, .unset, .unset, .unset, .unset, .unset, .unset, .unset, .unset, .unset, .unset] [(.int c2)])
    refine F_istore X107 at_30 (l' := #[.val (.int p0), .val (.int p1), .val (.int p2), .val (.int p3), .val (.int (2 : Int32)), .val (.int c0), .val (.int c1), .val (.int c2), .unset, .unset, .unset, .unset, .unset, .unset, .unset, .unset, .unset, .unset, .unset]) rfl (pc' := 32) rfl ?_
    refine F_iloadN X107 at_32 rfl (pc' := 33) rfl ?_
    refine F_iloadN X107 at_33 rfl (pc' := 34) rfl ?_
    refine F_iconst X107 (v := (3 : Int32)) at_34 rfl (pc' := 35) rfl ?_
    refine F_static X107 (rm := rm_pick) at_35 (hw _ (List.mem_of_getElem? (i := 1) rfl)) (hw _ (List.mem_of_getElem? (i := 2) rfl)) (hw _ (List.mem_of_getElem? (i := 3) rfl)) (hw _ (List.mem_of_getElem? (i := 4) rfl)) (by decide) (argsL := [(.int p0), (.int p1), (.int (3 : Int32))]) (st := []) rfl (ct_pick l Z a0 hw G1 G3 OS hEL hSA p0 p1 (3 : Int32) X107.old) (lenOf (pd_14) rfl) rfl (by decide) (by decide) (by decide) (Nat.le_of_ble_eq_true rfl) [] (fun _ _ q => by obtain ⟨_, _, e, _⟩ := q; exact own_ks e) (sf0)  (pc' := 38) rfl ?_
    intro T110 _ X111 hQ112
    obtain ⟨c3, rfl, e113, bc3⟩ := hQ112
    show EndW p e below s Z _ _ _ T110 (mkF m 38 #[.val (.int p0), .val (.int p1), .val (.int p2), .val (.int p3), .val (.int (2 : Int32)), .val (.int c0), .val (.int c1), .val (.int c2), .unset, .unset, .unset, .unset, .unset, .unset, .unset, .unset, .unset, .unset, .unset] [(.int c3)])
    refine F_istore X111 at_38 (l' := #[.val (.int p0), .val (.int p1), .val (.int p2), .val (.int p3), .val (.int (2 : Int32)), .val (.int c0), .val (.int c1), .val (.int c2), .val (.int c3), .unset, .unset, .unset, .unset, .unset, .unset, .unset, .unset, .unset, .unset]) rfl (pc' := 40) rfl ?_
    refine F_iload X111 at_40 rfl (pc' := 42) rfl ?_
    refine F_newarray X111 2 at_42 (hw _ (List.mem_of_getElem? (i := 5) rfl)) (by decide) (by decide) (by decide) (by decide) (by decide) (pc' := 44) rfl ?_
    intro T114 b116 k120 X115 hb117 K118 V119
    have g121 : Z.heap.size ≤ b116 := Nat.le_trans X111.le (Nat.le_of_eq hb117.symm)
    have V122 : Arv Z T114.heap b116 k120 .char (2 : Int32) [(.int (0 : Int32)), (.int (0 : Int32))] (.int (0 : Int32)) := V119.pad (pad_rep [] (.int (0 : Int32)) 2)
    refine F_astore X115 at_44 rfl (l' := #[.val (.int p0), .val (.int p1), .val (.int p2), .val (.int p3), .val (.int (2 : Int32)), .val (.int c0), .val (.int c1), .val (.int c2), .val (.int c3), .val (.ref b116), .unset, .unset, .unset, .unset, .unset, .unset, .unset, .unset, .unset]) rfl (pc' := 46) rfl ?_
    refine F_iload X115 at_46 rfl (pc' := 48) rfl ?_
    refine F_ifF X115 at_48 (XT.i0_le_f (by decide)) (pc' := 51) rfl ?_
    refine F_aload X115 at_51 rfl rfl (pc' := 53) rfl ?_
    refine F_iconst X115 (v := (0 : Int32)) at_53 rfl (pc' := 54) rfl ?_
    refine F_iload X115 at_54 rfl (pc' := 56) rfl ?_
    refine F_castore X115 0 (y := c0) at_56 (c8_nar bc0) V122 ⟨by decide, by decide⟩ rfl (Nat.le_of_ble_eq_true rfl) g121 (pc' := 57) rfl ?_
    intro T123 X124 K125 V126
    have V127 : Arv Z T123.heap b116 k120 .char (2 : Int32) [(.int c0), (.int (0 : Int32))] (.int (0 : Int32)) := V126
    refine F_iload X124 at_57 rfl (pc' := 59) rfl ?_
    refine F_iconst X124 (v := (1 : Int32)) at_59 rfl (pc' := 60) rfl ?_
    refine F_icF X124 at_60 (XT.ii_le_f (by decide)) (pc' := 63) rfl ?_
    refine F_aload X124 at_63 rfl rfl (pc' := 65) rfl ?_
    refine F_iconst X124 (v := (1 : Int32)) at_65 rfl (pc' := 66) rfl ?_
    refine F_iload X124 at_66 rfl (pc' := 68) rfl ?_
    refine F_castore X124 1 (y := c1) at_68 (c8_nar bc1) V127 ⟨by decide, by decide⟩ rfl (Nat.le_of_ble_eq_true rfl) g121 (pc' := 69) rfl ?_
    intro T128 X129 K130 V131
    have V132 : Arv Z T128.heap b116 k120 .char (2 : Int32) [(.int c0), (.int c1)] (.int (0 : Int32)) := V131
    refine F_iload X129 at_69 rfl (pc' := 71) rfl ?_
    refine F_iconst X129 (v := (2 : Int32)) at_71 rfl (pc' := 72) rfl ?_
    refine F_icT X129 at_72 (XT.ii_le_t (by decide)) (pc' := 81) (by decide) rfl ?_
    refine F_iload X129 at_81 rfl (pc' := 83) rfl ?_
    refine F_iconst X129 (v := (3 : Int32)) at_83 rfl (pc' := 84) rfl ?_
    refine F_icT X129 at_84 (XT.ii_le_t (by decide)) (pc' := 93) (by decide) rfl ?_
    refine F_new X129 at_93 (hw _ (List.mem_of_getElem? (i := 6) rfl)) (hw _ (List.mem_of_getElem? (i := 7) rfl)) (hw _ (List.mem_of_getElem? (i := 8) rfl)) (by decide) (by decide) (pc' := 96) rfl ?_
    intro T133 b135 X134 hb136 K137 E138 D139
    have ne140 : b116 ≠ b135 := Nat.ne_of_lt (Nat.lt_of_lt_of_eq V132.lt hb136.symm)
    have Arv_141 := V132.keep K137 nin0
    have g142 : Z.heap.size ≤ b135 := Nat.le_trans X129.le (Nat.le_of_eq hb136.symm)
    have F143 : Fld Z T133.heap b135 "java/lang/String" "value" "[B" .null := D139 (Or.inr (hw _ (List.mem_of_getElem? (i := 21) rfl))) (ty := (.array .byte)) (by decide)
    have F144 : Fld Z T133.heap b135 "java/lang/String" "coder" "B" (.int (0 : Int32)) := D139 (Or.inr (hw _ (List.mem_of_getElem? (i := 22) rfl))) (ty := .byte) (by decide)
    refine F_dup X134 at_96 rfl (pc' := 97) rfl ?_
    refine F_aload X134 at_97 rfl rfl (pc' := 99) rfl ?_
    refine F_special X134 (rm := rm_sinit) (a := b135) at_99 rfl rfl (hw _ (List.mem_of_getElem? (i := 9) rfl)) (hw _ (List.mem_of_getElem? (i := 10) rfl)) (hw _ (List.mem_of_getElem? (i := 11) rfl)) (by decide) (hw _ (List.mem_of_getElem? (i := 8) rfl)) (argsL := [(.ref b116)]) (st := [(.ref b135)]) rfl (ct_sinit l Z a0 hw G1 G3 OS hEL hSA b135 b116 k120 [c0, c1] (.int (0 : Int32)) .null (.int (0 : Int32)) X134.old (Nat.le_of_ble_eq_true rfl) (Nat.le_of_ble_eq_true rfl) (allC bc0 (allC bc1 allN)) E138 F143 F144 g142 Arv_141) (lenOf (pd_15) rfl) rfl (by decide) (by decide) (by decide) (Nat.le_of_ble_eq_true rfl) [b135] (fun _ _ q => q.2.1) (sfS (own_safe X134.al E138 F143 (hw _ (List.mem_of_getElem? (i := 7) rfl))) (sf0))  (pc' := 102) rfl ?_
    intro T145 _ X146 hQ147
    obtain ⟨rfl, K148, t149, sz150, S151⟩ := hQ147
    have ne152 : b116 ≠ t149 := Nat.ne_of_lt (Nat.lt_of_lt_of_le Arv_141.lt sz150)
    have ne153 : b135 ≠ t149 := Nat.ne_of_lt (Nat.lt_of_lt_of_le E138.lt sz150)
    have Arv_154 := Arv_141.keep K148 (ninS ne140 nin0)
    show EndW p e below s Z _ _ _ T145 (mkF m 102 #[.val (.int p0), .val (.int p1), .val (.int p2), .val (.int p3), .val (.int (2 : Int32)), .val (.int c0), .val (.int c1), .val (.int c2), .val (.int c3), .val (.ref b116), .unset, .unset, .unset, .unset, .unset, .unset, .unset, .unset, .unset] [(.ref b135)])
    refine F_astore X146 at_102 rfl (l' := #[.val (.int p0), .val (.int p1), .val (.int p2), .val (.int p3), .val (.int (2 : Int32)), .val (.int c0), .val (.int c1), .val (.int c2), .val (.int c3), .val (.ref b116), .val (.ref b135), .unset, .unset, .unset, .unset, .unset, .unset, .unset, .unset]) rfl (pc' := 104) rfl ?_
    exact sg_lawA l Z a0 hw p0 p1 p2 p3 G1 G3 OS hEL hSA c0 c1 c2 c3 2 b135 t149 [c0, c1] (.val (.ref b116)) (X146.more (Nat.le_of_ble_eq_true rfl) (Nat.le_of_ble_eq_true rfl)) S151 rfl (by decide)
  · skip
    show EndW p e below s Z _ _ _ T0 (mkF m 8 #[.val (.int p0), .val (.int p1), .val (.int p2), .val (.int p3), .val (.int (3 : Int32)), .unset, .unset, .unset, .unset, .unset, .unset, .unset, .unset, .unset, .unset, .unset, .unset, .unset, .unset] [])
    refine F_iloadN X0 at_8 rfl (pc' := 9) rfl ?_
    refine F_iloadN X0 at_9 rfl (pc' := 10) rfl ?_
    refine F_iconst X0 (v := (0 : Int32)) at_10 rfl (pc' := 11) rfl ?_
    refine F_static X0 (rm := rm_pick) at_11 (hw _ (List.mem_of_getElem? (i := 1) rfl)) (hw _ (List.mem_of_getElem? (i := 2) rfl)) (hw _ (List.mem_of_getElem? (i := 3) rfl)) (hw _ (List.mem_of_getElem? (i := 4) rfl)) (by decide) (argsL := [(.int p0), (.int p1), (.int (0 : Int32))]) (st := []) rfl (ct_pick l Z a0 hw G1 G3 OS hEL hSA p0 p1 (0 : Int32) X0.old) (lenOf (pd_14) rfl) rfl (by decide) (by decide) (by decide) (Nat.le_of_ble_eq_true rfl) [] (fun _ _ q => by obtain ⟨_, _, e, _⟩ := q; exact own_ks e) (sf0)  (pc' := 14) rfl ?_
    intro T155 _ X156 hQ157
    obtain ⟨c0, rfl, e158, bc0⟩ := hQ157
    show EndW p e below s Z _ _ _ T155 (mkF m 14 #[.val (.int p0), .val (.int p1), .val (.int p2), .val (.int p3), .val (.int (3 : Int32)), .unset, .unset, .unset, .unset, .unset, .unset, .unset, .unset, .unset, .unset, .unset, .unset, .unset, .unset] [(.int c0)])
    refine F_istore X156 at_14 (l' := #[.val (.int p0), .val (.int p1), .val (.int p2), .val (.int p3), .val (.int (3 : Int32)), .val (.int c0), .unset, .unset, .unset, .unset, .unset, .unset, .unset, .unset, .unset, .unset, .unset, .unset, .unset]) rfl (pc' := 16) rfl ?_
    refine F_iloadN X156 at_16 rfl (pc' := 17) rfl ?_
    refine F_iloadN X156 at_17 rfl (pc' := 18) rfl ?_
    refine F_iconst X156 (v := (1 : Int32)) at_18 rfl (pc' := 19) rfl ?_
    refine F_static X156 (rm := rm_pick) at_19 (hw _ (List.mem_of_getElem? (i := 1) rfl)) (hw _ (List.mem_of_getElem? (i := 2) rfl)) (hw _ (List.mem_of_getElem? (i := 3) rfl)) (hw _ (List.mem_of_getElem? (i := 4) rfl)) (by decide) (argsL := [(.int p0), (.int p1), (.int (1 : Int32))]) (st := []) rfl (ct_pick l Z a0 hw G1 G3 OS hEL hSA p0 p1 (1 : Int32) X156.old) (lenOf (pd_14) rfl) rfl (by decide) (by decide) (by decide) (Nat.le_of_ble_eq_true rfl) [] (fun _ _ q => by obtain ⟨_, _, e, _⟩ := q; exact own_ks e) (sf0)  (pc' := 22) rfl ?_
    intro T159 _ X160 hQ161
    obtain ⟨c1, rfl, e162, bc1⟩ := hQ161
    show EndW p e below s Z _ _ _ T159 (mkF m 22 #[.val (.int p0), .val (.int p1), .val (.int p2), .val (.int p3), .val (.int (3 : Int32)), .val (.int c0), .unset, .unset, .unset, .unset, .unset, .unset, .unset, .unset, .unset, .unset, .unset, .unset, .unset] [(.int c1)])
    refine F_istore X160 at_22 (l' := #[.val (.int p0), .val (.int p1), .val (.int p2), .val (.int p3), .val (.int (3 : Int32)), .val (.int c0), .val (.int c1), .unset, .unset, .unset, .unset, .unset, .unset, .unset, .unset, .unset, .unset, .unset, .unset]) rfl (pc' := 24) rfl ?_
    refine F_iloadN X160 at_24 rfl (pc' := 25) rfl ?_
    refine F_iloadN X160 at_25 rfl (pc' := 26) rfl ?_
    refine F_iconst X160 (v := (2 : Int32)) at_26 rfl (pc' := 27) rfl ?_
    refine F_static X160 (rm := rm_pick) at_27 (hw _ (List.mem_of_getElem? (i := 1) rfl)) (hw _ (List.mem_of_getElem? (i := 2) rfl)) (hw _ (List.mem_of_getElem? (i := 3) rfl)) (hw _ (List.mem_of_getElem? (i := 4) rfl)) (by decide) (argsL := [(.int p0), (.int p1), (.int (2 : Int32))]) (st := []) rfl (ct_pick l Z a0 hw G1 G3 OS hEL hSA p0 p1 (2 : Int32) X160.old) (lenOf (pd_14) rfl) rfl (by decide) (by decide) (by decide) (Nat.le_of_ble_eq_true rfl) [] (fun _ _ q => by obtain ⟨_, _, e, _⟩ := q; exact own_ks e) (sf0)  (pc' := 30) rfl ?_
    intro T163 _ X164 hQ165
    obtain ⟨c2, rfl, e166, bc2⟩ := hQ165
    show EndW p e below s Z _ _ _ T163 (mkF m 30 #[.val (.int p0), .val (.int p1), .val (.int p2), .val (.int p3), .val (.int (3 : Int32)), .val (.int c0), .val (.int c1), .unset, .unset, .unset, .unset, .unset, .unset, .unset, .unset, .unset, .unset, .unset, .unset] [(.int c2)])
    refine F_istore X164 at_30 (l' := #[.val (.int p0), .val (.int p1), .val (.int p2), .val (.int p3), .val (.int (3 : Int32)), .val (.int c0), .val (.int c1), .val (.int c2), .unset, .unset, .unset, .unset, .unset, .unset, .unset, .unset, .unset, .unset, .unset]) rfl (pc' := 32) rfl ?_
    refine F_iloadN X164 at_32 rfl (pc' := 33) rfl ?_
    refine F_iloadN X164 at_33 rfl (pc' := 34) rfl ?_
    refine F_iconst X164 (v := (3 : Int32)) at_34 rfl (pc' := 35) rfl ?_
    refine F_static X164 (rm := rm_pick) at_35 (hw _ (List.mem_of_getElem? (i := 1) rfl)) (hw _ (List.mem_of_getElem? (i := 2) rfl)) (hw _ (List.mem_of_getElem? (i := 3) rfl)) (hw _ (List.mem_of_getElem? (i := 4) rfl)) (by decide) (argsL := [(.int p0), (.int p1), (.int (3 : Int32))]) (st := []) rfl (ct_pick l Z a0 hw G1 G3 OS hEL hSA p0 p1 (3 : Int32) X164.old) (lenOf (pd_14) rfl) rfl (by decide) (by decide) (by decide) (Nat.le_of_ble_eq_true rfl) [] (fun _ _ q => by obtain ⟨_, _, e, _⟩ := q; exact own_ks e) (sf0)  (pc' := 38) rfl ?_
    intro T167 _ X168 hQ169
    obtain ⟨c3, rfl, e170, bc3⟩ := hQ169
    show EndW p e below s Z _ _ _ T167 (mkF m 38 #[.val (.int p0), .val (.int p1), .val (.int p2), .val (.int p3), .val (.int (3 : Int32)), .val (.int c0), .val (.int c1), .val (.int c2), .unset, .unset, .unset, .unset, .unset, .unset, .unset, .unset, .unset, .unset, .unset] [(.int c3)])
    refine F_istore X168 at_38 (l' := #[.val (.int p0), .val (.int p1), .val (.int p2), .val (.int p3), .val (.int (3 : Int32)), .val (.int c0), .val (.int c1), .val (.int c2), .val (.int c3), .unset, .unset, .unset, .unset, .unset, .unset, .unset, .unset, .unset, .unset]) rfl (pc' := 40) rfl ?_
    refine F_iload X168 at_40 rfl (pc' := 42) rfl ?_
    refine F_newarray X168 3 at_42 (hw _ (List.mem_of_getElem? (i := 5) rfl)) (by decide) (by decide) (by decide) (by decide) (by decide) (pc' := 44) rfl ?_
    intro T171 b173 k177 X172 hb174 K175 V176
    have g178 : Z.heap.size ≤ b173 := Nat.le_trans X168.le (Nat.le_of_eq hb174.symm)
    have V179 : Arv Z T171.heap b173 k177 .char (3 : Int32) [(.int (0 : Int32)), (.int (0 : Int32)), (.int (0 : Int32))] (.int (0 : Int32)) := V176.pad (pad_rep [] (.int (0 : Int32)) 3)
    refine F_astore X172 at_44 rfl (l' := #[.val (.int p0), .val (.int p1), .val (.int p2), .val (.int p3), .val (.int (3 : Int32)), .val (.int c0), .val (.int c1), .val (.int c2), .val (.int c3), .val (.ref b173), .unset, .unset, .unset, .unset, .unset, .unset, .unset, .unset, .unset]) rfl (pc' := 46) rfl ?_
    refine F_iload X172 at_46 rfl (pc' := 48) rfl ?_
    refine F_ifF X172 at_48 (XT.i0_le_f (by decide)) (pc' := 51) rfl ?_
    refine F_aload X172 at_51 rfl rfl (pc' := 53) rfl ?_
    refine F_iconst X172 (v := (0 : Int32)) at_53 rfl (pc' := 54) rfl ?_
    refine F_iload X172 at_54 rfl (pc' := 56) rfl ?_
    refine F_castore X172 0 (y := c0) at_56 (c8_nar bc0) V179 ⟨by decide, by decide⟩ rfl (Nat.le_of_ble_eq_true rfl) g178 (pc' := 57) rfl ?_
    intro T180 X181 K182 V183
    have V184 : Arv Z T180.heap b173 k177 .char (3 : Int32) [(.int c0), (.int (0 : Int32)), (.int (0 : Int32))] (.int (0 : Int32)) := V183
    refine F_iload X181 at_57 rfl (pc' := 59) rfl ?_
    refine F_iconst X181 (v := (1 : Int32)) at_59 rfl (pc' := 60) rfl ?_
    refine F_icF X181 at_60 (XT.ii_le_f (by decide)) (pc' := 63) rfl ?_
    refine F_aload X181 at_63 rfl rfl (pc' := 65) rfl ?_
    refine F_iconst X181 (v := (1 : Int32)) at_65 rfl (pc' := 66) rfl ?_
    refine F_iload X181 at_66 rfl (pc' := 68) rfl ?_
    refine F_castore X181 1 (y := c1) at_68 (c8_nar bc1) V184 ⟨by decide, by decide⟩ rfl (Nat.le_of_ble_eq_true rfl) g178 (pc' := 69) rfl ?_
    intro T185 X186 K187 V188
    have V189 : Arv Z T185.heap b173 k177 .char (3 : Int32) [(.int c0), (.int c1), (.int (0 : Int32))] (.int (0 : Int32)) := V188
    refine F_iload X186 at_69 rfl (pc' := 71) rfl ?_
    refine F_iconst X186 (v := (2 : Int32)) at_71 rfl (pc' := 72) rfl ?_
    refine F_icF X186 at_72 (XT.ii_le_f (by decide)) (pc' := 75) rfl ?_
    refine F_aload X186 at_75 rfl rfl (pc' := 77) rfl ?_
    refine F_iconst X186 (v := (2 : Int32)) at_77 rfl (pc' := 78) rfl ?_
    refine F_iload X186 at_78 rfl (pc' := 80) rfl ?_
    refine F_castore X186 2 (y := c2) at_80 (c8_nar bc2) V189 ⟨by decide, by decide⟩ rfl (Nat.le_of_ble_eq_true rfl) g178 (pc' := 81) rfl ?_
    intro T190 X191 K192 V193
    have V194 : Arv Z T190.heap b173 k177 .char (3 : Int32) [(.int c0), (.int c1), (.int c2)] (.int (0 : Int32)) := V193
    refine F_iload X191 at_81 rfl (pc' := 83) rfl ?_
    refine F_iconst X191 (v := (3 : Int32)) at_83 rfl (pc' := 84) rfl ?_
    refine F_icT X191 at_84 (XT.ii_le_t (by decide)) (pc' := 93) (by decide) rfl ?_
    refine F_new X191 at_93 (hw _ (List.mem_of_getElem? (i := 6) rfl)) (hw _ (List.mem_of_getElem? (i := 7) rfl)) (hw _ (List.mem_of_getElem? (i := 8) rfl)) (by decide) (by decide) (pc' := 96) rfl ?_
    intro T195 b197 X196 hb198 K199 E200 D201
    have ne202 : b173 ≠ b197 := Nat.ne_of_lt (Nat.lt_of_lt_of_eq V194.lt hb198.symm)
    have Arv_203 := V194.keep K199 nin0
    have g204 : Z.heap.size ≤ b197 := Nat.le_trans X191.le (Nat.le_of_eq hb198.symm)
    have F205 : Fld Z T195.heap b197 "java/lang/String" "value" "[B" .null := D201 (Or.inr (hw _ (List.mem_of_getElem? (i := 21) rfl))) (ty := (.array .byte)) (by decide)
    have F206 : Fld Z T195.heap b197 "java/lang/String" "coder" "B" (.int (0 : Int32)) := D201 (Or.inr (hw _ (List.mem_of_getElem? (i := 22) rfl))) (ty := .byte) (by decide)
    refine F_dup X196 at_96 rfl (pc' := 97) rfl ?_
    refine F_aload X196 at_97 rfl rfl (pc' := 99) rfl ?_
    refine F_special X196 (rm := rm_sinit) (a := b197) at_99 rfl rfl (hw _ (List.mem_of_getElem? (i := 9) rfl)) (hw _ (List.mem_of_getElem? (i := 10) rfl)) (hw _ (List.mem_of_getElem? (i := 11) rfl)) (by decide) (hw _ (List.mem_of_getElem? (i := 8) rfl)) (argsL := [(.ref b173)]) (st := [(.ref b197)]) rfl (ct_sinit l Z a0 hw G1 G3 OS hEL hSA b197 b173 k177 [c0, c1, c2] (.int (0 : Int32)) .null (.int (0 : Int32)) X196.old (Nat.le_of_ble_eq_true rfl) (Nat.le_of_ble_eq_true rfl) (allC bc0 (allC bc1 (allC bc2 allN))) E200 F205 F206 g204 Arv_203) (lenOf (pd_15) rfl) rfl (by decide) (by decide) (by decide) (Nat.le_of_ble_eq_true rfl) [b197] (fun _ _ q => q.2.1) (sfS (own_safe X196.al E200 F205 (hw _ (List.mem_of_getElem? (i := 7) rfl))) (sf0))  (pc' := 102) rfl ?_
    intro T207 _ X208 hQ209
    obtain ⟨rfl, K210, t211, sz212, S213⟩ := hQ209
    have ne214 : b173 ≠ t211 := Nat.ne_of_lt (Nat.lt_of_lt_of_le Arv_203.lt sz212)
    have ne215 : b197 ≠ t211 := Nat.ne_of_lt (Nat.lt_of_lt_of_le E200.lt sz212)
    have Arv_216 := Arv_203.keep K210 (ninS ne202 nin0)
    show EndW p e below s Z _ _ _ T207 (mkF m 102 #[.val (.int p0), .val (.int p1), .val (.int p2), .val (.int p3), .val (.int (3 : Int32)), .val (.int c0), .val (.int c1), .val (.int c2), .val (.int c3), .val (.ref b173), .unset, .unset, .unset, .unset, .unset, .unset, .unset, .unset, .unset] [(.ref b197)])
    refine F_astore X208 at_102 rfl (l' := #[.val (.int p0), .val (.int p1), .val (.int p2), .val (.int p3), .val (.int (3 : Int32)), .val (.int c0), .val (.int c1), .val (.int c2), .val (.int c3), .val (.ref b173), .val (.ref b197), .unset, .unset, .unset, .unset, .unset, .unset, .unset, .unset]) rfl (pc' := 104) rfl ?_
    exact sg_lawA l Z a0 hw p0 p1 p2 p3 G1 G3 OS hEL hSA c0 c1 c2 c3 3 b197 t211 [c0, c1, c2] (.val (.ref b173)) (X208.more (Nat.le_of_ble_eq_true rfl) (Nat.le_of_ble_eq_true rfl)) S213 rfl (by decide)
  · skip
    show EndW p e below s Z _ _ _ T0 (mkF m 8 #[.val (.int p0), .val (.int p1), .val (.int p2), .val (.int p3), .val (.int (4 : Int32)), .unset, .unset, .unset, .unset, .unset, .unset, .unset, .unset, .unset, .unset, .unset, .unset, .unset, .unset] [])
    refine F_iloadN X0 at_8 rfl (pc' := 9) rfl ?_
    refine F_iloadN X0 at_9 rfl (pc' := 10) rfl ?_
    refine F_iconst X0 (v := (0 : Int32)) at_10 rfl (pc' := 11) rfl ?_
    refine F_static X0 (rm := rm_pick) at_11 (hw _ (List.mem_of_getElem? (i := 1) rfl)) (hw _ (List.mem_of_getElem? (i := 2) rfl)) (hw _ (List.mem_of_getElem? (i := 3) rfl)) (hw _ (List.mem_of_getElem? (i := 4) rfl)) (by decide) (argsL := [(.int p0), (.int p1), (.int (0 : Int32))]) (st := []) rfl (ct_pick l Z a0 hw G1 G3 OS hEL hSA p0 p1 (0 : Int32) X0.old) (lenOf (pd_14) rfl) rfl (by decide) (by decide) (by decide) (Nat.le_of_ble_eq_true rfl) [] (fun _ _ q => by obtain ⟨_, _, e, _⟩ := q; exact own_ks e) (sf0)  (pc' := 14) rfl ?_
    intro T217 _ X218 hQ219
    obtain ⟨c0, rfl, e220, bc0⟩ := hQ219
    show EndW p e below s Z _ _ _ T217 (mkF m 14 #[.val (.int p0), .val (.int p1), .val (.int p2), .val (.int p3), .val (.int (4 : Int32)), .unset, .unset, .unset, .unset, .unset, .unset, .unset, .unset, .unset, .unset, .unset, .unset, .unset, .unset] [(.int c0)])
    refine F_istore X218 at_14 (l' := #[.val (.int p0), .val (.int p1), .val (.int p2), .val (.int p3), .val (.int (4 : Int32)), .val (.int c0), .unset, .unset, .unset, .unset, .unset, .unset, .unset, .unset, .unset, .unset, .unset, .unset, .unset]) rfl (pc' := 16) rfl ?_
    refine F_iloadN X218 at_16 rfl (pc' := 17) rfl ?_
    refine F_iloadN X218 at_17 rfl (pc' := 18) rfl ?_
    refine F_iconst X218 (v := (1 : Int32)) at_18 rfl (pc' := 19) rfl ?_
    refine F_static X218 (rm := rm_pick) at_19 (hw _ (List.mem_of_getElem? (i := 1) rfl)) (hw _ (List.mem_of_getElem? (i := 2) rfl)) (hw _ (List.mem_of_getElem? (i := 3) rfl)) (hw _ (List.mem_of_getElem? (i := 4) rfl)) (by decide) (argsL := [(.int p0), (.int p1), (.int (1 : Int32))]) (st := []) rfl (ct_pick l Z a0 hw G1 G3 OS hEL hSA p0 p1 (1 : Int32) X218.old) (lenOf (pd_14) rfl) rfl (by decide) (by decide) (by decide) (Nat.le_of_ble_eq_true rfl) [] (fun _ _ q => by obtain ⟨_, _, e, _⟩ := q; exact own_ks e) (sf0)  (pc' := 22) rfl ?_
    intro T221 _ X222 hQ223
    obtain ⟨c1, rfl, e224, bc1⟩ := hQ223
    show EndW p e below s Z _ _ _ T221 (mkF m 22 #[.val (.int p0), .val (.int p1), .val (.int p2), .val (.int p3), .val (.int (4 : Int32)), .val (.int c0), .unset, .unset, .unset, .unset, .unset, .unset, .unset, .unset, .unset, .unset, .unset, .unset, .unset] [(.int c1)])
    refine F_istore X222 at_22 (l' := #[.val (.int p0), .val (.int p1), .val (.int p2), .val (.int p3), .val (.int (4 : Int32)), .val (.int c0), .val (.int c1), .unset, .unset, .unset, .unset, .unset, .unset, .unset, .unset, .unset, .unset, .unset, .unset]) rfl (pc' := 24) rfl ?_
    refine F_iloadN X222 at_24 rfl (pc' := 25) rfl ?_
    refine F_iloadN X222 at_25 rfl (pc' := 26) rfl ?_
    refine F_iconst X222 (v := (2 : Int32)) at_26 rfl (pc' := 27) rfl ?_
    refine F_static X222 (rm := rm_pick) at_27 (hw _ (List.mem_of_getElem? (i := 1) rfl)) (hw _ (List.mem_of_getElem? (i := 2) rfl)) (hw _ (List.mem_of_getElem? (i := 3) rfl)) (hw _ (List.mem_of_getElem? (i := 4) rfl)) (by decide) (argsL := [(.int p0), (.int p1), (.int (2 : Int32))]) (st := []) rfl (ct_pick l Z a0 hw G1 G3 OS hEL hSA p0 p1 (2 : Int32) X222.old) (lenOf (pd_14) rfl) rfl (by decide) (by decide) (by decide) (Nat.le_of_ble_eq_true rfl) [] (fun _ _ q => by obtain ⟨_, _, e, _⟩ := q; exact own_ks e) (sf0)  (pc' := 30) rfl ?_
    intro T225 _ X226 hQ227
    obtain ⟨c2, rfl, e228, bc2⟩ := hQ227
    show EndW p e below s Z _ _ _ T225 (mkF m 30 #[.val (.int p0), .val (.int p1), .val (.int p2), .val (.int p3), .val (.int (4 : Int32)), .val (.int c0), .val (.int c1), .unset, .unset, .unset, .unset, .unset, .unset, .unset, .unset, .unset, .unset, .unset, .unset] [(.int c2)])
    refine F_istore X226 at_30 (l' := #[.val (.int p0), .val (.int p1), .val (.int p2), .val (.int p3), .val (.int (4 : Int32)), .val (.int c0), .val (.int c1), .val (.int c2), .unset, .unset, .unset, .unset, .unset, .unset, .unset, .unset, .unset, .unset, .unset]) rfl (pc' := 32) rfl ?_
    refine F_iloadN X226 at_32 rfl (pc' := 33) rfl ?_
    refine F_iloadN X226 at_33 rfl (pc' := 34) rfl ?_
    refine F_iconst X226 (v := (3 : Int32)) at_34 rfl (pc' := 35) rfl ?_
    refine F_static X226 (rm := rm_pick) at_35 (hw _ (List.mem_of_getElem? (i := 1) rfl)) (hw _ (List.mem_of_getElem? (i := 2) rfl)) (hw _ (List.mem_of_getElem? (i := 3) rfl)) (hw _ (List.mem_of_getElem? (i := 4) rfl)) (by decide) (argsL := [(.int p0), (.int p1), (.int (3 : Int32))]) (st := []) rfl (ct_pick l Z a0 hw G1 G3 OS hEL hSA p0 p1 (3 : Int32) X226.old) (lenOf (pd_14) rfl) rfl (by decide) (by decide) (by decide) (Nat.le_of_ble_eq_true rfl) [] (fun _ _ q => by obtain ⟨_, _, e, _⟩ := q; exact own_ks e) (sf0)  (pc' := 38) rfl ?_
    intro T229 _ X230 hQ231
    obtain ⟨c3, rfl, e232, bc3⟩ := hQ231
    show EndW p e below s Z _ _ _ T229 (mkF m 38 #[.val (.int p0), .val (.int p1), .val (.int p2), .val (.int p3), .val (.int (4 : Int32)), .val (.int c0), .val (.int c1), .val (.int c2), .unset, .unset, .unset, .unset, .unset, .unset, .unset, .unset, .unset, .unset, .unset] [(.int c3)])
    refine F_istore X230 at_38 (l' := #[.val (.int p0), .val (.int p1), .val (.int p2), .val (.int p3), .val (.int (4 : Int32)), .val (.int c0), .val (.int c1), .val (.int c2), .val (.int c3), .unset, .unset, .unset, .unset, .unset, .unset, .unset, .unset, .unset, .unset]) rfl (pc' := 40) rfl ?_
    refine F_iload X230 at_40 rfl (pc' := 42) rfl ?_
    refine F_newarray X230 4 at_42 (hw _ (List.mem_of_getElem? (i := 5) rfl)) (by decide) (by decide) (by decide) (by decide) (by decide) (pc' := 44) rfl ?_
    intro T233 b235 k239 X234 hb236 K237 V238
    have g240 : Z.heap.size ≤ b235 := Nat.le_trans X230.le (Nat.le_of_eq hb236.symm)
    have V241 : Arv Z T233.heap b235 k239 .char (4 : Int32) [(.int (0 : Int32)), (.int (0 : Int32)), (.int (0 : Int32)), (.int (0 : Int32))] (.int (0 : Int32)) := V238.pad (pad_rep [] (.int (0 : Int32)) 4)
    refine F_astore X234 at_44 rfl (l' := #[.val (.int p0), .val (.int p1), .val (.int p2), .val (.int p3), .val (.int (4 : Int32)), .val (.int c0), .val (.int c1), .val (.int c2), .val (.int c3), .val (.ref b235), .unset, .unset, .unset, .unset, .unset, .unset, .unset, .unset, .unset]) rfl (pc' := 46) rfl ?_
    refine F_iload X234 at_46 rfl (pc' := 48) rfl ?_
    refine F_ifF X234 at_48 (XT.i0_le_f (by decide)) (pc' := 51) rfl ?_
    refine F_aload X234 at_51 rfl rfl (pc' := 53) rfl ?_
    refine F_iconst X234 (v := (0 : Int32)) at_53 rfl (pc' := 54) rfl ?_
    refine F_iload X234 at_54 rfl (pc' := 56) rfl ?_
    refine F_castore X234 0 (y := c0) at_56 (c8_nar bc0) V241 ⟨by decide, by decide⟩ rfl (Nat.le_of_ble_eq_true rfl) g240 (pc' := 57) rfl ?_
    intro T242 X243 K244 V245
    have V246 : Arv Z T242.heap b235 k239 .char (4 : Int32) [(.int c0), (.int (0 : Int32)), (.int (0 : Int32)), (.int (0 : Int32))] (.int (0 : Int32)) := V245
    refine F_iload X243 at_57 rfl (pc' := 59) rfl ?_
    refine F_iconst X243 (v := (1 : Int32)) at_59 rfl (pc' := 60) rfl ?_
    refine F_icF X243 at_60 (XT.ii_le_f (by decide)) (pc' := 63) rfl ?_
    refine F_aload X243 at_63 rfl rfl (pc' := 65) rfl ?_
    refine F_iconst X243 (v := (1 : Int32)) at_65 rfl (pc' := 66) rfl ?_
    refine F_iload X243 at_66 rfl (pc' := 68) rfl ?_
    refine F_castore X243 1 (y := c1) at_68 (c8_nar bc1) V246 ⟨by decide, by decide⟩ rfl (Nat.le_of_ble_eq_true rfl) g240 (pc' := 69) rfl ?_
    intro T247 X248 K249 V250
    have V251 : Arv Z T247.heap b235 k239 .char (4 : Int32) [(.int c0), (.int c1), (.int (0 : Int32)), (.int (0 : Int32))] (.int (0 : Int32)) := V250
    refine F_iload X248 at_69 rfl (pc' := 71) rfl ?_
    refine F_iconst X248 (v := (2 : Int32)) at_71 rfl (pc' := 72) rfl ?_
    refine F_icF X248 at_72 (XT.ii_le_f (by decide)) (pc' := 75) rfl ?_
    refine F_aload X248 at_75 rfl rfl (pc' := 77) rfl ?_
    refine F_iconst X248 (v := (2 : Int32)) at_77 rfl (pc' := 78) rfl ?_
    refine F_iload X248 at_78 rfl (pc' := 80) rfl ?_
    refine F_castore X248 2 (y := c2) at_80 (c8_nar bc2) V251 ⟨by decide, by decide⟩ rfl (Nat.le_of_ble_eq_true rfl) g240 (pc' := 81) rfl ?_
    intro T252 X253 K254 V255
    have V256 : Arv Z T252.heap b235 k239 .char (4 : Int32) [(.int c0), (.int c1), (.int c2), (.int (0 : Int32))] (.int (0 : Int32)) := V255
    refine F_iload X253 at_81 rfl (pc' := 83) rfl ?_
    refine F_iconst X253 (v := (3 : Int32)) at_83 rfl (pc' := 84) rfl ?_
    refine F_icF X253 at_84 (XT.ii_le_f (by decide)) (pc' := 87) rfl ?_
    refine F_aload X253 at_87 rfl rfl (pc' := 89) rfl ?_
    refine F_iconst X253 (v := (3 : Int32)) at_89 rfl (pc' := 90) rfl ?_
    refine F_iload X253 at_90 rfl (pc' := 92) rfl ?_
    refine F_castore X253 3 (y := c3) at_92 (c8_nar bc3) V256 ⟨by decide, by decide⟩ rfl (Nat.le_of_ble_eq_true rfl) g240 (pc' := 93) rfl ?_
    intro T257 X258 K259 V260
    have V261 : Arv Z T257.heap b235 k239 .char (4 : Int32) [(.int c0), (.int c1), (.int c2), (.int c3)] (.int (0 : Int32)) := V260
    refine F_new X258 at_93 (hw _ (List.mem_of_getElem? (i := 6) rfl)) (hw _ (List.mem_of_getElem? (i := 7) rfl)) (hw _ (List.mem_of_getElem? (i := 8) rfl)) (by decide) (by decide) (pc' := 96) rfl ?_
    intro T262 b264 X263 hb265 K266 E267 D268
    have ne269 : b235 ≠ b264 := Nat.ne_of_lt (Nat.lt_of_lt_of_eq V261.lt hb265.symm)
    have Arv_270 := V261.keep K266 nin0
    have g271 : Z.heap.size ≤ b264 := Nat.le_trans X258.le (Nat.le_of_eq hb265.symm)
    have F272 : Fld Z T262.heap b264 "java/lang/String" "value" "[B" .null := D268 (Or.inr (hw _ (List.mem_of_getElem? (i := 21) rfl))) (ty := (.array .byte)) (by decide)
    have F273 : Fld Z T262.heap b264 "java/lang/String" "coder" "B" (.int (0 : Int32)) := D268 (Or.inr (hw _ (List.mem_of_getElem? (i := 22) rfl))) (ty := .byte) (by decide)
    refine F_dup X263 at_96 rfl (pc' := 97) rfl ?_
    refine F_aload X263 at_97 rfl rfl (pc' := 99) rfl ?_
    refine F_special X263 (rm := rm_sinit) (a := b264) at_99 rfl rfl (hw _ (List.mem_of_getElem? (i := 9) rfl)) (hw _ (List.mem_of_getElem? (i := 10) rfl)) (hw _ (List.mem_of_getElem? (i := 11) rfl)) (by decide) (hw _ (List.mem_of_getElem? (i := 8) rfl)) (argsL := [(.ref b235)]) (st := [(.ref b264)]) rfl (ct_sinit l Z a0 hw G1 G3 OS hEL hSA b264 b235 k239 [c0, c1, c2, c3] (.int (0 : Int32)) .null (.int (0 : Int32)) X263.old (Nat.le_of_ble_eq_true rfl) (Nat.le_of_ble_eq_true rfl) (allC bc0 (allC bc1 (allC bc2 (allC bc3 allN)))) E267 F272 F273 g271 Arv_270) (lenOf (pd_15) rfl) rfl (by decide) (by decide) (by decide) (Nat.le_of_ble_eq_true rfl) [b264] (fun _ _ q => q.2.1) (sfS (own_safe X263.al E267 F272 (hw _ (List.mem_of_getElem? (i := 7) rfl))) (sf0))  (pc' := 102) rfl ?_
    intro T274 _ X275 hQ276
    obtain ⟨rfl, K277, t278, sz279, S280⟩ := hQ276
    have ne281 : b235 ≠ t278 := Nat.ne_of_lt (Nat.lt_of_lt_of_le Arv_270.lt sz279)
    have ne282 : b264 ≠ t278 := Nat.ne_of_lt (Nat.lt_of_lt_of_le E267.lt sz279)
    have Arv_283 := Arv_270.keep K277 (ninS ne269 nin0)
    show EndW p e below s Z _ _ _ T274 (mkF m 102 #[.val (.int p0), .val (.int p1), .val (.int p2), .val (.int p3), .val (.int (4 : Int32)), .val (.int c0), .val (.int c1), .val (.int c2), .val (.int c3), .val (.ref b235), .unset, .unset, .unset, .unset, .unset, .unset, .unset, .unset, .unset] [(.ref b264)])
    refine F_astore X275 at_102 rfl (l' := #[.val (.int p0), .val (.int p1), .val (.int p2), .val (.int p3), .val (.int (4 : Int32)), .val (.int c0), .val (.int c1), .val (.int c2), .val (.int c3), .val (.ref b235), .val (.ref b264), .unset, .unset, .unset, .unset, .unset, .unset, .unset, .unset]) rfl (pc' := 104) rfl ?_
    exact sg_lawA l Z a0 hw p0 p1 p2 p3 G1 G3 OS hEL hSA c0 c1 c2 c3 4 b264 t278 [c0, c1, c2, c3] (.val (.ref b235)) (X275.more (Nat.le_of_ble_eq_true rfl) (Nat.le_of_ble_eq_true rfl)) S280 rfl (by decide)
set_option maxRecDepth 65536 in
set_option maxHeartbeats 40000000 in
theorem comes_1 {Post : Tables → Env → Array Value → State → Outcome → State → Prop} (hpost : ∀ tb e args s v u, (limb_1_1.after args s (.returned v) u = true ∧ limb_1_2.after args s (.returned v) u = true ∧ True) → ReturnedEndW s (.returned v) u (Jvm.fieldLocs frame_1_writes args s ++ Jvm.arrayLocs frame_1_arrays args s ++ Jvm.staticLocs frame_1_statics s) 24 1152 → Post tb e args s (.returned v) u) :
    ArmFor flags0 classFile x code maxLocals ret World_1 tables_1 room_1 Calls_1 rest_1 Pre_1 Post := by
  intro l hfl _ _ p e ha hc hk s m args below hf hA hF happ hP
  obtain ⟨hcalls, hrest, hpre⟩ := hP
  obtain ⟨-, -, -, hnamed, -, -, -, hat⟩ := (Spec.applies_iff hf).mp happ
  obtain ⟨hg, hn⟩ := and_e (Cond.before_iff.mp (show (Jvm.Cond.and given_1 narrow_1).before args s = true from hpre))
  obtain ⟨hcnt, g0⟩ := and_e hg
  obtain ⟨i0, g1⟩ := and_e g0
  obtain ⟨i1, g2⟩ := and_e g1
  obtain ⟨i2, g3⟩ := and_e g2
  obtain ⟨w0, w1, w2, w3, rfl⟩ : ∃ w0 w1 w2 w3 : Value, args = #[w0, w1, w2, w3] := by
    have hs : args.size = 4 := by simpa [Cond.value, given_1] using hcnt
    obtain ⟨L⟩ := args
    match L, hs with
    | [w0, w1, w2, w3], _ => exact ⟨w0, w1, w2, w3, rfl⟩
  have hw := fun d (hd : d ∈ tables_1) => atoms_spec (ws := Jvm.Cond.code x code maxLocals ret :: tables_1) hat d (List.mem_cons_of_mem _ hd)
  obtain ⟨hsets, hown0⟩ := atoms_of _ (rest_1_c_eq ▸ (show rest_1_c.before _ s = true from hrest))
  have hr0 := Cond.before_iff.mp hown0
  have hfit : Fit s := fun {y c} hc i hi => by
    obtain ⟨ha, rfl⟩ := Array.getElem?_eq_some_iff.mp hc
    have q := List.all_eq_true.mp ((Array.all_eq_true_iff_forall_mem.mp hF) _ (Array.getElem_mem ha)) i (List.mem_range.mpr hi)
    simpa [Array.getElem?_eq_getElem hi] using q
  obtain ⟨x0, ex0⟩ := is_v i0
  obtain rfl : w0 = (.int x0) := Option.some.inj ex0
  obtain ⟨x1, ex1⟩ := is_v i1
  obtain rfl : w1 = (.int x1) := Option.some.inj ex1
  obtain ⟨x2, ex2⟩ := is_v i2
  obtain rfl : w2 = (.int x2) := Option.some.inj ex2
  obtain ⟨x3, ex3⟩ := is_v g3
  obtain rfl : w3 = (.int x3) := Option.some.inj ex3
  have n5 := not_v (Cond.before_iff.mp (hsets _ (List.mem_of_getElem? (i := 2) rfl)))
  obtain ⟨g1, eg1⟩ := is_v (Cond.before_iff.mp (hsets _ (List.mem_of_getElem? (i := 1) rfl)))
  have S12 : Sta s s.heap "java/lang/String" "COMPACT_STRINGS" "Z" (.int g1) := Sta.start eg1 (Or.inl (hsets _ (List.mem_of_getElem? (i := 0) rfl)))
  obtain ⟨g3, eg3, r15⟩ := isR_v (Cond.before_iff.mp (hsets _ (List.mem_of_getElem? (i := 8) rfl)))
  have S16 : Sta s s.heap "jdk/internal/util/Preconditions" "SIOOBE_FORMATTER" "Ljava/util/function/BiFunction;" g3 := Sta.start eg3 (Or.inl (hsets _ (List.mem_of_getElem? (i := 7) rfl)))
  have c17 : ¬ (g1 = (0 : Int32)) := gotF (Cond.eq_ints eg1 (Term.int_eval (0))) n5
  have hEL : EW s #[(.int x0), (.int x1), (.int x2), (.int x3)] EL := by
    exact (EW.cons (hw _ (List.mem_of_getElem? (i := 19) rfl)) (by decide +kernel) EW.nil)
  have hSA : ∀ d ∈ Bundle.stringAtoms, d.before #[(.int x0), (.int x1), (.int x2), (.int x3)] s = true := fun d hd => hw d ((by decide +kernel : ∀ d ∈ Bundle.stringAtoms, d ∈ tables_1) d hd)
  have hCH : CHv s EL s.vm s.heap := CHv.start hEL (fun p hp => hcalls.1 p hp) (hsets _ (List.mem_of_getElem? (i := 2) rfl)) (hw _ (List.mem_of_getElem? (i := 20) rfl)) (hw _ (List.mem_of_getElem? (i := 7) rfl))
  obtain ⟨n, o, h1, h2, h3, _, L, rfl, ⟨N, -, rfl⟩, -, hq⟩ := ct_law l s _ hw x0 x1 x2 x3 g1 g3 ⟨Nat.le_refl _, fun _ _ q => q⟩ ⟨S12, c17, S16, r15⟩ hEL hSA tables_1 p e ha hc hk s m _ below hf ((Spec.applies_iff_loose hf).mp happ).1 ⟨rfl, State.Warmed39.refl s, rfl, hCH⟩ trivial
  refine ⟨n, _, h1, h2, h3, hpost _ _ _ _ _ _ ⟨Cond.after_iff.mpr rfl, Cond.after_iff.mpr (eq_i res_at (Term.int_eval (1)) rfl), trivial⟩ ⟨hq.1, hq.2.1, hq.2.2.1, (hq.2.2.2.sift fun y hy => Or.inr (N y hy)).mono (by decide) (by decide)⟩⟩
theorem main_1_1 : Claimed_1_1 := comes_1 fun _ _ _ _ _ _ h hF => ⟨h.1, hF⟩
theorem main_1_2 : Claimed_1_2 := comes_1 fun _ _ _ _ _ _ h hF => ⟨h.2.1, hF⟩
end Jvm.Pilot.@@N@@
namespace Jvm.Pilot.@@N@@
open Jvm Jvm.ClassFile Sem Op Lib Jvm.Free Jvm.Stand Jvm.Pilot.@@N@@.Jvm.D
/-! MADE BY PROGRAM (witnessworld.py) out of the Statement's table words and the real class files: 23 classes; the members and pool entries that the words name. The judged class is class 1, her method 1. -/
namespace start1
open Jvm.ClassFile
def u (s : String) : CpInfo := .utf8 (stringToUtf16 s)
/-- a pool by its gaps: so many unusable entries, then the entry; so many at the end -/
def gap : Nat → List CpInfo → List CpInfo
  | 0, r => r
  | n + 1, r => .unusable :: gap n r
def poolList (es : List (Nat × CpInfo)) (last : Nat) : List CpInfo := es.foldr (fun e r => gap e.1 (e.2 :: r)) (gap last [])
def pool (es : List (Nat × CpInfo)) (last : Nat) : Array CpInfo := ⟨poolList es last⟩
def fileOf (pool : Array CpInfo) (this : Nat) (attrs : Array Attribute := #[]) (ms : Array MethodInfo := #[]) (fl : Nat := 33) (sup : Nat := 0) (ifs : Array Nat := #[]) (fds : Array FieldInfo := #[]) : ClassFile where
  minorVersion := 0
  majorVersion := 65
  constantPool := pool
  accessFlags := fl
  thisClass := this
  superClass := sup
  interfaces := ifs
  fields := fds
  methods := ms
  attributes := attrs
def plain (name : String) (sup : Option ClassId) : Class where
  name := name
  kind := .ordinary
  loader := none
  accessFlags := 33
  super := sup
  interfaces := #[]
  cf := none
  fields := #[]
  methods := #[]
  instanceTypes := #[]
  staticTypes := #[]
  resolved := #[]
  callSites := []
  init := .initialized
  statics := none
  mirror := none

def pool0 : Array CpInfo := pool [(5, u "<init>"), (0, u "()V"), (1, .class_ 10), (1, u "java/lang/Object")] 113

def k0c0 : Code := { maxStack := 0, maxLocals := 1, code := object_method_1_code, exceptionTable := #[], attributes := #[] }
def k0m0 : Method := { name := "<init>", desc := "()V", sig := { parameters := [], returnType := none }, accessFlags := 1, code := some k0c0 }
/-- java/lang/Object -/
def k0 : Class := { plain "java/lang/Object" none with
  accessFlags := 33
  interfaces := #[]
  cf := some (fileOf pool0 8 #[] #[{ accessFlags := 1, nameIndex := 5, descriptorIndex := 6, attributes := #[] }] 33 0 #[] #[])
  fields := #[]
  methods := #[k0m0]
  instanceTypes := #[]
  staticTypes := #[]
  resolved := Array.replicate 124 none
  statics := none }

def pool1 : Array CpInfo := pool [(2, .class_ 4), (1, u "java/lang/Object"), (0, u "<init>"), (0, u "()V"), (0, .integer 2147483647), (0, .methodref 9 10), (0, .class_ 11), (0, .nameAndType 12 13), (0, u "com/example/semblance/semblance/QueryTokensOffsetPinLaw"), (0, u "pick"), (0, u "(III)C"), (0, .class_ 15), (0, u "java/lang/String"), (0, .methodref 14 17), (0, .nameAndType 5 18), (0, u "([C)V"), (0, .class_ 20), (0, u "com/example/semblance/semblance/QueryTokens$Position"), (0, .methodref 19 22), (0, .nameAndType 5 23), (0, u "(II)V"), (0, .methodref 25 26), (0, .class_ 27), (0, .nameAndType 28 29), (0, u "com/example/semblance/semblance/QueryTokens"), (0, u "offset"), (0, u "(Ljava/lang/String;Lcom/example/semblance/semblance/QueryTokens$Position;)I"), (0, .methodref 9 31), (0, .nameAndType 32 33), (0, u "nl"), (0, u "(CCCCII)I"), (2, u "law"), (0, u "(IIII)Z")] 7

def k1m0 : Method := { name := "<init>", desc := "()V", sig := { parameters := [], returnType := none }, accessFlags := 1, code := none }
def k1c1 : Code := { maxStack := 7, maxLocals := 19, code := code, exceptionTable := #[], attributes := #[] }
def k1m1 : Method := { name := "law", desc := "(IIII)Z", sig := { parameters := [.int, .int, .int, .int], returnType := some .boolean }, accessFlags := 9, code := some k1c1 }
def k1c2 : Code := { maxStack := 3, maxLocals := 3, code := method_3_code, exceptionTable := #[], attributes := #[] }
def k1m2 : Method := { name := "pick", desc := "(III)C", sig := { parameters := [.int, .int, .int], returnType := some .char }, accessFlags := 10, code := some k1c2 }
def k1c3 : Code := { maxStack := 2, maxLocals := 6, code := method_4_code, exceptionTable := #[], attributes := #[] }
def k1m3 : Method := { name := "nl", desc := "(CCCCII)I", sig := { parameters := [.char, .char, .char, .char, .int, .int], returnType := some .int }, accessFlags := 10, code := some k1c3 }
/-- com/example/semblance/semblance/QueryTokensOffsetPinLaw -/
def k1 : Class := { plain "com/example/semblance/semblance/QueryTokensOffsetPinLaw" (some 0) with
  accessFlags := 49
  interfaces := #[]
  cf := some (fileOf pool1 9 #[] #[{ accessFlags := 1, nameIndex := 5, descriptorIndex := 6, attributes := #[] }, { accessFlags := 9, nameIndex := 36, descriptorIndex := 37, attributes := #[] }, { accessFlags := 10, nameIndex := 12, descriptorIndex := 13, attributes := #[] }, { accessFlags := 10, nameIndex := 32, descriptorIndex := 33, attributes := #[] }] 49 2 #[] #[])
  fields := #[]
  methods := #[k1m0, k1m1, k1m2, k1m3]
  instanceTypes := #[]
  staticTypes := #[]
  resolved := Array.replicate 45 none
  statics := none }

def pool2 : Array CpInfo := pool [(1, .class_ 2), (0, u "java/io/Serializable"), (0, .class_ 4), (0, u "java/lang/Object")] 2

/-- java/io/Serializable -/
def k2 : Class := { plain "java/io/Serializable" (some 0) with
  accessFlags := 1537
  interfaces := #[]
  cf := some (fileOf pool2 1 #[] #[] 1537 3 #[] #[])
  fields := #[]
  methods := #[]
  instanceTypes := #[]
  staticTypes := #[]
  resolved := Array.replicate 7 none
  statics := none }

def pool3 : Array CpInfo := pool [(1, .class_ 2), (0, u "java/lang/Comparable"), (0, .class_ 4), (0, u "java/lang/Object")] 7

/-- java/lang/Comparable -/
def k3 : Class := { plain "java/lang/Comparable" (some 0) with
  accessFlags := 1537
  interfaces := #[]
  cf := some (fileOf pool3 1 #[] #[] 1537 3 #[] #[])
  fields := #[]
  methods := #[]
  instanceTypes := #[]
  staticTypes := #[]
  resolved := Array.replicate 12 none
  statics := none }

def pool4 : Array CpInfo := pool [(2, .class_ 4), (1, u "java/lang/CharSequence"), (42, .class_ 48), (0, u "java/lang/CharSequence$1CodePointIterator"), (10, .class_ 60), (0, u "java/lang/CharSequence$1CharIterator"), (5, .class_ 67), (0, u "java/lang/Object")] 63

/-- java/lang/CharSequence -/
def k4 : Class := { plain "java/lang/CharSequence" (some 0) with
  accessFlags := 1537
  interfaces := #[]
  cf := some (fileOf pool4 2 #[.nestMembers #[47, 59]] #[] 1537 66 #[] #[])
  fields := #[]
  methods := #[]
  instanceTypes := #[]
  staticTypes := #[]
  resolved := Array.replicate 131 none
  statics := none }

def pool5 : Array CpInfo := pool [(1, .class_ 2), (0, u "java/lang/constant/Constable"), (0, .class_ 4), (0, u "java/lang/Object")] 6

/-- java/lang/constant/Constable -/
def k5 : Class := { plain "java/lang/constant/Constable" (some 0) with
  accessFlags := 1537
  interfaces := #[]
  cf := some (fileOf pool5 1 #[] #[] 1537 3 #[] #[])
  fields := #[]
  methods := #[]
  instanceTypes := #[]
  staticTypes := #[]
  resolved := Array.replicate 11 none
  statics := none }

def pool6 : Array CpInfo := pool [(1, .class_ 2), (0, u "java/lang/constant/ConstantDesc"), (0, .class_ 4), (0, u "java/lang/Object")] 32

/-- java/lang/constant/ConstantDesc -/
def k6 : Class := { plain "java/lang/constant/ConstantDesc" (some 0) with
  accessFlags := 1537
  interfaces := #[]
  cf := some (fileOf pool6 1 #[] #[] 1537 3 #[] #[])
  fields := #[]
  methods := #[]
  instanceTypes := #[]
  staticTypes := #[]
  resolved := Array.replicate 37 none
  statics := none }

def pool7 : Array CpInfo := pool [(1, .methodref 2 3), (0, .class_ 4), (0, .nameAndType 5 6), (0, u "java/lang/Object"), (0, u "<init>"), (0, u "()V"), (0, .string 8), (0, u ""), (0, .fieldref 10 11), (0, .class_ 12), (0, .nameAndType 13 14), (0, u "java/lang/String"), (0, u "value"), (0, u "[B"), (0, .fieldref 10 16), (0, .nameAndType 17 18), (0, u "coder"), (0, u "B"), (2, u "hash"), (0, u "I"), (2, u "hashIsZero"), (0, u "Z"), (0, .methodref 10 28), (0, .nameAndType 5 29), (0, u "([CIILjava/lang/Void;)V"), (8, .fieldref 10 39), (0, .nameAndType 40 26), (0, u "COMPACT_STRINGS"), (1, .class_ 44), (1, u "java/lang/StringUTF16"), (0, u "compress"), (1, .methodref 42 48), (0, .nameAndType 49 50), (0, u "coderFromArrayLen"), (0, u "([BI)B"), (56, .class_ 109), (1, u "java/lang/StringLatin1"), (32, u "()Z"), (34, .methodref 42 178), (0, .nameAndType 45 179), (0, u "([CII)[B"), (154, u "()I"), (0, .methodref 10 336), (0, .nameAndType 17 337), (0, u "()B"), (154, .methodref 10 493), (0, .nameAndType 494 142), (0, u "isLatin1"), (10, .methodref 10 506), (0, .nameAndType 507 334), (0, u "length"), (67, .class_ 576), (0, u "java/lang/CharSequence"), (22, u "CASE_INSENSITIVE_ORDER"), (0, u "Ljava/util/Comparator;"), (34, u "indexOf"), (0, u "(II)I"), (0, .methodref 107 638), (0, .nameAndType 635 639), (0, u "([BIII)I"), (370, u "([C)V"), (90, u "serialPersistentFields"), (0, u "[Ljava/io/ObjectStreamField;"), (0, .class_ 1104), (0, u "java/lang/String$CaseInsensitiveComparator"), (1, .class_ 1107), (0, u "java/io/Serializable"), (0, .class_ 1109), (0, u "java/lang/Comparable"), (0, .class_ 1111), (0, u "java/lang/constant/Constable"), (0, .class_ 1113), (0, u "java/lang/constant/ConstantDesc"), (2, u "serialVersionUID"), (0, u "J"), (3, u "REPL"), (0, u "C"), (2, u "LATIN1"), (1, u "UTF16")] 323

def k7m0 : Method := { name := "<init>", desc := "()V", sig := { parameters := [], returnType := none }, accessFlags := 1, code := none }
def k7c1 : Code := { maxStack := 5, maxLocals := 2, code := jdk_42_method_3_code, exceptionTable := #[], attributes := #[] }
def k7m1 : Method := { name := "<init>", desc := "([C)V", sig := { parameters := [(.array .char)], returnType := none }, accessFlags := 1, code := some k7c1 }
def k7c2 : Code := { maxStack := 2, maxLocals := 1, code := jdk_42_method_54_code, exceptionTable := #[], attributes := #[] }
def k7m2 : Method := { name := "length", desc := "()I", sig := { parameters := [], returnType := some .int }, accessFlags := 1, code := some k7c2 }
def k7c3 : Code := { maxStack := 4, maxLocals := 3, code := jdk_42_method_80_code, exceptionTable := #[], attributes := #[] }
def k7m3 : Method := { name := "indexOf", desc := "(II)I", sig := { parameters := [.int, .int], returnType := some .int }, accessFlags := 1, code := some k7c3 }
def k7c4 : Code := { maxStack := 4, maxLocals := 6, code := jdk_42_method_149_code, exceptionTable := #[], attributes := #[] }
def k7m4 : Method := { name := "<init>", desc := "([CIILjava/lang/Void;)V", sig := { parameters := [(.array .char), .int, .int, (.object "java/lang/Void")], returnType := none }, accessFlags := 2, code := some k7c4 }
def k7c5 : Code := { maxStack := 1, maxLocals := 1, code := jdk_42_method_152_code, exceptionTable := #[], attributes := #[] }
def k7m5 : Method := { name := "coder", desc := "()B", sig := { parameters := [], returnType := some .byte }, accessFlags := 0, code := some k7c5 }
def k7c6 : Code := { maxStack := 1, maxLocals := 1, code := jdk_42_method_154_code, exceptionTable := #[], attributes := #[] }
def k7m6 : Method := { name := "isLatin1", desc := "()Z", sig := { parameters := [], returnType := some .boolean }, accessFlags := 0, code := some k7c6 }
/-- java/lang/String -/
def k7 : Class := { plain "java/lang/String" (some 0) with
  accessFlags := 49
  interfaces := #[2, 3, 4, 5, 6]
  cf := some (fileOf pool7 10 #[.nestMembers #[1103]] #[{ accessFlags := 1, nameIndex := 5, descriptorIndex := 6, attributes := #[] }, { accessFlags := 1, nameIndex := 5, descriptorIndex := 1010, attributes := #[] }, { accessFlags := 1, nameIndex := 507, descriptorIndex := 334, attributes := #[] }, { accessFlags := 1, nameIndex := 635, descriptorIndex := 636, attributes := #[] }, { accessFlags := 2, nameIndex := 5, descriptorIndex := 29, attributes := #[] }, { accessFlags := 0, nameIndex := 17, descriptorIndex := 337, attributes := #[] }, { accessFlags := 0, nameIndex := 494, descriptorIndex := 142, attributes := #[] }] 49 2 #[1106, 1108, 575, 1110, 1112] #[{ accessFlags := 18, nameIndex := 13, descriptorIndex := 14, attributes := #[] }, { accessFlags := 18, nameIndex := 17, descriptorIndex := 18, attributes := #[] }, { accessFlags := 2, nameIndex := 21, descriptorIndex := 22, attributes := #[] }, { accessFlags := 2, nameIndex := 25, descriptorIndex := 26, attributes := #[] }, { accessFlags := 26, nameIndex := 1116, descriptorIndex := 1117, attributes := #[] }, { accessFlags := 24, nameIndex := 40, descriptorIndex := 26, attributes := #[] }, { accessFlags := 26, nameIndex := 1101, descriptorIndex := 1102, attributes := #[] }, { accessFlags := 26, nameIndex := 1121, descriptorIndex := 1122, attributes := #[] }, { accessFlags := 25, nameIndex := 599, descriptorIndex := 600, attributes := #[] }, { accessFlags := 24, nameIndex := 1125, descriptorIndex := 18, attributes := #[] }, { accessFlags := 24, nameIndex := 1127, descriptorIndex := 18, attributes := #[] }])
  fields := #[{ name := "value", type := (.array .byte), accessFlags := 18, slot := 0, constantValue := 0 }, { name := "coder", type := .byte, accessFlags := 18, slot := 1, constantValue := 0 }, { name := "hash", type := .int, accessFlags := 2, slot := 2, constantValue := 0 }, { name := "hashIsZero", type := .boolean, accessFlags := 2, slot := 3, constantValue := 0 }, { name := "serialVersionUID", type := .long, accessFlags := 26, slot := 0, constantValue := 0 }, { name := "COMPACT_STRINGS", type := .boolean, accessFlags := 24, slot := 1, constantValue := 0 }, { name := "serialPersistentFields", type := (.array (.object "java/io/ObjectStreamField")), accessFlags := 26, slot := 2, constantValue := 0 }, { name := "REPL", type := .char, accessFlags := 26, slot := 3, constantValue := 0 }, { name := "CASE_INSENSITIVE_ORDER", type := (.object "java/util/Comparator"), accessFlags := 25, slot := 4, constantValue := 0 }, { name := "LATIN1", type := .byte, accessFlags := 24, slot := 5, constantValue := 0 }, { name := "UTF16", type := .byte, accessFlags := 24, slot := 6, constantValue := 0 }]
  methods := #[k7m0, k7m1, k7m2, k7m3, k7m4, k7m5, k7m6]
  instanceTypes := #[(.array .byte), .byte, .int, .boolean]
  staticTypes := #[.long, .boolean, (.array (.object "java/io/ObjectStreamField")), .char, (.object "java/util/Comparator"), .byte, .byte]
  resolved := Array.replicate 1451 none
  statics := some 0 }

def pool8 : Array CpInfo := pool [(1, .methodref 2 3), (0, .class_ 4), (0, .nameAndType 5 6), (0, u "java/lang/Object"), (0, u "<init>"), (0, u "()V"), (0, .class_ 8), (0, u "java/lang/Record")] 13

def k8c0 : Code := { maxStack := 1, maxLocals := 1, code := jdk_30_method_1_code, exceptionTable := #[], attributes := #[] }
def k8m0 : Method := { name := "<init>", desc := "()V", sig := { parameters := [], returnType := none }, accessFlags := 4, code := some k8c0 }
/-- java/lang/Record -/
def k8 : Class := { plain "java/lang/Record" (some 0) with
  accessFlags := 1057
  interfaces := #[]
  cf := some (fileOf pool8 7 #[] #[{ accessFlags := 4, nameIndex := 5, descriptorIndex := 6, attributes := #[] }] 1057 2 #[] #[])
  fields := #[]
  methods := #[k8m0]
  instanceTypes := #[]
  staticTypes := #[]
  resolved := Array.replicate 22 none
  statics := none }

def pool9 : Array CpInfo := pool [(1, .methodref 2 3), (0, .class_ 4), (0, .nameAndType 5 6), (0, u "java/lang/Record"), (0, u "<init>"), (0, u "()V"), (0, .fieldref 8 9), (0, .class_ 10), (0, .nameAndType 11 12), (0, u "com/example/semblance/semblance/QueryTokens$Position"), (0, u "line"), (0, u "I"), (0, .fieldref 8 14), (0, .nameAndType 15 12), (0, u "column"), (12, u "(II)V"), (4, u "()I"), (4, .class_ 39), (0, u "com/example/semblance/semblance/QueryTokens")] 20

def k9c0 : Code := { maxStack := 2, maxLocals := 3, code := prog_9_method_1_code, exceptionTable := #[], attributes := #[] }
def k9m0 : Method := { name := "<init>", desc := "(II)V", sig := { parameters := [.int, .int], returnType := none }, accessFlags := 0, code := some k9c0 }
def k9c1 : Code := { maxStack := 1, maxLocals := 1, code := prog_9_method_5_code, exceptionTable := #[], attributes := #[] }
def k9m1 : Method := { name := "line", desc := "()I", sig := { parameters := [], returnType := some .int }, accessFlags := 1, code := some k9c1 }
def k9c2 : Code := { maxStack := 1, maxLocals := 1, code := prog_9_method_6_code, exceptionTable := #[], attributes := #[] }
def k9m2 : Method := { name := "column", desc := "()I", sig := { parameters := [], returnType := some .int }, accessFlags := 1, code := some k9c2 }
/-- com/example/semblance/semblance/QueryTokens$Position -/
def k9 : Class := { plain "com/example/semblance/semblance/QueryTokens$Position" (some 8) with
  accessFlags := 48
  interfaces := #[]
  cf := some (fileOf pool9 8 #[.nestHost 38] #[{ accessFlags := 0, nameIndex := 5, descriptorIndex := 28, attributes := #[] }, { accessFlags := 1, nameIndex := 11, descriptorIndex := 33, attributes := #[] }, { accessFlags := 1, nameIndex := 15, descriptorIndex := 33, attributes := #[] }] 48 2 #[] #[{ accessFlags := 18, nameIndex := 11, descriptorIndex := 12, attributes := #[] }, { accessFlags := 18, nameIndex := 15, descriptorIndex := 12, attributes := #[] }])
  fields := #[{ name := "line", type := .int, accessFlags := 18, slot := 0, constantValue := 0 }, { name := "column", type := .int, accessFlags := 18, slot := 1, constantValue := 0 }]
  methods := #[k9m0, k9m1, k9m2]
  instanceTypes := #[.int, .int]
  staticTypes := #[]
  resolved := Array.replicate 60 none
  statics := none }

def pool10 : Array CpInfo := pool [(2, .class_ 4), (1, u "java/lang/Object"), (0, u "<init>"), (0, u "()V"), (4, .class_ 13), (1, u "com/example/semblance/semblance/QueryTokens"), (0, u "IRI"), (0, u "Ljava/util/regex/Pattern;"), (7, .class_ 25), (1, u "java/lang/String"), (1, u "()I"), (5, .class_ 35), (1, u "com/example/semblance/semblance/QueryTokens$Kind"), (8, .methodref 23 45), (0, .nameAndType 46 47), (0, u "indexOf"), (0, u "(II)I"), (51, .class_ 100), (0, u "com/example/semblance/semblance/QueryTokens$Token"), (28, .class_ 130), (0, u "com/example/semblance/semblance/QueryTokens$Position"), (3, .methodref 129 135), (0, .nameAndType 136 27), (0, u "line"), (0, .methodref 129 138), (0, .nameAndType 139 27), (0, u "column"), (28, u "REC"), (0, u "Ljava/lang/String;"), (1, u "MIDDLE_DOT"), (0, u "C"), (1, u "DELIMITERS"), (12, u "offset"), (0, u "(Ljava/lang/String;Lcom/example/semblance/semblance/QueryTokens$Position;)I")] 8

def k10m0 : Method := { name := "<init>", desc := "()V", sig := { parameters := [], returnType := none }, accessFlags := 2, code := none }
def k10c1 : Code := { maxStack := 3, maxLocals := 5, code := prog_7_method_5_code, exceptionTable := #[], attributes := #[] }
def k10m1 : Method := { name := "offset", desc := "(Ljava/lang/String;Lcom/example/semblance/semblance/QueryTokens$Position;)I", sig := { parameters := [(.object "java/lang/String"), (.object "com/example/semblance/semblance/QueryTokens$Position")], returnType := some .int }, accessFlags := 8, code := some k10c1 }
/-- com/example/semblance/semblance/QueryTokens -/
def k10 : Class := { plain "com/example/semblance/semblance/QueryTokens" (some 0) with
  accessFlags := 48
  interfaces := #[]
  cf := some (fileOf pool10 11 #[.nestMembers #[99, 33, 129]] #[{ accessFlags := 2, nameIndex := 5, descriptorIndex := 6, attributes := #[] }, { accessFlags := 8, nameIndex := 187, descriptorIndex := 188, attributes := #[] }] 48 2 #[] #[{ accessFlags := 24, nameIndex := 168, descriptorIndex := 169, attributes := #[] }, { accessFlags := 24, nameIndex := 171, descriptorIndex := 172, attributes := #[] }, { accessFlags := 26, nameIndex := 14, descriptorIndex := 15, attributes := #[] }, { accessFlags := 26, nameIndex := 174, descriptorIndex := 169, attributes := #[] }])
  fields := #[{ name := "REC", type := (.object "java/lang/String"), accessFlags := 24, slot := 0, constantValue := 0 }, { name := "MIDDLE_DOT", type := .char, accessFlags := 24, slot := 1, constantValue := 0 }, { name := "IRI", type := (.object "java/util/regex/Pattern"), accessFlags := 26, slot := 2, constantValue := 0 }, { name := "DELIMITERS", type := (.object "java/lang/String"), accessFlags := 26, slot := 3, constantValue := 0 }]
  methods := #[k10m0, k10m1]
  instanceTypes := #[]
  staticTypes := #[(.object "java/lang/String"), .char, (.object "java/util/regex/Pattern"), (.object "java/lang/String")]
  resolved := Array.replicate 197 none
  statics := none }

def pool11 : Array CpInfo := pool [(4, .class_ 6), (1, u "java/lang/Object"), (0, u "<init>"), (0, u "()V"), (5, .class_ 16), (1, u "java/lang/StringLatin1"), (21, .methodref 39 40), (0, .class_ 41), (0, .nameAndType 42 43), (0, u "java/lang/Math"), (0, u "min"), (0, u "(II)I"), (44, .methodref 14 89), (0, .nameAndType 90 91), (0, u "canEncode"), (0, u "(I)Z"), (0, .methodref 39 93), (0, .nameAndType 94 43), (0, u "max"), (0, .methodref 14 96), (0, .nameAndType 97 98), (0, u "indexOfChar"), (0, u "([BIII)I"), (2, u "indexOf"), (19, u "$assertionsDisabled"), (0, u "Z"), (98, .class_ 223), (1, u "java/lang/StringLatin1$LinesSpliterator"), (166, .class_ 391), (0, u "java/lang/StringLatin1$CharsSpliterator")] 3

def k11m0 : Method := { name := "<init>", desc := "()V", sig := { parameters := [], returnType := none }, accessFlags := 0, code := none }
def k11c1 : Code := { maxStack := 2, maxLocals := 1, code := jdk_43_method_4_code, exceptionTable := #[], attributes := #[] }
def k11m1 : Method := { name := "canEncode", desc := "(I)Z", sig := { parameters := [.int], returnType := some .boolean }, accessFlags := 9, code := some k11c1 }
def k11c2 : Code := { maxStack := 4, maxLocals := 4, code := jdk_43_method_22_code, exceptionTable := #[], attributes := #[] }
def k11m2 : Method := { name := "indexOf", desc := "([BIII)I", sig := { parameters := [(.array .byte), .int, .int, .int], returnType := some .int }, accessFlags := 9, code := some k11c2 }
def k11c3 : Code := { maxStack := 2, maxLocals := 6, code := jdk_43_method_23_code, exceptionTable := #[], attributes := #[] }
def k11m3 : Method := { name := "indexOfChar", desc := "([BIII)I", sig := { parameters := [(.array .byte), .int, .int, .int], returnType := some .int }, accessFlags := 10, code := some k11c3 }
/-- java/lang/StringLatin1 -/
def k11 : Class := { plain "java/lang/StringLatin1" (some 0) with
  accessFlags := 48
  interfaces := #[]
  cf := some (fileOf pool11 14 #[.nestMembers #[390, 221]] #[{ accessFlags := 0, nameIndex := 7, descriptorIndex := 8, attributes := #[] }, { accessFlags := 9, nameIndex := 90, descriptorIndex := 91, attributes := #[] }, { accessFlags := 9, nameIndex := 101, descriptorIndex := 98, attributes := #[] }, { accessFlags := 10, nameIndex := 97, descriptorIndex := 98, attributes := #[] }] 48 4 #[] #[{ accessFlags := 4120, nameIndex := 121, descriptorIndex := 122, attributes := #[] }])
  fields := #[{ name := "$assertionsDisabled", type := .boolean, accessFlags := 4120, slot := 0, constantValue := 0 }]
  methods := #[k11m0, k11m1, k11m2, k11m3]
  instanceTypes := #[]
  staticTypes := #[.boolean]
  resolved := Array.replicate 395 none
  statics := none }

def pool12 : Array CpInfo := pool [(1, .class_ 2), (0, u "java/lang/Math"), (1, .class_ 6), (1, u "java/lang/Object"), (0, u "<init>"), (0, u "()V"), (89, .class_ 100), (1, u "java/lang/Math$RandomNumberGeneratorHolder"), (71, u "negativeZeroFloatBits"), (0, u "J"), (2, u "negativeZeroDoubleBits"), (21, u "max"), (2, u "min"), (43, u "$assertionsDisabled"), (0, u "Z"), (88, u "(II)I"), (2, u "twoToTheDoubleScaleDown"), (0, u "D"), (4, u "twoToTheDoubleScaleUp"), (9, u "E"), (3, u "PI"), (2, u "TAU"), (2, u "DEGREES_TO_RADIANS"), (0, u "RADIANS_TO_DEGREES")] 94

def k12m0 : Method := { name := "<init>", desc := "()V", sig := { parameters := [], returnType := none }, accessFlags := 2, code := none }
def k12c1 : Code := { maxStack := 2, maxLocals := 2, code := jdk_29_method_65_code, exceptionTable := #[], attributes := #[] }
def k12m1 : Method := { name := "max", desc := "(II)I", sig := { parameters := [.int, .int], returnType := some .int }, accessFlags := 9, code := some k12c1 }
def k12c2 : Code := { maxStack := 2, maxLocals := 2, code := jdk_29_method_69_code, exceptionTable := #[], attributes := #[] }
def k12m2 : Method := { name := "min", desc := "(II)I", sig := { parameters := [.int, .int], returnType := some .int }, accessFlags := 9, code := some k12c2 }
/-- java/lang/Math -/
def k12 : Class := { plain "java/lang/Math" (some 0) with
  accessFlags := 49
  interfaces := #[]
  cf := some (fileOf pool12 1 #[.nestMembers #[98]] #[{ accessFlags := 2, nameIndex := 7, descriptorIndex := 8, attributes := #[] }, { accessFlags := 9, nameIndex := 198, descriptorIndex := 335, attributes := #[] }, { accessFlags := 9, nameIndex := 201, descriptorIndex := 335, attributes := #[] }] 49 4 #[] #[{ accessFlags := 25, nameIndex := 354, descriptorIndex := 339, attributes := #[] }, { accessFlags := 25, nameIndex := 358, descriptorIndex := 339, attributes := #[] }, { accessFlags := 25, nameIndex := 361, descriptorIndex := 339, attributes := #[] }, { accessFlags := 26, nameIndex := 364, descriptorIndex := 339, attributes := #[] }, { accessFlags := 26, nameIndex := 365, descriptorIndex := 339, attributes := #[] }, { accessFlags := 26, nameIndex := 172, descriptorIndex := 173, attributes := #[] }, { accessFlags := 26, nameIndex := 176, descriptorIndex := 173, attributes := #[] }, { accessFlags := 8, nameIndex := 344, descriptorIndex := 339, attributes := #[] }, { accessFlags := 8, nameIndex := 338, descriptorIndex := 339, attributes := #[] }, { accessFlags := 4120, nameIndex := 245, descriptorIndex := 246, attributes := #[] }])
  fields := #[{ name := "E", type := .double, accessFlags := 25, slot := 0, constantValue := 0 }, { name := "PI", type := .double, accessFlags := 25, slot := 1, constantValue := 0 }, { name := "TAU", type := .double, accessFlags := 25, slot := 2, constantValue := 0 }, { name := "DEGREES_TO_RADIANS", type := .double, accessFlags := 26, slot := 3, constantValue := 0 }, { name := "RADIANS_TO_DEGREES", type := .double, accessFlags := 26, slot := 4, constantValue := 0 }, { name := "negativeZeroFloatBits", type := .long, accessFlags := 26, slot := 5, constantValue := 0 }, { name := "negativeZeroDoubleBits", type := .long, accessFlags := 26, slot := 6, constantValue := 0 }, { name := "twoToTheDoubleScaleUp", type := .double, accessFlags := 8, slot := 7, constantValue := 0 }, { name := "twoToTheDoubleScaleDown", type := .double, accessFlags := 8, slot := 8, constantValue := 0 }, { name := "$assertionsDisabled", type := .boolean, accessFlags := 4120, slot := 9, constantValue := 0 }]
  methods := #[k12m0, k12m1, k12m2]
  instanceTypes := #[]
  staticTypes := #[.double, .double, .double, .double, .double, .long, .long, .double, .double, .boolean]
  resolved := Array.replicate 460 none
  statics := none }

def pool13 : Array CpInfo := pool [(6, .class_ 8), (1, u "java/lang/Object"), (0, u "<init>"), (0, u "()V"), (1, .class_ 14), (1, u "java/lang/StringUTF16"), (31, u "$assertionsDisabled"), (0, u "Z"), (13, u "HI_BYTE_SHIFT"), (0, u "I"), (2, u "LO_BYTE_SHIFT"), (49, .methodref 12 116), (0, .nameAndType 117 118), (0, u "compress"), (0, u "([CI[BII)I"), (3, u "([CII)[B"), (138, u "coderFromArrayLen"), (0, u "([BI)B"), (106, .class_ 371), (1, u "java/lang/StringUTF16$LinesSpliterator"), (58, u "MAX_LENGTH"), (196, .class_ 628), (0, u "java/lang/StringUTF16$CodePointsSpliterator"), (0, .class_ 630), (0, u "java/lang/StringUTF16$CharsSpliterator")] 4

def k13m0 : Method := { name := "<init>", desc := "()V", sig := { parameters := [], returnType := none }, accessFlags := 0, code := none }
def k13c1 : Code := { maxStack := 2, maxLocals := 2, code := jdk_52_method_15_code, exceptionTable := #[], attributes := #[] }
def k13m1 : Method := { name := "coderFromArrayLen", desc := "([BI)B", sig := { parameters := [(.array .byte), .int], returnType := some .byte }, accessFlags := 8, code := some k13c1 }
def k13c2 : Code := { maxStack := 5, maxLocals := 6, code := jdk_52_method_16_code, exceptionTable := #[], attributes := #[] }
def k13m2 : Method := { name := "compress", desc := "([CII)[B", sig := { parameters := [(.array .char), .int, .int], returnType := some (.array .byte) }, accessFlags := 9, code := some k13c2 }
def k13c3 : Code := { maxStack := 3, maxLocals := 7, code := jdk_52_method_21_code, exceptionTable := #[], attributes := #[] }
def k13m3 : Method := { name := "compress", desc := "([CI[BII)I", sig := { parameters := [(.array .char), .int, (.array .byte), .int, .int], returnType := some .int }, accessFlags := 9, code := some k13c3 }
/-- java/lang/StringUTF16 -/
def k13 : Class := { plain "java/lang/StringUTF16" (some 0) with
  accessFlags := 48
  interfaces := #[]
  cf := some (fileOf pool13 12 #[.nestMembers #[627, 629, 369]] #[{ accessFlags := 0, nameIndex := 9, descriptorIndex := 10, attributes := #[] }, { accessFlags := 8, nameIndex := 261, descriptorIndex := 262, attributes := #[] }, { accessFlags := 9, nameIndex := 117, descriptorIndex := 122, attributes := #[] }, { accessFlags := 9, nameIndex := 117, descriptorIndex := 118, attributes := #[] }] 48 6 #[] #[{ accessFlags := 26, nameIndex := 61, descriptorIndex := 62, attributes := #[] }, { accessFlags := 26, nameIndex := 65, descriptorIndex := 62, attributes := #[] }, { accessFlags := 24, nameIndex := 430, descriptorIndex := 62, attributes := #[] }, { accessFlags := 4120, nameIndex := 46, descriptorIndex := 47, attributes := #[] }])
  fields := #[{ name := "HI_BYTE_SHIFT", type := .int, accessFlags := 26, slot := 0, constantValue := 0 }, { name := "LO_BYTE_SHIFT", type := .int, accessFlags := 26, slot := 1, constantValue := 0 }, { name := "MAX_LENGTH", type := .int, accessFlags := 24, slot := 2, constantValue := 0 }, { name := "$assertionsDisabled", type := .boolean, accessFlags := 4120, slot := 3, constantValue := 0 }]
  methods := #[k13m0, k13m1, k13m2, k13m3]
  instanceTypes := #[]
  staticTypes := #[.int, .int, .int, .boolean]
  resolved := Array.replicate 635 none
  statics := none }

def pool14 : Array CpInfo := pool [(2, .class_ 4), (1, u "java/lang/Object"), (0, u "<init>"), (0, u "()V"), (17, .class_ 26), (1, u "jdk/internal/util/Preconditions"), (28, .class_ 56), (0, u "jdk/internal/util/Preconditions$4"), (57, .class_ 115), (0, u "jdk/internal/util/Preconditions$1"), (7, u "SIOOBE_FORMATTER"), (0, u "Ljava/util/function/BiFunction;"), (0, .class_ 126), (0, u "jdk/internal/util/Preconditions$2"), (3, u "AIOOBE_FORMATTER"), (0, .class_ 132), (0, u "jdk/internal/util/Preconditions$3"), (3, u "IOOBE_FORMATTER")] 57

def k14m0 : Method := { name := "<init>", desc := "()V", sig := { parameters := [], returnType := none }, accessFlags := 1, code := none }
/-- jdk/internal/util/Preconditions -/
def k14 : Class := { plain "jdk/internal/util/Preconditions" (some 0) with
  accessFlags := 33
  interfaces := #[]
  cf := some (fileOf pool14 24 #[.nestMembers #[55, 131, 125, 114]] #[{ accessFlags := 1, nameIndex := 5, descriptorIndex := 6, attributes := #[] }] 33 2 #[] #[{ accessFlags := 25, nameIndex := 123, descriptorIndex := 124, attributes := #[] }, { accessFlags := 25, nameIndex := 130, descriptorIndex := 124, attributes := #[] }, { accessFlags := 25, nameIndex := 136, descriptorIndex := 124, attributes := #[] }])
  fields := #[{ name := "SIOOBE_FORMATTER", type := (.object "java/util/function/BiFunction"), accessFlags := 25, slot := 0, constantValue := 0 }, { name := "AIOOBE_FORMATTER", type := (.object "java/util/function/BiFunction"), accessFlags := 25, slot := 1, constantValue := 0 }, { name := "IOOBE_FORMATTER", type := (.object "java/util/function/BiFunction"), accessFlags := 25, slot := 2, constantValue := 0 }]
  methods := #[k14m0]
  instanceTypes := #[]
  staticTypes := #[(.object "java/util/function/BiFunction"), (.object "java/util/function/BiFunction"), (.object "java/util/function/BiFunction")]
  resolved := Array.replicate 194 none
  statics := some 1 }

def pool15 : Array CpInfo := pool [(9, u "<init>"), (6, .class_ 18), (1, u "java/lang/Object"), (0, u "()V"), (1, .class_ 23), (1, u "jdk/internal/util/ArraysSupport"), (0, u "LOG2_ARRAY_LONG_INDEX_SCALE"), (0, u "I"), (2, u "U"), (0, u "Ljdk/internal/misc/Unsafe;"), (8, u "BIG_ENDIAN"), (0, u "Z"), (8, u "LOG2_BYTE_BIT_SIZE"), (4, u "LOG2_ARRAY_INT_INDEX_SCALE"), (54, u "JLA"), (0, u "Ljdk/internal/access/JavaLangAccess;"), (11, u "LOG2_ARRAY_BOOLEAN_INDEX_SCALE"), (9, u "LOG2_ARRAY_BYTE_INDEX_SCALE"), (5, u "LOG2_ARRAY_CHAR_INDEX_SCALE"), (5, u "LOG2_ARRAY_SHORT_INDEX_SCALE"), (18, u "LOG2_ARRAY_FLOAT_INDEX_SCALE"), (24, u "LOG2_ARRAY_DOUBLE_INDEX_SCALE"), (89, u "T_BOOLEAN"), (2, u "T_CHAR"), (1, u "T_FLOAT"), (1, u "T_DOUBLE"), (1, u "T_BYTE"), (1, u "T_SHORT"), (1, u "T_INT"), (1, u "T_LONG"), (1, u "SOFT_MAX_ARRAY_LENGTH")] 83

def k15m0 : Method := { name := "<init>", desc := "()V", sig := { parameters := [], returnType := none }, accessFlags := 2, code := none }
/-- jdk/internal/util/ArraysSupport -/
def k15 : Class := { plain "jdk/internal/util/ArraysSupport" (some 0) with
  accessFlags := 33
  interfaces := #[]
  cf := some (fileOf pool15 21 #[] #[{ accessFlags := 2, nameIndex := 9, descriptorIndex := 19, attributes := #[] }] 33 16 #[] #[{ accessFlags := 24, nameIndex := 28, descriptorIndex := 29, attributes := #[] }, { accessFlags := 26, nameIndex := 38, descriptorIndex := 39, attributes := #[] }, { accessFlags := 25, nameIndex := 121, descriptorIndex := 25, attributes := #[] }, { accessFlags := 25, nameIndex := 131, descriptorIndex := 25, attributes := #[] }, { accessFlags := 25, nameIndex := 137, descriptorIndex := 25, attributes := #[] }, { accessFlags := 25, nameIndex := 143, descriptorIndex := 25, attributes := #[] }, { accessFlags := 25, nameIndex := 53, descriptorIndex := 25, attributes := #[] }, { accessFlags := 25, nameIndex := 24, descriptorIndex := 25, attributes := #[] }, { accessFlags := 25, nameIndex := 162, descriptorIndex := 25, attributes := #[] }, { accessFlags := 25, nameIndex := 187, descriptorIndex := 25, attributes := #[] }, { accessFlags := 26, nameIndex := 48, descriptorIndex := 25, attributes := #[] }, { accessFlags := 25, nameIndex := 277, descriptorIndex := 25, attributes := #[] }, { accessFlags := 25, nameIndex := 280, descriptorIndex := 25, attributes := #[] }, { accessFlags := 25, nameIndex := 282, descriptorIndex := 25, attributes := #[] }, { accessFlags := 25, nameIndex := 284, descriptorIndex := 25, attributes := #[] }, { accessFlags := 25, nameIndex := 286, descriptorIndex := 25, attributes := #[] }, { accessFlags := 25, nameIndex := 288, descriptorIndex := 25, attributes := #[] }, { accessFlags := 25, nameIndex := 290, descriptorIndex := 25, attributes := #[] }, { accessFlags := 25, nameIndex := 292, descriptorIndex := 25, attributes := #[] }, { accessFlags := 26, nameIndex := 108, descriptorIndex := 109, attributes := #[] }, { accessFlags := 25, nameIndex := 294, descriptorIndex := 25, attributes := #[] }])
  fields := #[{ name := "U", type := (.object "jdk/internal/misc/Unsafe"), accessFlags := 24, slot := 0, constantValue := 0 }, { name := "BIG_ENDIAN", type := .boolean, accessFlags := 26, slot := 1, constantValue := 0 }, { name := "LOG2_ARRAY_BOOLEAN_INDEX_SCALE", type := .int, accessFlags := 25, slot := 2, constantValue := 0 }, { name := "LOG2_ARRAY_BYTE_INDEX_SCALE", type := .int, accessFlags := 25, slot := 3, constantValue := 0 }, { name := "LOG2_ARRAY_CHAR_INDEX_SCALE", type := .int, accessFlags := 25, slot := 4, constantValue := 0 }, { name := "LOG2_ARRAY_SHORT_INDEX_SCALE", type := .int, accessFlags := 25, slot := 5, constantValue := 0 }, { name := "LOG2_ARRAY_INT_INDEX_SCALE", type := .int, accessFlags := 25, slot := 6, constantValue := 0 }, { name := "LOG2_ARRAY_LONG_INDEX_SCALE", type := .int, accessFlags := 25, slot := 7, constantValue := 0 }, { name := "LOG2_ARRAY_FLOAT_INDEX_SCALE", type := .int, accessFlags := 25, slot := 8, constantValue := 0 }, { name := "LOG2_ARRAY_DOUBLE_INDEX_SCALE", type := .int, accessFlags := 25, slot := 9, constantValue := 0 }, { name := "LOG2_BYTE_BIT_SIZE", type := .int, accessFlags := 26, slot := 10, constantValue := 0 }, { name := "T_BOOLEAN", type := .int, accessFlags := 25, slot := 11, constantValue := 0 }, { name := "T_CHAR", type := .int, accessFlags := 25, slot := 12, constantValue := 0 }, { name := "T_FLOAT", type := .int, accessFlags := 25, slot := 13, constantValue := 0 }, { name := "T_DOUBLE", type := .int, accessFlags := 25, slot := 14, constantValue := 0 }, { name := "T_BYTE", type := .int, accessFlags := 25, slot := 15, constantValue := 0 }, { name := "T_SHORT", type := .int, accessFlags := 25, slot := 16, constantValue := 0 }, { name := "T_INT", type := .int, accessFlags := 25, slot := 17, constantValue := 0 }, { name := "T_LONG", type := .int, accessFlags := 25, slot := 18, constantValue := 0 }, { name := "JLA", type := (.object "jdk/internal/access/JavaLangAccess"), accessFlags := 26, slot := 19, constantValue := 0 }, { name := "SOFT_MAX_ARRAY_LENGTH", type := .int, accessFlags := 25, slot := 20, constantValue := 0 }]
  methods := #[k15m0]
  instanceTypes := #[]
  staticTypes := #[(.object "jdk/internal/misc/Unsafe"), .boolean, .int, .int, .int, .int, .int, .int, .int, .int, .int, .int, .int, .int, .int, .int, .int, .int, .int, (.object "jdk/internal/access/JavaLangAccess"), .int]
  resolved := Array.replicate 378 none
  statics := none }

def pool16 : Array CpInfo := pool [(1, u "java/lang/Cloneable"), (0, .class_ 1), (0, u "java/lang/Object"), (0, .class_ 3)] 3

/-- java/lang/Cloneable -/
def k16 : Class := { plain "java/lang/Cloneable" (some 0) with
  accessFlags := 1537
  interfaces := #[]
  cf := some (fileOf pool16 2 #[] #[] 1537 4 #[] #[])
  fields := #[]
  methods := #[]
  instanceTypes := #[]
  staticTypes := #[]
  resolved := Array.replicate 8 none
  statics := none }

/-- the primitive byte -/
def k17 : Class := { plain "byte" none with kind := .primitive 'B', accessFlags := 0x411 }
/-- [B -/
def k18 : Class := { plain "[B" (some 0) with kind := .array 17 .byte, interfaces := #[16, 2], accessFlags := 1041 }

/-- the primitive char -/
def k19 : Class := { plain "char" none with kind := .primitive 'C', accessFlags := 0x411 }
/-- [C -/
def k20 : Class := { plain "[C" (some 0) with kind := .array 19 .char, interfaces := #[16, 2], accessFlags := 1041 }

/-- the primitive int -/
def k21 : Class := { plain "int" none with kind := .primitive 'I', accessFlags := 0x411 }
/-- [I -/
def k22 : Class := { plain "[I" (some 0) with kind := .array 21 .int, interfaces := #[16, 2], accessFlags := 1041 }

def heap : Heap := #[{ cls := 7, slots := #[.long 0, .int 1, .null, .int 0, .null, .int 0, .int 0], vm := .statics 7 },
  { cls := 14, slots := #[.null, .null, .null], vm := .statics 14 }]
def classes : Array Class := #[k0, k1, k2, k3, k4, k5, k6, k7, k8, k9, k10, k11, k12, k13, k14, k15, k16, k17, k18, k19, k20, k21, k22]
def interned : List (Array UInt16 × Addr) := []
def slotsUsed : Nat := 10
def theMethod : MethodId := ⟨1, 1⟩
def args0 : Array Value := #[.int 5, .int 6, .int 7, .int 8]
def aboutOver (below : List Frame) : State where
  vm := { classes := classes, interned := interned.toArray }
  heap := heap
  slotsUsed := slotsUsed
  threads := #[{ frames := .invoking theMethod args0 :: below }]
def below0 : List Frame := [.native { method := ⟨0, 0⟩, args := #[] }]
def about1 : State := aboutOver below0
def p0 : Program := .bare "" "" ""
def e0 : Env := launch0.env 0 0 0
theorem w_frames : about1.frames = Frame.invoking theMethod args0 :: below0 := rfl
set_option maxRecDepth 65536 in
theorem w_args : argsFit about1.vm theMethod args0 = true := by decide +kernel
set_option maxRecDepth 65536 in
theorem w_heap : heapFits about1 = true := by decide +kernel
set_option maxRecDepth 65536 in
theorem w_runnable : about1.curStatus? = some .runnable := by decide +kernel
set_option maxRecDepth 65536 in
theorem w_alone : about1.alone = true := by decide +kernel
set_option maxRecDepth 65536 in
theorem w_named : about1.methodNamed? x = some theMethod := by decide +kernel
set_option maxRecDepth 65536 in
theorem w_hears : about1.hears theMethod below0 = true := by decide +kernel
set_option maxRecDepth 65536 in
theorem w_ripe : about1.ripe theMethod args0 below0 = true := by decide +kernel
theorem w_running : about1.status = .running := rfl
set_option maxRecDepth 65536 in
theorem w_room : about1.hasRoom e0.platform room_1 = true :=
  launch0.hasRoom_least _ room_1 (by decide +kernel) (by decide +kernel) (by decide +kernel) (by decide +kernel) (by decide +kernel) (by decide +kernel)
theorem allAtoms_all (ts : List Jvm.Cond) (a : Array Jvm.Value) (st : Jvm.State) : (allAtoms ts).before a st = ts.all (fun c => c.before a st) := by
  induction ts with
  | nil => rfl
  | cons c t ih =>
    show (Jvm.Cond.and c (allAtoms t)).before a st = _
    rw [Jvm.Cond.before_and, ih, List.all_cons]
def words1 : List Jvm.Cond := Jvm.Cond.code x code maxLocals ret :: tables_1
/-- a 'code' word, met by the world's own term for the bytes: nothing is compared byte by byte -/
theorem code_word {y : MethodName} {bytes : ByteArray} {mx : Nat} {rt : Option FieldType} {a : Array Value} {s : State} {m : MethodId} {meth : Method} {c : Code} (h1 : s.methodNamed? y = some m) (h2 : s.vm.method? m = some meth) (h3 : meth.code = some c) (h4 : c.code = bytes)
    (h5 : (c.maxLocals == mx && c.exceptionTable.isEmpty && decide (c.maxStack ≤ mostOperands) && decide (meth.sig.returnType = rt) && !meth.locks && decide (parseMethodDescriptor y.desc = some meth.sig)) = true) : (Jvm.Cond.code y bytes mx rt).before a s = true := by
  simp only [Bool.and_eq_true, beq_iff_eq, Bool.not_eq_true', decide_eq_true_eq] at h5
  obtain ⟨⟨⟨⟨⟨g1, g2⟩, g3⟩, g4⟩, g5⟩, g6⟩ := h5
  simp [Cond.before, Cond.holds, Cond.value, h1, h2, h3, h4, g1, g2, g3, g4, g5, g6]
def isCode : Jvm.Cond → Bool
  | .code _ _ _ _ => true
  | _ => false
theorem all_split {L : List Jvm.Cond} {P : Jvm.Cond → Bool} (h1 : L.all (fun c => isCode c || P c) = true) (h2 : ∀ c ∈ L.filter isCode, P c = true) : L.all P = true := by
  refine List.all_eq_true.mpr fun c hc => ?_
  have h := List.all_eq_true.mp h1 c hc
  rcases Bool.eq_false_or_eq_true (isCode c) with hi | hi
  · exact h2 c (List.mem_filter.mpr ⟨hc, hi⟩)
  · simpa [hi] using h
set_option maxRecDepth 65536 in
theorem w_c0 : (Jvm.Cond.code x code maxLocals ret).before args0 about1 = true := code_word (m := ⟨1, 1⟩) (meth := k1m1) (c := k1c1) (by decide +kernel) rfl rfl rfl (by decide +kernel)
set_option maxRecDepth 65536 in
theorem w_c1 : (Jvm.Cond.code ({ cls := "com/example/semblance/semblance/QueryTokensOffsetPinLaw", name := "pick", desc := "(III)C" } : Jvm.MethodName) method_3_code (3 : Nat) (Option.some Jvm.ClassFile.FieldType.char)).before args0 about1 = true := code_word (m := ⟨1, 2⟩) (meth := k1m2) (c := k1c2) (by decide +kernel) rfl rfl rfl (by decide +kernel)
set_option maxRecDepth 65536 in
theorem w_c2 : (Jvm.Cond.code ({ cls := "java/lang/String", name := "<init>", desc := "([C)V" } : Jvm.MethodName) jdk_42_method_3_code (2 : Nat) (Option.none : Option Jvm.ClassFile.FieldType)).before args0 about1 = true := code_word (m := ⟨7, 1⟩) (meth := k7m1) (c := k7c1) (by decide +kernel) rfl rfl rfl (by decide +kernel)
set_option maxRecDepth 65536 in
theorem w_c3 : (Jvm.Cond.code ({ cls := "java/lang/String", name := "<init>", desc := "([CIILjava/lang/Void;)V" } : Jvm.MethodName) jdk_42_method_149_code (6 : Nat) (Option.none : Option Jvm.ClassFile.FieldType)).before args0 about1 = true := code_word (m := ⟨7, 4⟩) (meth := k7m4) (c := k7c4) (by decide +kernel) rfl rfl rfl (by decide +kernel)
set_option maxRecDepth 65536 in
theorem w_c4 : (Jvm.Cond.code ({ cls := "java/lang/Object", name := "<init>", desc := "()V" } : Jvm.MethodName) object_method_1_code (1 : Nat) (Option.none : Option Jvm.ClassFile.FieldType)).before args0 about1 = true := code_word (m := ⟨0, 0⟩) (meth := k0m0) (c := k0c0) (by decide +kernel) rfl rfl rfl (by decide +kernel)
set_option maxRecDepth 65536 in
theorem w_c5 : (Jvm.Cond.code ({ cls := "com/example/semblance/semblance/QueryTokens$Position", name := "<init>", desc := "(II)V" } : Jvm.MethodName) prog_9_method_1_code (3 : Nat) (Option.none : Option Jvm.ClassFile.FieldType)).before args0 about1 = true := code_word (m := ⟨9, 0⟩) (meth := k9m0) (c := k9c0) (by decide +kernel) rfl rfl rfl (by decide +kernel)
set_option maxRecDepth 65536 in
theorem w_c6 : (Jvm.Cond.code ({ cls := "java/lang/Record", name := "<init>", desc := "()V" } : Jvm.MethodName) jdk_30_method_1_code (1 : Nat) (Option.none : Option Jvm.ClassFile.FieldType)).before args0 about1 = true := code_word (m := ⟨8, 0⟩) (meth := k8m0) (c := k8c0) (by decide +kernel) rfl rfl rfl (by decide +kernel)
set_option maxRecDepth 65536 in
theorem w_c7 : (Jvm.Cond.code ({ cls := "com/example/semblance/semblance/QueryTokens", name := "offset", desc := "(Ljava/lang/String;Lcom/example/semblance/semblance/QueryTokens$Position;)I" } : Jvm.MethodName) prog_7_method_5_code (5 : Nat) (Option.some Jvm.ClassFile.FieldType.int)).before args0 about1 = true := code_word (m := ⟨10, 1⟩) (meth := k10m1) (c := k10c1) (by decide +kernel) rfl rfl rfl (by decide +kernel)
set_option maxRecDepth 65536 in
theorem w_c8 : (Jvm.Cond.code ({ cls := "com/example/semblance/semblance/QueryTokens$Position", name := "line", desc := "()I" } : Jvm.MethodName) prog_9_method_5_code (1 : Nat) (Option.some Jvm.ClassFile.FieldType.int)).before args0 about1 = true := code_word (m := ⟨9, 1⟩) (meth := k9m1) (c := k9c1) (by decide +kernel) rfl rfl rfl (by decide +kernel)
set_option maxRecDepth 65536 in
theorem w_c9 : (Jvm.Cond.code ({ cls := "java/lang/String", name := "indexOf", desc := "(II)I" } : Jvm.MethodName) jdk_42_method_80_code (3 : Nat) (Option.some Jvm.ClassFile.FieldType.int)).before args0 about1 = true := code_word (m := ⟨7, 3⟩) (meth := k7m3) (c := k7c3) (by decide +kernel) rfl rfl rfl (by decide +kernel)
set_option maxRecDepth 65536 in
theorem w_c10 : (Jvm.Cond.code ({ cls := "java/lang/String", name := "isLatin1", desc := "()Z" } : Jvm.MethodName) jdk_42_method_154_code (1 : Nat) (Option.some Jvm.ClassFile.FieldType.boolean)).before args0 about1 = true := code_word (m := ⟨7, 6⟩) (meth := k7m6) (c := k7c6) (by decide +kernel) rfl rfl rfl (by decide +kernel)
set_option maxRecDepth 65536 in
theorem w_c11 : (Jvm.Cond.code ({ cls := "java/lang/String", name := "length", desc := "()I" } : Jvm.MethodName) jdk_42_method_54_code (1 : Nat) (Option.some Jvm.ClassFile.FieldType.int)).before args0 about1 = true := code_word (m := ⟨7, 2⟩) (meth := k7m2) (c := k7c2) (by decide +kernel) rfl rfl rfl (by decide +kernel)
set_option maxRecDepth 65536 in
theorem w_c12 : (Jvm.Cond.code ({ cls := "java/lang/String", name := "coder", desc := "()B" } : Jvm.MethodName) jdk_42_method_152_code (1 : Nat) (Option.some Jvm.ClassFile.FieldType.byte)).before args0 about1 = true := code_word (m := ⟨7, 5⟩) (meth := k7m5) (c := k7c5) (by decide +kernel) rfl rfl rfl (by decide +kernel)
set_option maxRecDepth 65536 in
theorem w_c13 : (Jvm.Cond.code ({ cls := "java/lang/StringLatin1", name := "indexOf", desc := "([BIII)I" } : Jvm.MethodName) jdk_43_method_22_code (4 : Nat) (Option.some Jvm.ClassFile.FieldType.int)).before args0 about1 = true := code_word (m := ⟨11, 2⟩) (meth := k11m2) (c := k11c2) (by decide +kernel) rfl rfl rfl (by decide +kernel)
set_option maxRecDepth 65536 in
theorem w_c14 : (Jvm.Cond.code ({ cls := "java/lang/StringLatin1", name := "canEncode", desc := "(I)Z" } : Jvm.MethodName) jdk_43_method_4_code (1 : Nat) (Option.some Jvm.ClassFile.FieldType.boolean)).before args0 about1 = true := code_word (m := ⟨11, 1⟩) (meth := k11m1) (c := k11c1) (by decide +kernel) rfl rfl rfl (by decide +kernel)
set_option maxRecDepth 65536 in
theorem w_c15 : (Jvm.Cond.code ({ cls := "java/lang/Math", name := "max", desc := "(II)I" } : Jvm.MethodName) jdk_29_method_65_code (2 : Nat) (Option.some Jvm.ClassFile.FieldType.int)).before args0 about1 = true := code_word (m := ⟨12, 1⟩) (meth := k12m1) (c := k12c1) (by decide +kernel) rfl rfl rfl (by decide +kernel)
set_option maxRecDepth 65536 in
theorem w_c16 : (Jvm.Cond.code ({ cls := "java/lang/Math", name := "min", desc := "(II)I" } : Jvm.MethodName) jdk_29_method_69_code (2 : Nat) (Option.some Jvm.ClassFile.FieldType.int)).before args0 about1 = true := code_word (m := ⟨12, 2⟩) (meth := k12m2) (c := k12c2) (by decide +kernel) rfl rfl rfl (by decide +kernel)
set_option maxRecDepth 65536 in
theorem w_c17 : (Jvm.Cond.code ({ cls := "com/example/semblance/semblance/QueryTokensOffsetPinLaw", name := "nl", desc := "(CCCCII)I" } : Jvm.MethodName) method_4_code (6 : Nat) (Option.some Jvm.ClassFile.FieldType.int)).before args0 about1 = true := code_word (m := ⟨1, 3⟩) (meth := k1m3) (c := k1c3) (by decide +kernel) rfl rfl rfl (by decide +kernel)
set_option maxRecDepth 65536 in
theorem w_c18 : (Jvm.Cond.code ({ cls := "java/lang/StringUTF16", name := "compress", desc := "([CII)[B" } : Jvm.MethodName) jdk_52_method_16_code (6 : Nat) (Option.some (Jvm.ClassFile.FieldType.array Jvm.ClassFile.FieldType.byte))).before args0 about1 = true := code_word (m := ⟨13, 2⟩) (meth := k13m2) (c := k13c2) (by decide +kernel) rfl rfl rfl (by decide +kernel)
set_option maxRecDepth 65536 in
theorem w_c19 : (Jvm.Cond.code ({ cls := "java/lang/StringUTF16", name := "compress", desc := "([CI[BII)I" } : Jvm.MethodName) jdk_52_method_21_code (7 : Nat) (Option.some Jvm.ClassFile.FieldType.int)).before args0 about1 = true := code_word (m := ⟨13, 3⟩) (meth := k13m3) (c := k13c3) (by decide +kernel) rfl rfl rfl (by decide +kernel)
set_option maxRecDepth 65536 in
theorem w_c20 : (Jvm.Cond.code ({ cls := "java/lang/StringUTF16", name := "coderFromArrayLen", desc := "([BI)B" } : Jvm.MethodName) jdk_52_method_15_code (2 : Nat) (Option.some Jvm.ClassFile.FieldType.byte)).before args0 about1 = true := code_word (m := ⟨13, 1⟩) (meth := k13m1) (c := k13c1) (by decide +kernel) rfl rfl rfl (by decide +kernel)
set_option maxRecDepth 65536 in
theorem w_c21 : (Jvm.Cond.code ({ cls := "java/lang/StringLatin1", name := "indexOfChar", desc := "([BIII)I" } : Jvm.MethodName) jdk_43_method_23_code (6 : Nat) (Option.some Jvm.ClassFile.FieldType.int)).before args0 about1 = true := code_word (m := ⟨11, 3⟩) (meth := k11m3) (c := k11c3) (by decide +kernel) rfl rfl rfl (by decide +kernel)
set_option maxRecDepth 65536 in
theorem w_c22 : (Jvm.Cond.code ({ cls := "com/example/semblance/semblance/QueryTokens$Position", name := "column", desc := "()I" } : Jvm.MethodName) prog_9_method_6_code (1 : Nat) (Option.some Jvm.ClassFile.FieldType.int)).before args0 about1 = true := code_word (m := ⟨9, 2⟩) (meth := k9m2) (c := k9c2) (by decide +kernel) rfl rfl rfl (by decide +kernel)
def codes1 : List Jvm.Cond := [Jvm.Cond.code x code maxLocals ret, Jvm.Cond.code ({ cls := "com/example/semblance/semblance/QueryTokensOffsetPinLaw", name := "pick", desc := "(III)C" } : Jvm.MethodName) method_3_code (3 : Nat) (Option.some Jvm.ClassFile.FieldType.char), Jvm.Cond.code ({ cls := "java/lang/String", name := "<init>", desc := "([C)V" } : Jvm.MethodName) jdk_42_method_3_code (2 : Nat) (Option.none : Option Jvm.ClassFile.FieldType), Jvm.Cond.code ({ cls := "java/lang/String", name := "<init>", desc := "([CIILjava/lang/Void;)V" } : Jvm.MethodName) jdk_42_method_149_code (6 : Nat) (Option.none : Option Jvm.ClassFile.FieldType), Jvm.Cond.code ({ cls := "java/lang/Object", name := "<init>", desc := "()V" } : Jvm.MethodName) object_method_1_code (1 : Nat) (Option.none : Option Jvm.ClassFile.FieldType), Jvm.Cond.code ({ cls := "com/example/semblance/semblance/QueryTokens$Position", name := "<init>", desc := "(II)V" } : Jvm.MethodName) prog_9_method_1_code (3 : Nat) (Option.none : Option Jvm.ClassFile.FieldType), Jvm.Cond.code ({ cls := "java/lang/Record", name := "<init>", desc := "()V" } : Jvm.MethodName) jdk_30_method_1_code (1 : Nat) (Option.none : Option Jvm.ClassFile.FieldType), Jvm.Cond.code ({ cls := "com/example/semblance/semblance/QueryTokens", name := "offset", desc := "(Ljava/lang/String;Lcom/example/semblance/semblance/QueryTokens$Position;)I" } : Jvm.MethodName) prog_7_method_5_code (5 : Nat) (Option.some Jvm.ClassFile.FieldType.int), Jvm.Cond.code ({ cls := "com/example/semblance/semblance/QueryTokens$Position", name := "line", desc := "()I" } : Jvm.MethodName) prog_9_method_5_code (1 : Nat) (Option.some Jvm.ClassFile.FieldType.int), Jvm.Cond.code ({ cls := "java/lang/String", name := "indexOf", desc := "(II)I" } : Jvm.MethodName) jdk_42_method_80_code (3 : Nat) (Option.some Jvm.ClassFile.FieldType.int), Jvm.Cond.code ({ cls := "java/lang/String", name := "isLatin1", desc := "()Z" } : Jvm.MethodName) jdk_42_method_154_code (1 : Nat) (Option.some Jvm.ClassFile.FieldType.boolean), Jvm.Cond.code ({ cls := "java/lang/String", name := "length", desc := "()I" } : Jvm.MethodName) jdk_42_method_54_code (1 : Nat) (Option.some Jvm.ClassFile.FieldType.int), Jvm.Cond.code ({ cls := "java/lang/String", name := "coder", desc := "()B" } : Jvm.MethodName) jdk_42_method_152_code (1 : Nat) (Option.some Jvm.ClassFile.FieldType.byte), Jvm.Cond.code ({ cls := "java/lang/StringLatin1", name := "indexOf", desc := "([BIII)I" } : Jvm.MethodName) jdk_43_method_22_code (4 : Nat) (Option.some Jvm.ClassFile.FieldType.int), Jvm.Cond.code ({ cls := "java/lang/StringLatin1", name := "canEncode", desc := "(I)Z" } : Jvm.MethodName) jdk_43_method_4_code (1 : Nat) (Option.some Jvm.ClassFile.FieldType.boolean), Jvm.Cond.code ({ cls := "java/lang/Math", name := "max", desc := "(II)I" } : Jvm.MethodName) jdk_29_method_65_code (2 : Nat) (Option.some Jvm.ClassFile.FieldType.int), Jvm.Cond.code ({ cls := "java/lang/Math", name := "min", desc := "(II)I" } : Jvm.MethodName) jdk_29_method_69_code (2 : Nat) (Option.some Jvm.ClassFile.FieldType.int), Jvm.Cond.code ({ cls := "com/example/semblance/semblance/QueryTokensOffsetPinLaw", name := "nl", desc := "(CCCCII)I" } : Jvm.MethodName) method_4_code (6 : Nat) (Option.some Jvm.ClassFile.FieldType.int), Jvm.Cond.code ({ cls := "java/lang/StringUTF16", name := "compress", desc := "([CII)[B" } : Jvm.MethodName) jdk_52_method_16_code (6 : Nat) (Option.some (Jvm.ClassFile.FieldType.array Jvm.ClassFile.FieldType.byte)), Jvm.Cond.code ({ cls := "java/lang/StringUTF16", name := "compress", desc := "([CI[BII)I" } : Jvm.MethodName) jdk_52_method_21_code (7 : Nat) (Option.some Jvm.ClassFile.FieldType.int), Jvm.Cond.code ({ cls := "java/lang/StringUTF16", name := "coderFromArrayLen", desc := "([BI)B" } : Jvm.MethodName) jdk_52_method_15_code (2 : Nat) (Option.some Jvm.ClassFile.FieldType.byte), Jvm.Cond.code ({ cls := "java/lang/StringLatin1", name := "indexOfChar", desc := "([BIII)I" } : Jvm.MethodName) jdk_43_method_23_code (6 : Nat) (Option.some Jvm.ClassFile.FieldType.int), Jvm.Cond.code ({ cls := "com/example/semblance/semblance/QueryTokens$Position", name := "column", desc := "()I" } : Jvm.MethodName) prog_9_method_6_code (1 : Nat) (Option.some Jvm.ClassFile.FieldType.int)]
set_option maxRecDepth 65536 in
theorem codes_eq : words1.filter isCode = codes1 := rfl
theorem w_codes : ∀ c ∈ words1.filter isCode, c.before args0 about1 = true := by
  rw [codes_eq]
  intro c hc
  simp only [codes1, List.mem_cons, List.not_mem_nil, or_false] at hc
  rcases hc with rfl | rfl | rfl | rfl | rfl | rfl | rfl | rfl | rfl | rfl | rfl | rfl | rfl | rfl | rfl | rfl | rfl | rfl | rfl | rfl | rfl | rfl | rfl
  · exact w_c0
  · exact w_c1
  · exact w_c2
  · exact w_c3
  · exact w_c4
  · exact w_c5
  · exact w_c6
  · exact w_c7
  · exact w_c8
  · exact w_c9
  · exact w_c10
  · exact w_c11
  · exact w_c12
  · exact w_c13
  · exact w_c14
  · exact w_c15
  · exact w_c16
  · exact w_c17
  · exact w_c18
  · exact w_c19
  · exact w_c20
  · exact w_c21
  · exact w_c22
set_option maxRecDepth 65536 in
theorem w_t1 : (words1.take 24).all (fun c => isCode c || c.before args0 about1) = true := by decide +kernel
set_option maxRecDepth 65536 in
theorem w_t2 : ((words1.drop 24).take 24).all (fun c => isCode c || c.before args0 about1) = true := by decide +kernel
set_option maxRecDepth 65536 in
theorem w_t3 : (((words1.drop 24).drop 24).take 24).all (fun c => isCode c || c.before args0 about1) = true := by decide +kernel
set_option maxRecDepth 65536 in
theorem w_t4 : ((((words1.drop 24).drop 24).drop 24).take 24).all (fun c => isCode c || c.before args0 about1) = true := by decide +kernel
set_option maxRecDepth 65536 in
theorem w_t5 : ((((words1.drop 24).drop 24).drop 24).drop 24).all (fun c => isCode c || c.before args0 about1) = true := by decide +kernel
theorem w_tables : (allAtoms (Jvm.Cond.code x code maxLocals ret :: tables_1)).before args0 about1 = true := by
  rw [allAtoms_all]
  show words1.all (fun c => c.before args0 about1) = true
  refine all_split ?_ w_codes
  rw [← List.take_append_drop 24 words1, List.all_append, w_t1, ← List.take_append_drop 24 (words1.drop 24), List.all_append, w_t2, ← List.take_append_drop 24 ((words1.drop 24).drop 24), List.all_append, w_t3, ← List.take_append_drop 24 (((words1.drop 24).drop 24).drop 24), List.all_append, w_t4, w_t5]
  rfl
set_option maxRecDepth 65536 in
theorem w_rest : rest_1_c.before args0 about1 = true := by decide +kernel
set_option maxRecDepth 65536 in
theorem w_case : (Jvm.Cond.and given_1 narrow_1).before args0 about1 = true := by decide +kernel
set_option maxRecDepth 65536 in
theorem w_consts : constsHeld consts_1 about1 := Jvm.Lit.constsHeldB_iff.mp (by decide +kernel)
theorem w_applies : (headSpec (Jvm.Cond.code x code maxLocals ret :: tables_1) room_1).applies x e0.platform about1 = true :=
  (Spec.applies_iff w_frames).mpr ⟨w_running, w_runnable, w_alone, w_named, w_hears, w_ripe, w_room, w_tables⟩
theorem atStart : AtStart classFile x code maxLocals ret World_1 tables_1 room_1 Calls_1 rest_1 Pre_1 launch0 p0 e0 about1 theMethod args0 below0 :=
  ⟨lists_1, trivial, launch0.admits_env _ _ _, launch0.least_env, fairChoices_fair.cas, fairChoices_fair.clock, w_frames, w_args, w_heap, w_applies, ⟨w_consts, trivial⟩, w_rest, w_case⟩
end start1
theorem witness_1 : WitnessClaimed_1 := ⟨start1.p0, start1.e0, start1.about1, start1.theMethod, start1.args0, start1.below0, start1.atStart⟩
end Jvm.Pilot.@@N@@
