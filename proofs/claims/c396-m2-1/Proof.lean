import JvmDerived
import JvmDerived.Pilot.@@N@@Statement
import JvmDerived.Pilot.@@N@@Code
set_option linter.unusedVariables false
set_option linter.unusedSimpArgs false
namespace Jvm.Pilot.@@N@@
open Jvm Jvm.ClassFile Sem Op Lib Jvm.Free Jvm.Stand Jvm.LawKit Jvm.RoadKit Bundle Jvm.Pilot.@@N@@.Jvm.D
section Own
variable {p : Program} {l : Launch} {e : Env} {R : Room} {s : State} {m : MethodId} {args : Array Value} {below : List Frame} {meth : Method} {c : Code} {T T' : State} {cells slots : Nat} {Z : State} {bytes : ByteArray} {mL : Nat} {ret : Option FieldType} {own nm : String} {Q : Option Value → Heap → Prop} {cC cS : Nat} {pc : Nat} {Ls : Array Slot} {st : List Value} {a0 : Array Value} {g g' : JFrame}
/-- the walk stands at T, so many cells and slots made, nothing old written -/
def Wk (l : Launch) (Z : State) (R : Room) (bytes : ByteArray) (mL : Nat) (ret : Option FieldType) (own nm : String) (p : Program) (e : Env) (s : State) (m : MethodId) (args : Array Value) (below : List Frame) (meth : Method) (c : Code) (T : State) (cells slots : Nat) : Prop :=
  (p.tables.exec = Jvm.exec ∧ c.code = bytes ∧ c.maxLocals = mL ∧ meth.sig.returnType = ret ∧ meth.locks = false ∧ s.vm.findClass own = some m.cls ∧ meth.name = nm ∧ Z.Warmed39 s.vm) ∧
  ∃ locs, Stand p l e R s m args below meth c T locs cells slots ∧ Fr Z.heap.size locs ∧ Ext Z.heap T.heap
/-- from T with frame g the method comes to its end, and Q holds there -/
def Ends (p : Program) (e : Env) (below : List Frame) (s : State) (Z : State) (Q : Option Value → Heap → Prop) (cC cS : Nat) (T : State) (g : JFrame) : Prop :=
  ∃ t o, Steps p.tables e below (T.setTop g) t ∧ t.status = .running ∧ Ended t below o ∧ ∃ v L, o = .returned v ∧ (Fr Z.heap.size L ∧ Ext Z.heap t.heap ∧ Q v t.heap) ∧ FrameEnd s o t L cC cS
/-- a method's contract -/
def Ct (l : Launch) (Z : State) (y : MethodName) (bytes : ByteArray) (mL : Nat) (ret : Option FieldType) (rm : Room) (as' : Array Value) (h : Heap) (Q : Option Value → Heap → Prop) : Prop :=
  ∀ ws, MetFree l y (head1 (Jvm.Cond.code y bytes mL ret :: ws) rm) (fun a U => a = as' ∧ Z.Warmed39 U.vm ∧ U.heap = h) (fun _ _ _ _ _ => True) (fun _ U o U' => ∃ v L, o = .returned v ∧ (Fr Z.heap.size L ∧ Ext Z.heap U'.heap ∧ Q v U'.heap) ∧ FrameEnd U o U' L rm.cells rm.slots)
theorem Wk.hx (X : Wk l Z R bytes mL ret own nm p e s m args below meth c T cells slots) : p.tables.exec = Jvm.exec := X.1.1
theorem Wk.hb (X : Wk l Z R bytes mL ret own nm p e s m args below meth c T cells slots) {pc : Nat} {r : Except DecodeError (Instr × Nat)} (h : decode bytes pc = r) : decode c.code pc = r := X.1.2.1 ▸ h
theorem Wk.hown (X : Wk l Z R bytes mL ret own nm p e s m args below meth c T cells slots) : s.vm.findClass own = some m.cls := X.1.2.2.2.2.2.1
theorem Wk.hZ (X : Wk l Z R bytes mL ret own nm p e s m args below meth c T cells slots) : Z.Warmed39 s.vm := X.1.2.2.2.2.2.2.2
theorem Wk.at (X : Wk l Z R bytes mL ret own nm p e s m args below meth c T cells slots) : At T m c below := by obtain ⟨-, _, X, -⟩ := X; exact X.here
theorem Wk.old (X : Wk l Z R bytes mL ret own nm p e s m args below meth c T cells slots) : Ext Z.heap T.heap := by obtain ⟨-, _, -, -, X⟩ := X; exact X
theorem Wk.le (X : Wk l Z R bytes mL ret own nm p e s m args below meth c T cells slots) : Z.heap.size ≤ T.heap.size := X.old.1
theorem Wk.size (X : Wk l Z R bytes mL ret own nm p e s m args below meth c T cells slots) (h : Ls.size = mL) {pc : Nat} {st : List Value} : (mkF m pc Ls st).locals.size = c.maxLocals := h.trans X.1.2.2.1.symm
theorem Wk.more (X : Wk l Z R bytes mL ret own nm p e s m args below meth c T cells slots) {cells' slots' : Nat} (h1 : cells ≤ cells') (h2 : slots ≤ slots') : Wk l Z R bytes mL ret own nm p e s m args below meth c T cells' slots' := by
  obtain ⟨q, locs, Y, r⟩ := X; exact ⟨q, locs, Y.more h1 h2, r⟩
theorem E_by (f : ∀ target, Steps p.tables e below (T'.setTop g') target → Steps p.tables e below (T.setTop g) target) (k : Ends p e below s Z Q cC cS T' g') : Ends p e below s Z Q cC cS T g := by
  obtain ⟨t, o, h1, r⟩ := k; exact ⟨t, o, f _ h1, r⟩
theorem E_tr (f : Steps p.tables e below (T.setTop g) (T'.setTop g')) (k : Ends p e below s Z Q cC cS T' g') : Ends p e below s Z Q cC cS T g := E_by (fun _ q => f.trans q) k
theorem Keep.of_ext {h h' : Heap} (E : Ext h h') : Keep h h' [] := (Keep.refl h []).ext E
theorem own_keq {h h1 h2 : Heap} {ws : List Addr} (K : Keep h h1 ws) (q : h2 = h1) : Keep h h2 ws := q ▸ K
theorem Keep.old {h h' : Heap} {ws : List Addr} (O : Ext Z.heap h) (K : Keep h h' ws) (q : ∀ x ∈ ws, Z.heap.size ≤ x) : Ext Z.heap h' := ⟨Nat.le_trans O.1 K.1, fun x c r => K.2.1 x c (O.2 x c r) fun z => absurd (Array.getElem?_eq_some_iff.mp r).1 (Nat.not_lt.mpr (q x z))⟩
theorem Ct.of_body {y1 y2 y3 : String} {rm : Room} {as' : Array Value} {h : Heap} (pn : plainFor ⟨y1, y2, y3⟩ = true) (O : Ext Z.heap h) (ef : ∀ m, entryFrame m as' mL = mkF m 0 Ls [])
    (k : ∀ {p : Program} {e : Env} {s : State} {m : MethodId} {below : List Frame} {meth : Method} {c : Code} {T : State}, Wk l Z rm bytes mL ret y1 y2 p e s m as' below meth c T 0 0 → T.heap = h → Ends p e below s Z Q rm.cells rm.slots T (mkF m 0 Ls [])) : Ct l Z ⟨y1, y2, y3⟩ bytes mL ret rm as' h Q := by
  intro ws
  refine MetFree.of_bodySF pn hisR ?_
  intro p e s m args below meth c s₁ Bd hml0 hP hK
  obtain ⟨rfl, hZ, hh⟩ := hP
  have e0 : s₁.heap = h := by rw [← hh, Bd.state]; rfl
  have X : Wk l Z rm bytes mL ret y1 y2 p e s m args below meth c s₁ 0 0 := ⟨⟨Bd.exec, Bd.bytes, hml0, Bd.returns, Bd.notSynchronized, findClass_of_methodNamed Bd.named, (name_of_methodNamed Bd.named Bd.method).1, hZ⟩, [], Stand.of_body Bd, Fr.nil _, e0 ▸ O⟩
  obtain ⟨t, o, h1, r⟩ := k X e0
  exact ⟨t, o, castTop (ef m) h1, r⟩
theorem Ct.back {y : MethodName} {rm : Room} {as' : Array Value} {h : Heap} {mL' : Nat} {bytes' : ByteArray} {ret' : Option FieldType} {Q' : Option Value → Heap → Prop} (hC : Ct l Z y bytes' mL' ret' rm as' h Q') {len W : Nat}
    (hZ : Z.Warmed39 s.vm) (wc : (Jvm.Cond.code y bytes' mL' ret').before a0 Z = true) (wz : (Jvm.Cond.initialized y.cls).before a0 Z = true) (hf : rm.frames + 1 ≤ R.frames) (hl : W + (mL' + 11) + rm.locals ≤ R.locals) :
    Back l R p e below s args y len W (fun A a => a = as' ∧ A.U.heap = h ∧ A.cells + rm.cells ≤ R.cells ∧ A.slots + rm.slots ≤ R.slots)
      (fun A _ v B => ∃ L, (Fr Z.heap.size L ∧ Ext Z.heap B.U.heap ∧ Q' v B.U.heap) ∧ B.locs = A.locs ++ L ∧ B.cells = A.cells + rm.cells ∧ B.slots = A.slots + rm.slots) :=
  backOf (Q := fun v h L => Fr Z.heap.size L ∧ Ext Z.heap h ∧ Q' v h) (hC []) hZ wc wz hf hl

theorem E_aloadN (X : Wk l Z R bytes mL ret own nm p e s m args below meth c T cells slots) {j : Fin 4} {v : Value} (hd : decode bytes pc = .ok (.aload_n j, 1)) (hl : Ls[j.val]? = some (.val v)) (hv : v.isRef = true) {pc' : Nat} (hp : pc + 1 = pc') (k : Ends p e below s Z Q cC cS T (mkF m pc' Ls (v :: st))) : Ends p e below s Z Q cC cS T (mkF m pc Ls (st)) := by
  subst hp; exact E_by (fun _ q => XS.aloadN X.at X.hx rfl (X.hb hd) hl hv q) k
theorem E_aload (X : Wk l Z R bytes mL ret own nm p e s m args below meth c T cells slots) {j : Nat} {v : Value} (hd : decode bytes pc = .ok (.aload j, 2)) (hl : Ls[j]? = some (.val v)) (hv : v.isRef = true) {pc' : Nat} (hp : pc + 2 = pc') (k : Ends p e below s Z Q cC cS T (mkF m pc' Ls (v :: st))) : Ends p e below s Z Q cC cS T (mkF m pc Ls (st)) := by
  subst hp; exact E_by (fun _ q => XS.aload X.at X.hx rfl (X.hb hd) hl hv q) k
theorem E_iloadN (X : Wk l Z R bytes mL ret own nm p e s m args below meth c T cells slots) {j : Fin 4} {v : Int32} (hd : decode bytes pc = .ok (.iload_n j, 1)) (hl : Ls[j.val]? = some (.val (.int v))) {pc' : Nat} (hp : pc + 1 = pc') (k : Ends p e below s Z Q cC cS T (mkF m pc' Ls (.int v :: st))) : Ends p e below s Z Q cC cS T (mkF m pc Ls (st)) := by
  subst hp; exact E_by (fun _ q => XS.iloadN X.at X.hx rfl (X.hb hd) hl q) k
theorem E_iload (X : Wk l Z R bytes mL ret own nm p e s m args below meth c T cells slots) {j : Nat} {v : Int32} (hd : decode bytes pc = .ok (.iload j, 2)) (hl : Ls[j]? = some (.val (.int v))) {pc' : Nat} (hp : pc + 2 = pc') (k : Ends p e below s Z Q cC cS T (mkF m pc' Ls (.int v :: st))) : Ends p e below s Z Q cC cS T (mkF m pc Ls (st)) := by
  subst hp; exact E_by (fun _ q => XS.iload X.at X.hx rfl (X.hb hd) hl q) k
theorem E_aconstNull (X : Wk l Z R bytes mL ret own nm p e s m args below meth c T cells slots) (hd : decode bytes pc = .ok (.aconst_null, 1)) {pc' : Nat} (hp : pc + 1 = pc') (k : Ends p e below s Z Q cC cS T (mkF m pc' Ls (.null :: st))) : Ends p e below s Z Q cC cS T (mkF m pc Ls (st)) := by
  subst hp; exact E_by (fun _ q => XS.aconstNull X.at X.hx rfl (X.hb hd) q) k
theorem E_iconst (X : Wk l Z R bytes mL ret own nm p e s m args below meth c T cells slots) {i : Int} {v : Int32} (hd : decode bytes pc = .ok (.iconst i, 1)) (hv : Int32.ofInt i = v) {pc' : Nat} (hp : pc + 1 = pc') (k : Ends p e below s Z Q cC cS T (mkF m pc' Ls (.int v :: st))) : Ends p e below s Z Q cC cS T (mkF m pc Ls st) := by
  subst hp hv; exact E_by (fun _ q => XS.iconst X.at X.hx rfl (X.hb hd) q) k
theorem E_bipush (X : Wk l Z R bytes mL ret own nm p e s m args below meth c T cells slots) {i : Int} {v : Int32} (hd : decode bytes pc = .ok (.bipush i, 2)) (hv : (Int8.ofInt i).toInt32 = v) {pc' : Nat} (hp : pc + 2 = pc') (k : Ends p e below s Z Q cC cS T (mkF m pc' Ls (.int v :: st))) : Ends p e below s Z Q cC cS T (mkF m pc Ls st) := by
  subst hp hv; exact E_by (fun _ q => XS.bipush X.at X.hx rfl (X.hb hd) q) k
theorem E_sipush (X : Wk l Z R bytes mL ret own nm p e s m args below meth c T cells slots) {i : Int} {v : Int32} (hd : decode bytes pc = .ok (.sipush i, 3)) (hv : (Int16.ofInt i).toInt32 = v) {pc' : Nat} (hp : pc + 3 = pc') (k : Ends p e below s Z Q cC cS T (mkF m pc' Ls (.int v :: st))) : Ends p e below s Z Q cC cS T (mkF m pc Ls st) := by
  subst hp hv; exact E_by (fun _ q => XS.sipush X.at X.hx rfl (X.hb hd) q) k
theorem E_iadd (X : Wk l Z R bytes mL ret own nm p e s m args below meth c T cells slots) {x y v : Int32} (hd : decode bytes pc = .ok (.iadd, 1)) (hv : x + y = v) {pc' : Nat} (hp : pc + 1 = pc') (k : Ends p e below s Z Q cC cS T (mkF m pc' Ls (.int v :: st))) : Ends p e below s Z Q cC cS T (mkF m pc Ls (.int y :: .int x :: st)) := by
  subst hp hv; exact E_by (fun _ q => XS.iadd X.at X.hx rfl (X.hb hd) rfl q) k
theorem E_isub (X : Wk l Z R bytes mL ret own nm p e s m args below meth c T cells slots) {x y v : Int32} (hd : decode bytes pc = .ok (.isub, 1)) (hv : x - y = v) {pc' : Nat} (hp : pc + 1 = pc') (k : Ends p e below s Z Q cC cS T (mkF m pc' Ls (.int v :: st))) : Ends p e below s Z Q cC cS T (mkF m pc Ls (.int y :: .int x :: st)) := by
  subst hp hv; exact E_by (fun _ q => XS.isub X.at X.hx rfl (X.hb hd) rfl q) k
theorem E_imul (X : Wk l Z R bytes mL ret own nm p e s m args below meth c T cells slots) {x y v : Int32} (hd : decode bytes pc = .ok (.imul, 1)) (hv : x * y = v) {pc' : Nat} (hp : pc + 1 = pc') (k : Ends p e below s Z Q cC cS T (mkF m pc' Ls (.int v :: st))) : Ends p e below s Z Q cC cS T (mkF m pc Ls (.int y :: .int x :: st)) := by
  subst hp hv; exact E_by (fun _ q => XS.imul X.at X.hx rfl (X.hb hd) rfl q) k
theorem E_iand (X : Wk l Z R bytes mL ret own nm p e s m args below meth c T cells slots) {x y v : Int32} (hd : decode bytes pc = .ok (.iand, 1)) (hv : x &&& y = v) {pc' : Nat} (hp : pc + 1 = pc') (k : Ends p e below s Z Q cC cS T (mkF m pc' Ls (.int v :: st))) : Ends p e below s Z Q cC cS T (mkF m pc Ls (.int y :: .int x :: st)) := by
  subst hp hv; exact E_by (fun _ q => XS.iand X.at X.hx rfl (X.hb hd) rfl q) k
theorem E_ior (X : Wk l Z R bytes mL ret own nm p e s m args below meth c T cells slots) {x y v : Int32} (hd : decode bytes pc = .ok (.ior, 1)) (hv : x ||| y = v) {pc' : Nat} (hp : pc + 1 = pc') (k : Ends p e below s Z Q cC cS T (mkF m pc' Ls (.int v :: st))) : Ends p e below s Z Q cC cS T (mkF m pc Ls (.int y :: .int x :: st)) := by
  subst hp hv; exact E_by (fun _ q => XS.ior X.at X.hx rfl (X.hb hd) rfl q) k
theorem E_ixor (X : Wk l Z R bytes mL ret own nm p e s m args below meth c T cells slots) {x y v : Int32} (hd : decode bytes pc = .ok (.ixor, 1)) (hv : x ^^^ y = v) {pc' : Nat} (hp : pc + 1 = pc') (k : Ends p e below s Z Q cC cS T (mkF m pc' Ls (.int v :: st))) : Ends p e below s Z Q cC cS T (mkF m pc Ls (.int y :: .int x :: st)) := by
  subst hp hv; exact E_by (fun _ q => XS.ixor X.at X.hx rfl (X.hb hd) rfl q) k
theorem E_ishl (X : Wk l Z R bytes mL ret own nm p e s m args below meth c T cells slots) {x y v : Int32} (hd : decode bytes pc = .ok (.ishl, 1)) (hv : x <<< (y &&& 31) = v) {pc' : Nat} (hp : pc + 1 = pc') (k : Ends p e below s Z Q cC cS T (mkF m pc' Ls (.int v :: st))) : Ends p e below s Z Q cC cS T (mkF m pc Ls (.int y :: .int x :: st)) := by
  subst hp hv; exact E_by (fun _ q => XS.ishl X.at X.hx rfl (X.hb hd) rfl q) k
theorem E_ishr (X : Wk l Z R bytes mL ret own nm p e s m args below meth c T cells slots) {x y v : Int32} (hd : decode bytes pc = .ok (.ishr, 1)) (hv : x >>> (y &&& 31) = v) {pc' : Nat} (hp : pc + 1 = pc') (k : Ends p e below s Z Q cC cS T (mkF m pc' Ls (.int v :: st))) : Ends p e below s Z Q cC cS T (mkF m pc Ls (.int y :: .int x :: st)) := by
  subst hp hv; exact E_by (fun _ q => XS.ishr X.at X.hx rfl (X.hb hd) rfl q) k
theorem E_iushr (X : Wk l Z R bytes mL ret own nm p e s m args below meth c T cells slots) {x y v : Int32} (hd : decode bytes pc = .ok (.iushr, 1)) (hv : (x.toUInt32 >>> (y &&& 31).toUInt32).toInt32 = v) {pc' : Nat} (hp : pc + 1 = pc') (k : Ends p e below s Z Q cC cS T (mkF m pc' Ls (.int v :: st))) : Ends p e below s Z Q cC cS T (mkF m pc Ls (.int y :: .int x :: st)) := by
  subst hp hv; exact E_by (fun _ q => XS.iushr X.at X.hx rfl (X.hb hd) rfl q) k
theorem E_ineg (X : Wk l Z R bytes mL ret own nm p e s m args below meth c T cells slots) {x v : Int32} (hd : decode bytes pc = .ok (.ineg, 1)) (hv : -x = v) {pc' : Nat} (hp : pc + 1 = pc') (k : Ends p e below s Z Q cC cS T (mkF m pc' Ls (.int v :: st))) : Ends p e below s Z Q cC cS T (mkF m pc Ls (.int x :: st)) := by
  subst hp hv; exact E_by (fun _ q => XS.ineg X.at X.hx rfl (X.hb hd) rfl q) k
theorem E_i2c (X : Wk l Z R bytes mL ret own nm p e s m args below meth c T cells slots) {x v : Int32} (hd : decode bytes pc = .ok (.i2c, 1)) (hv : x.toUInt32.toUInt16.toUInt32.toInt32 = v) {pc' : Nat} (hp : pc + 1 = pc') (k : Ends p e below s Z Q cC cS T (mkF m pc' Ls (.int v :: st))) : Ends p e below s Z Q cC cS T (mkF m pc Ls (.int x :: st)) := by
  subst hp hv; exact E_by (fun _ q => XS.i2c X.at X.hx rfl (X.hb hd) rfl q) k
theorem E_i2b (X : Wk l Z R bytes mL ret own nm p e s m args below meth c T cells slots) {x v : Int32} (hd : decode bytes pc = .ok (.i2b, 1)) (hv : x.toInt8.toInt32 = v) {pc' : Nat} (hp : pc + 1 = pc') (k : Ends p e below s Z Q cC cS T (mkF m pc' Ls (.int v :: st))) : Ends p e below s Z Q cC cS T (mkF m pc Ls (.int x :: st)) := by
  subst hp hv; exact E_by (fun _ q => XS.i2b X.at X.hx rfl (X.hb hd) rfl q) k
theorem E_i2s (X : Wk l Z R bytes mL ret own nm p e s m args below meth c T cells slots) {x v : Int32} (hd : decode bytes pc = .ok (.i2s, 1)) (hv : x.toInt16.toInt32 = v) {pc' : Nat} (hp : pc + 1 = pc') (k : Ends p e below s Z Q cC cS T (mkF m pc' Ls (.int v :: st))) : Ends p e below s Z Q cC cS T (mkF m pc Ls (.int x :: st)) := by
  subst hp hv; exact E_by (fun _ q => XS.i2s X.at X.hx rfl (X.hb hd) rfl q) k
theorem E_dup (X : Wk l Z R bytes mL ret own nm p e s m args below meth c T cells slots) {v : Value} (hd : decode bytes pc = .ok (.dup, 1)) (hc : v.category = 1) {pc' : Nat} (hp : pc + 1 = pc') (k : Ends p e below s Z Q cC cS T (mkF m pc' Ls (v :: v :: st))) : Ends p e below s Z Q cC cS T (mkF m pc Ls (v :: st)) := by
  subst hp; exact E_by (fun _ q => XS.dup X.at X.hx rfl (X.hb hd) rfl hc q) k
theorem E_dupx1 (X : Wk l Z R bytes mL ret own nm p e s m args below meth c T cells slots) {v u : Value} (hd : decode bytes pc = .ok (.dup_x1, 1)) (hc : v.category = 1) (hc2 : u.category = 1) {pc' : Nat} (hp : pc + 1 = pc') (k : Ends p e below s Z Q cC cS T (mkF m pc' Ls (v :: u :: v :: st))) : Ends p e below s Z Q cC cS T (mkF m pc Ls (v :: u :: st)) := by
  subst hp; exact E_by (fun _ q => XT.dupX1 X.at X.hx rfl (X.hb hd) rfl hc hc2 q) k
theorem E_pop (X : Wk l Z R bytes mL ret own nm p e s m args below meth c T cells slots) {v : Value} (hd : decode bytes pc = .ok (.pop, 1)) (hc : v.category = 1) {pc' : Nat} (hp : pc + 1 = pc') (k : Ends p e below s Z Q cC cS T (mkF m pc' Ls (st))) : Ends p e below s Z Q cC cS T (mkF m pc Ls (v :: st)) := by
  subst hp; exact E_by (fun _ q => XS.pop X.at X.hx rfl (X.hb hd) rfl hc q) k
theorem E_istoreN (X : Wk l Z R bytes mL ret own nm p e s m args below meth c T cells slots) {j : Fin 4} {x : Int32} (hd : decode bytes pc = .ok (.istore_n j, 1)) {l' : Array Slot} (hl : storeLocals Ls j.val (.int x) = some l') {pc' : Nat} (hp : pc + 1 = pc') (k : Ends p e below s Z Q cC cS T (mkF m pc' l' (st))) : Ends p e below s Z Q cC cS T (mkF m pc Ls (.int x :: st)) := by
  subst hp; exact E_by (fun _ q => XS.istoreN X.at X.hx rfl (X.hb hd) rfl hl q) k
theorem E_istore (X : Wk l Z R bytes mL ret own nm p e s m args below meth c T cells slots) {j : Nat} {x : Int32} (hd : decode bytes pc = .ok (.istore j, 2)) {l' : Array Slot} (hl : storeLocals Ls j (.int x) = some l') {pc' : Nat} (hp : pc + 2 = pc') (k : Ends p e below s Z Q cC cS T (mkF m pc' l' (st))) : Ends p e below s Z Q cC cS T (mkF m pc Ls (.int x :: st)) := by
  subst hp; exact E_by (fun _ q => XS.istore X.at X.hx rfl (X.hb hd) rfl hl q) k
theorem E_astoreN (X : Wk l Z R bytes mL ret own nm p e s m args below meth c T cells slots) {j : Fin 4} {x : Value} (hd : decode bytes pc = .ok (.astore_n j, 1)) (hv : x.isRef = true) {l' : Array Slot} (hl : storeLocals Ls j.val x = some l') {pc' : Nat} (hp : pc + 1 = pc') (k : Ends p e below s Z Q cC cS T (mkF m pc' l' (st))) : Ends p e below s Z Q cC cS T (mkF m pc Ls (x :: st)) := by
  subst hp; exact E_by (fun _ q => XS.astoreN X.at X.hx rfl (X.hb hd) rfl hv hl q) k
theorem E_astore (X : Wk l Z R bytes mL ret own nm p e s m args below meth c T cells slots) {j : Nat} {x : Value} (hd : decode bytes pc = .ok (.astore j, 2)) (hv : x.isRef = true) {l' : Array Slot} (hl : storeLocals Ls j x = some l') {pc' : Nat} (hp : pc + 2 = pc') (k : Ends p e below s Z Q cC cS T (mkF m pc' l' (st))) : Ends p e below s Z Q cC cS T (mkF m pc Ls (x :: st)) := by
  subst hp; exact E_by (fun _ q => XS.astore X.at X.hx rfl (X.hb hd) rfl hv hl q) k
theorem E_iinc (X : Wk l Z R bytes mL ret own nm p e s m args below meth c T cells slots) {j : Nat} {i : Int} {x y : Int32} (hd : decode bytes pc = .ok (.iinc j i, 3)) (hy : x + Int32.ofInt i = y) (hl : Ls[j]? = some (.val (.int x))) {l' : Array Slot} (hl' : storeLocals Ls j (.int y) = some l') {pc' : Nat} (hp : pc + 3 = pc') (k : Ends p e below s Z Q cC cS T (mkF m pc' l' st)) : Ends p e below s Z Q cC cS T (mkF m pc Ls st) := by
  subst hp hy; exact E_by (fun _ q => XS.iinc X.at X.hx rfl (X.hb hd) hl hl' q) k
theorem E_irem (X : Wk l Z R bytes mL ret own nm p e s m args below meth c T cells slots) {x y v : Int32} (hd : decode bytes pc = .ok (.irem, 1)) (hy : y ≠ 0) (hv : x % y = v) {pc' : Nat} (hp : pc + 1 = pc') (k : Ends p e below s Z Q cC cS T (mkF m pc' Ls (.int v :: st))) : Ends p e below s Z Q cC cS T (mkF m pc Ls (.int y :: .int x :: st)) := by
  subst hp hv; obtain ⟨q, locs, Y, r⟩ := id X; exact E_by (fun _ k => iremM Y X.hx rfl (X.hb hd) rfl hy k) k
theorem E_idiv (X : Wk l Z R bytes mL ret own nm p e s m args below meth c T cells slots) {x y v : Int32} (hd : decode bytes pc = .ok (.idiv, 1)) (hy : y ≠ 0) (hv : x / y = v) {pc' : Nat} (hp : pc + 1 = pc') (k : Ends p e below s Z Q cC cS T (mkF m pc' Ls (.int v :: st))) : Ends p e below s Z Q cC cS T (mkF m pc Ls (.int y :: .int x :: st)) := by
  subst hp hv; exact E_by (fun _ k => XS.idiv X.at X.hx rfl (X.hb hd) rfl hy k) k
theorem E_goto (X : Wk l Z R bytes mL ret own nm p e s m args below meth c T cells slots) {o : Int} (hd : decode bytes pc = .ok (.goto o, 3)) {pc' : Nat} (ho : 0 ≤ (pc : Int) + o) (hp : ((pc : Int) + o).toNat = pc') (k : Ends p e below s Z Q cC cS T (mkF m pc' Ls st)) : Ends p e below s Z Q cC cS T (mkF m pc Ls st) :=
  E_by (fun _ q => XS.goto X.at X.hx rfl (pc0 := pc) rfl (X.hb hd) ho hp q) k
theorem E_ifT (X : Wk l Z R bytes mL ret own nm p e s m args below meth c T cells slots) {cd : ClassFile.Cond} {o : Int} {x : Int32} (hd : decode bytes pc = .ok (.ifCond cd o, 3)) (hc : ifCond.holds cd x = true) {pc' : Nat} (ho : 0 ≤ (pc : Int) + o) (hp : ((pc : Int) + o).toNat = pc') (k : Ends p e below s Z Q cC cS T (mkF m pc' Ls st)) : Ends p e below s Z Q cC cS T (mkF m pc Ls (.int x :: st)) :=
  E_by (fun _ q => XS.ifYes X.at X.hx rfl (pc0 := pc) rfl (X.hb hd) rfl hc ho hp q) k
theorem E_ifF (X : Wk l Z R bytes mL ret own nm p e s m args below meth c T cells slots) {cd : ClassFile.Cond} {o : Int} {x : Int32} (hd : decode bytes pc = .ok (.ifCond cd o, 3)) (hc : ifCond.holds cd x = false) {pc' : Nat} (hp : pc + 3 = pc') (k : Ends p e below s Z Q cC cS T (mkF m pc' Ls st)) : Ends p e below s Z Q cC cS T (mkF m pc Ls (.int x :: st)) := by
  subst hp; exact E_by (fun _ q => XS.ifNo X.at X.hx rfl (X.hb hd) rfl hc q) k
theorem E_icT (X : Wk l Z R bytes mL ret own nm p e s m args below meth c T cells slots) {cd : ClassFile.Cond} {o : Int} {x y : Int32} (hd : decode bytes pc = .ok (.if_icmp cd o, 3)) (hc : if_icmp.holds cd x y = true) {pc' : Nat} (ho : 0 ≤ (pc : Int) + o) (hp : ((pc : Int) + o).toNat = pc') (k : Ends p e below s Z Q cC cS T (mkF m pc' Ls st)) : Ends p e below s Z Q cC cS T (mkF m pc Ls (.int y :: .int x :: st)) :=
  E_by (fun _ q => XS.icmpYes X.at X.hx rfl (pc0 := pc) rfl (X.hb hd) rfl hc ho hp q) k
theorem E_icF (X : Wk l Z R bytes mL ret own nm p e s m args below meth c T cells slots) {cd : ClassFile.Cond} {o : Int} {x y : Int32} (hd : decode bytes pc = .ok (.if_icmp cd o, 3)) (hc : if_icmp.holds cd x y = false) {pc' : Nat} (hp : pc + 3 = pc') (k : Ends p e below s Z Q cC cS T (mkF m pc' Ls st)) : Ends p e below s Z Q cC cS T (mkF m pc Ls (.int y :: .int x :: st)) := by
  subst hp; exact E_by (fun _ q => XS.icmpNo X.at X.hx rfl (X.hb hd) rfl hc q) k
theorem E_nullT (X : Wk l Z R bytes mL ret own nm p e s m args below meth c T cells slots) {o : Int} (hd : decode bytes pc = .ok (.ifnull o, 3)) {pc' : Nat} (ho : 0 ≤ (pc : Int) + o) (hp : ((pc : Int) + o).toNat = pc') (k : Ends p e below s Z Q cC cS T (mkF m pc' Ls st)) : Ends p e below s Z Q cC cS T (mkF m pc Ls (.null :: st)) :=
  E_by (fun _ q => XS.ifnullYes X.at X.hx rfl (pc0 := pc) rfl (X.hb hd) rfl ho hp q) k
theorem E_nullF (X : Wk l Z R bytes mL ret own nm p e s m args below meth c T cells slots) {o : Int} {b : Addr} (hd : decode bytes pc = .ok (.ifnull o, 3)) {pc' : Nat} (hp : pc + 3 = pc') (k : Ends p e below s Z Q cC cS T (mkF m pc' Ls st)) : Ends p e below s Z Q cC cS T (mkF m pc Ls (.ref b :: st)) := by
  subst hp; exact E_by (fun _ q => XS.ifnullNo X.at X.hx rfl (X.hb hd) rfl q) k
theorem E_nonnullT (X : Wk l Z R bytes mL ret own nm p e s m args below meth c T cells slots) {o : Int} {b : Addr} (hd : decode bytes pc = .ok (.ifnonnull o, 3)) {pc' : Nat} (ho : 0 ≤ (pc : Int) + o) (hp : ((pc : Int) + o).toNat = pc') (k : Ends p e below s Z Q cC cS T (mkF m pc' Ls st)) : Ends p e below s Z Q cC cS T (mkF m pc Ls (.ref b :: st)) :=
  E_by (fun _ q => XT.nonnullYes X.at X.hx rfl (pc0 := pc) rfl (X.hb hd) rfl rfl (fun q => nomatch q) ho hp q) k
theorem E_nonnullF (X : Wk l Z R bytes mL ret own nm p e s m args below meth c T cells slots) {o : Int} (hd : decode bytes pc = .ok (.ifnonnull o, 3)) {pc' : Nat} (hp : pc + 3 = pc') (k : Ends p e below s Z Q cC cS T (mkF m pc' Ls st)) : Ends p e below s Z Q cC cS T (mkF m pc Ls (.null :: st)) := by
  subst hp; exact E_by (fun _ q => XT.nonnullNo X.at X.hx rfl (X.hb hd) rfl rfl q) k
theorem E_acmp (X : Wk l Z R bytes mL ret own nm p e s m args below meth c T cells slots) {cd : ACond} {o : Int} {x y : Value} (hd : decode bytes pc = .ok (.if_acmp cd o, 3)) (h1 : x.isRef = true) (h2 : y.isRef = true) (same : Bool) (hq : decide (x = y) = same) {pc' : Nat} (ho : 0 ≤ (pc : Int) + o) (hp : pc' = if acV cd same = true then ((pc : Int) + o).toNat else pc + 3) (k : Ends p e below s Z Q cC cS T (mkF m pc' Ls st)) : Ends p e below s Z Q cC cS T (mkF m pc Ls (y :: x :: st)) := by
  obtain ⟨_, locs, Y, r⟩ := id X; exact E_by (fun _ q => acmp Y X.hx rfl h1 h2 (pc0 := pc) rfl (X.hb hd) rfl hq ho hp q) k
theorem E_ldcI (X : Wk l Z R bytes mL ret own nm p e s m args below meth c T cells slots) {ix : Nat} {v : Int32} (hd : decode bytes pc = .ok (.ldc ix, 2)) (w : (Jvm.Cond.constant own ix v).before a0 Z = true) {pc' : Nat} (hp : pc + 2 = pc') (k : Ends p e below s Z Q cC cS T (mkF m pc' Ls (.int v :: st))) : Ends p e below s Z Q cC cS T (mkF m pc Ls st) := by
  subst hp; obtain ⟨_, locs, Y, r⟩ := id X; exact E_by (fun _ q => Y.ldcI X.hx X.hown (mvT X.hZ w) rfl (X.hb hd) q) k
theorem E_new (X : Wk l Z R bytes mL ret own nm p e s m args below meth c T cells slots) {C : String} {ix n : Nat} (hd : decode bytes pc = .ok (.new ix, 3)) (w1 : (Jvm.Cond.classLink own ix C).before a0 Z = true) (w2 : (Jvm.Cond.instantiable C n).before a0 Z = true) (w3 : (Jvm.Cond.initialized C).before a0 Z = true) (hc : cells + 1 ≤ R.cells) (hs : slots + n ≤ R.slots) {pc' : Nat} (hp : pc + 3 = pc')
    (k : ∀ (T' : State) (b : Addr), Wk l Z R bytes mL ret own nm p e s m args below meth c T' (cells + 1) (slots + n) → b = T.heap.size → Keep T.heap T'.heap [] → Exa Z T'.heap b C → (∀ {O nm d : String} {ty : FieldType}, Laid Z a0 C O nm d → parseFieldDescriptor d = some ty → Fld Z T'.heap b O nm d (defaultValue ty)) → Ends p e below s Z Q cC cS T' (mkF m pc' Ls (.ref b :: st))) : Ends p e below s Z Q cC cS T (mkF m pc Ls st) := by
  subst hp; obtain ⟨q0, locs, Y, N, O⟩ := id X
  obtain ⟨T', h', Y', rfl, E, A, D, -, stp⟩ := newO Y X.hx X.hZ X.hown w1 w2 w3 rfl (g := mkF m pc Ls st) rfl (X.hb hd) hc hs
  exact E_by stp (k T' _ ⟨q0, locs, Y', N, Keep.old O (Keep.of_ext E) all0⟩ rfl (Keep.of_ext E) A D)
theorem E_newarray (X : Wk l Z R bytes mL ret own nm p e s m args below meth c T cells slots) {aty : ArrayType} {n : Int32} (cap : Nat) (hd : decode bytes pc = .ok (.newarray aty, 2)) (w : (Jvm.Cond.arrayClass (newarray.typeOf aty)).before a0 Z = true) (hn : ¬ n < 0) (hcap : n.toNatClampNeg ≤ cap) (hb : cap * 8 ≤ 536870912) (hc : cells + 1 ≤ R.cells) (hs : slots + cap ≤ R.slots) {pc' : Nat} (hp : pc + 2 = pc')
    (k : ∀ (T' : State) (b : Addr) (kA : ClassId), Wk l Z R bytes mL ret own nm p e s m args below meth c T' (cells + 1) (slots + cap) → b = T.heap.size → Keep T.heap T'.heap [] → Arv Z T'.heap b kA (newarray.typeOf aty) n [] (defaultValue (newarray.typeOf aty)) → Ends p e below s Z Q cC cS T' (mkF m pc' Ls (.ref b :: st))) : Ends p e below s Z Q cC cS T (mkF m pc Ls (.int n :: st)) := by
  subst hp; obtain ⟨q0, locs, Y, N, O⟩ := id X
  obtain ⟨T', h', kA, Y', rfl, E, A, stp⟩ := newP Y X.hx X.hZ w rfl (g := mkF m pc Ls (.int n :: st)) rfl (X.hb hd) rfl hn hcap hb hc hs
  exact E_by stp (k T' _ kA ⟨q0, locs, Y', N, Keep.old O (Keep.of_ext E) all0⟩ rfl (Keep.of_ext E) (Arv.new A hn))
theorem E_anewarray (X : Wk l Z R bytes mL ret own nm p e s m args below meth c T cells slots) {C : String} {ix : Nat} {n : Int32} (cap : Nat) (hd : decode bytes pc = .ok (.anewarray ix, 3)) (w1 : (Jvm.Cond.classLink own ix C).before a0 Z = true) (w2 : (Jvm.Cond.arrayOver (.object C)).before a0 Z = true) (hn : ¬ n < 0) (hcap : n.toNatClampNeg ≤ cap) (hb : cap * 8 ≤ 536870912) (hc : cells + 1 ≤ R.cells) (hs : slots + cap ≤ R.slots) {pc' : Nat} (hp : pc + 3 = pc')
    (k : ∀ (T' : State) (b : Addr) (kA : ClassId), Wk l Z R bytes mL ret own nm p e s m args below meth c T' (cells + 1) (slots + cap) → b = T.heap.size → Keep T.heap T'.heap [] → Arv Z T'.heap b kA (.object C) n [] .null → Ovr Z kA C → Ends p e below s Z Q cC cS T' (mkF m pc' Ls (.ref b :: st))) : Ends p e below s Z Q cC cS T (mkF m pc Ls (.int n :: st)) := by
  subst hp; obtain ⟨q0, locs, Y, N, O⟩ := id X
  obtain ⟨T', h', kA, Y', rfl, E, A, Ov, stp⟩ := newR Y X.hx X.hZ X.hown w1 w2 rfl (g := mkF m pc Ls (.int n :: st)) rfl (X.hb hd) rfl hn hcap hb hc hs
  exact E_by stp (k T' _ kA ⟨q0, locs, Y', N, Keep.old O (Keep.of_ext E) all0⟩ rfl (Keep.of_ext E) (Arv.new A hn) Ov)
theorem E_aastore (X : Wk l Z R bytes mL ret own nm p e s m args below meth c T cells slots) {a y : Addr} {kA : ClassId} {z j : Int32} {vs : List Value} {C : String} (i : Nat) (hd : decode bytes pc = .ok (.aastore, 1)) (V : Arv Z T.heap a kA (.object C) z vs .null) (Ov : Ovr Z kA C) (I : Ins Z T.heap y C true) (hj : ¬ j < 0 ∧ j < z) (hi : j.toNatClampNeg = i) (hl : i < vs.length) (ha : Z.heap.size ≤ a) {pc' : Nat} (hp : pc + 1 = pc')
    (k : ∀ (T' : State), Wk l Z R bytes mL ret own nm p e s m args below meth c T' cells slots → Keep T.heap T'.heap [a] → Arv Z T'.heap a kA (.object C) z (vs.set i (.ref y)) .null → Ends p e below s Z Q cC cS T' (mkF m pc' Ls st)) : Ends p e below s Z Q cC cS T (mkF m pc Ls (.ref y :: .int j :: .ref a :: st)) := by
  subst hp; obtain ⟨q0, locs, Y, N, O⟩ := id X
  obtain ⟨cl, A, q1, S1, N1, H1, G1⟩ := V
  obtain ⟨T', h', Y', rfl, W, stp⟩ := stR Y X.hx X.hZ rfl A (j := j) (inb_of S1 hj) rfl (Sto.ofV A q1 Ov I) (g := mkF m pc Ls (.ref y :: .int j :: .ref a :: st)) rfl rfl (X.hb hd)
  exact E_by stp (k T' ⟨q0, _, Y', Fr.snoc Y' N ha, Keep.old O (Keep.of_wr W) (allS ha all0)⟩ (Keep.of_wr W) (Arv.set A q1 S1 N1 H1 G1 rfl W i hi hl))
theorem E_aastoreA (X : Wk l Z R bytes mL ret own nm p e s m args below meth c T cells slots) {a y : Addr} {kA : ClassId} {z j : Int32} {vs : List Value} {C : String} (hd : decode bytes pc = .ok (.aastore, 1)) (V : Arv Z T.heap a kA (.object C) z vs .null) (Ov : Ovr Z kA C) (I : Ins Z T.heap y C true) (hj : ¬ j < 0 ∧ j < z) (hi : j.toNatClampNeg = vs.length) (ha : Z.heap.size ≤ a) {pc' : Nat} (hp : pc + 1 = pc')
    (k : ∀ (T' : State), Wk l Z R bytes mL ret own nm p e s m args below meth c T' cells slots → Keep T.heap T'.heap [a] → Arv Z T'.heap a kA (.object C) z (vs ++ [.ref y]) .null → Ends p e below s Z Q cC cS T' (mkF m pc' Ls st)) : Ends p e below s Z Q cC cS T (mkF m pc Ls (.ref y :: .int j :: .ref a :: st)) := by
  refine E_aastore X vs.length hd (V.pad (pad_rep vs .null 1)) Ov I hj hi (by simp) ha hp fun T' X' K' V' => k T' X' K' ?_
  have q : (vs ++ List.replicate 1 Value.null).set vs.length (.ref y) = vs ++ [.ref y] := by simp
  rw [q] at V'; exact V'
theorem E_iastore (X : Wk l Z R bytes mL ret own nm p e s m args below meth c T cells slots) {a : Addr} {kA : ClassId} {z j x : Int32} {vs : List Value} {dv : Value} {y : Int32} (i : Nat) (hd : decode bytes pc = .ok (.iastore, 1)) (hy : x = y) (V : Arv Z T.heap a kA .int z vs dv) (hj : ¬ j < 0 ∧ j < z) (hi : j.toNatClampNeg = i) (hl : i < vs.length) (ha : Z.heap.size ≤ a) {pc' : Nat} (hp : pc + 1 = pc')
    (k : ∀ (T' : State), Wk l Z R bytes mL ret own nm p e s m args below meth c T' cells slots → Keep T.heap T'.heap [a] → Arv Z T'.heap a kA .int z (vs.set i (.int y)) dv → Ends p e below s Z Q cC cS T' (mkF m pc' Ls st)) : Ends p e below s Z Q cC cS T (mkF m pc Ls (.int x :: .int j :: .ref a :: st)) := by
  subst hp hy; obtain ⟨q0, locs, Y, N, O⟩ := id X
  obtain ⟨cl, A, q1, S1, N1, H1, G1⟩ := V
  obtain ⟨T', h', Y', rfl, W, stp⟩ := stI Y X.hx X.hZ rfl A (j := j) (x := x) (inb_of S1 hj) (g := mkF m pc Ls (.int x :: .int j :: .ref a :: st)) rfl rfl (X.hb hd)
  exact E_by stp (k T' ⟨q0, _, Y', Fr.snoc Y' N ha, Keep.old O (Keep.of_wr W) (allS ha all0)⟩ (Keep.of_wr W) (Arv.set A q1 S1 N1 H1 G1 (rfl) W i hi hl))
theorem E_castore (X : Wk l Z R bytes mL ret own nm p e s m args below meth c T cells slots) {a : Addr} {kA : ClassId} {z j x : Int32} {vs : List Value} {dv : Value} {y : Int32} (i : Nat) (hd : decode bytes pc = .ok (.castore, 1)) (hy : nar .char x = y) (V : Arv Z T.heap a kA .char z vs dv) (hj : ¬ j < 0 ∧ j < z) (hi : j.toNatClampNeg = i) (hl : i < vs.length) (ha : Z.heap.size ≤ a) {pc' : Nat} (hp : pc + 1 = pc')
    (k : ∀ (T' : State), Wk l Z R bytes mL ret own nm p e s m args below meth c T' cells slots → Keep T.heap T'.heap [a] → Arv Z T'.heap a kA .char z (vs.set i (.int y)) dv → Ends p e below s Z Q cC cS T' (mkF m pc' Ls st)) : Ends p e below s Z Q cC cS T (mkF m pc Ls (.int x :: .int j :: .ref a :: st)) := by
  subst hp hy; obtain ⟨q0, locs, Y, N, O⟩ := id X
  obtain ⟨cl, A, q1, S1, N1, H1, G1⟩ := V
  obtain ⟨T', h', Y', rfl, W, stp⟩ := stC Y X.hx X.hZ rfl A (j := j) (x := x) (inb_of S1 hj) (g := mkF m pc Ls (.int x :: .int j :: .ref a :: st)) rfl rfl (X.hb hd)
  exact E_by stp (k T' ⟨q0, _, Y', Fr.snoc Y' N ha, Keep.old O (Keep.of_wr W) (allS ha all0)⟩ (Keep.of_wr W) (Arv.set A q1 S1 N1 H1 G1 (fits_nar_char _) W i hi hl))
theorem E_bastore (X : Wk l Z R bytes mL ret own nm p e s m args below meth c T cells slots) {a : Addr} {kA : ClassId} {z j x : Int32} {vs : List Value} {dv : Value} {y : Int32} (i : Nat) (hd : decode bytes pc = .ok (.bastore, 1)) (hy : x.toInt8.toInt32 = y) (V : Arv Z T.heap a kA .byte z vs dv) (hj : ¬ j < 0 ∧ j < z) (hi : j.toNatClampNeg = i) (hl : i < vs.length) (ha : Z.heap.size ≤ a) {pc' : Nat} (hp : pc + 1 = pc')
    (k : ∀ (T' : State), Wk l Z R bytes mL ret own nm p e s m args below meth c T' cells slots → Keep T.heap T'.heap [a] → Arv Z T'.heap a kA .byte z (vs.set i (.int y)) dv → Ends p e below s Z Q cC cS T' (mkF m pc' Ls st)) : Ends p e below s Z Q cC cS T (mkF m pc Ls (.int x :: .int j :: .ref a :: st)) := by
  subst hp hy; obtain ⟨q0, locs, Y, N, O⟩ := id X
  obtain ⟨cl, A, q1, S1, N1, H1, G1⟩ := V
  obtain ⟨T', h', Y', rfl, W, stp⟩ := stB Y X.hx X.hZ rfl A (j := j) (x := x) (inb_of S1 hj) (g := mkF m pc Ls (.int x :: .int j :: .ref a :: st)) rfl rfl (X.hb hd)
  exact E_by stp (k T' ⟨q0, _, Y', Fr.snoc Y' N ha, Keep.old O (Keep.of_wr W) (allS ha all0)⟩ (Keep.of_wr W) (Arv.set A q1 S1 N1 H1 G1 (fits_nar_byte _) W i hi hl))
theorem E_iastoreA (X : Wk l Z R bytes mL ret own nm p e s m args below meth c T cells slots) {a : Addr} {kA : ClassId} {z j x : Int32} {vs : List Value} {dv : Value} {y : Int32} (hd : decode bytes pc = .ok (.iastore, 1)) (hy : x = y) (V : Arv Z T.heap a kA .int z vs dv) (hj : ¬ j < 0 ∧ j < z) (hi : j.toNatClampNeg = vs.length) (ha : Z.heap.size ≤ a) {pc' : Nat} (hp : pc + 1 = pc')
    (k : ∀ (T' : State), Wk l Z R bytes mL ret own nm p e s m args below meth c T' cells slots → Keep T.heap T'.heap [a] → Arv Z T'.heap a kA .int z (vs ++ [.int y]) dv → Ends p e below s Z Q cC cS T' (mkF m pc' Ls st)) : Ends p e below s Z Q cC cS T (mkF m pc Ls (.int x :: .int j :: .ref a :: st)) := by
  refine E_iastore X vs.length hd hy (V.pad (pad_rep vs dv 1)) hj hi (by simp) ha hp fun T' X' K' V' => k T' X' K' ?_
  have q : (vs ++ List.replicate 1 dv).set vs.length (.int y) = vs ++ [.int y] := by simp
  rw [q] at V'; exact V'
theorem E_castoreA (X : Wk l Z R bytes mL ret own nm p e s m args below meth c T cells slots) {a : Addr} {kA : ClassId} {z j x : Int32} {vs : List Value} {dv : Value} {y : Int32} (hd : decode bytes pc = .ok (.castore, 1)) (hy : nar .char x = y) (V : Arv Z T.heap a kA .char z vs dv) (hj : ¬ j < 0 ∧ j < z) (hi : j.toNatClampNeg = vs.length) (ha : Z.heap.size ≤ a) {pc' : Nat} (hp : pc + 1 = pc')
    (k : ∀ (T' : State), Wk l Z R bytes mL ret own nm p e s m args below meth c T' cells slots → Keep T.heap T'.heap [a] → Arv Z T'.heap a kA .char z (vs ++ [.int y]) dv → Ends p e below s Z Q cC cS T' (mkF m pc' Ls st)) : Ends p e below s Z Q cC cS T (mkF m pc Ls (.int x :: .int j :: .ref a :: st)) := by
  refine E_castore X vs.length hd hy (V.pad (pad_rep vs dv 1)) hj hi (by simp) ha hp fun T' X' K' V' => k T' X' K' ?_
  have q : (vs ++ List.replicate 1 dv).set vs.length (.int y) = vs ++ [.int y] := by simp
  rw [q] at V'; exact V'
theorem E_bastoreA (X : Wk l Z R bytes mL ret own nm p e s m args below meth c T cells slots) {a : Addr} {kA : ClassId} {z j x : Int32} {vs : List Value} {dv : Value} {y : Int32} (hd : decode bytes pc = .ok (.bastore, 1)) (hy : x.toInt8.toInt32 = y) (V : Arv Z T.heap a kA .byte z vs dv) (hj : ¬ j < 0 ∧ j < z) (hi : j.toNatClampNeg = vs.length) (ha : Z.heap.size ≤ a) {pc' : Nat} (hp : pc + 1 = pc')
    (k : ∀ (T' : State), Wk l Z R bytes mL ret own nm p e s m args below meth c T' cells slots → Keep T.heap T'.heap [a] → Arv Z T'.heap a kA .byte z (vs ++ [.int y]) dv → Ends p e below s Z Q cC cS T' (mkF m pc' Ls st)) : Ends p e below s Z Q cC cS T (mkF m pc Ls (.int x :: .int j :: .ref a :: st)) := by
  refine E_bastore X vs.length hd hy (V.pad (pad_rep vs dv 1)) hj hi (by simp) ha hp fun T' X' K' V' => k T' X' K' ?_
  have q : (vs ++ List.replicate 1 dv).set vs.length (.int y) = vs ++ [.int y] := by simp
  rw [q] at V'; exact V'
theorem E_iaload (X : Wk l Z R bytes mL ret own nm p e s m args below meth c T cells slots) {a : Addr} {kA : ClassId} {z j : Int32} {vs : List Value} {dv v : Value} (hd : decode bytes pc = .ok (.iaload, 1)) (V : Arv Z T.heap a kA .int z vs dv) (hj : ¬ j < 0 ∧ j < z) (hv : vs.getD j.toNatClampNeg dv = v) {pc' : Nat} (hp : pc + 1 = pc')
    (k : Ends p e below s Z Q cC cS T (mkF m pc' Ls (v :: st))) : Ends p e below s Z Q cC cS T (mkF m pc Ls (.int j :: .ref a :: st)) := by
  subst hp; obtain ⟨q0, locs, Y, N, O⟩ := id X
  obtain ⟨cl, A, q1, S1, N1, H1, G1⟩ := V
  exact E_by (Y.iaload X.hx A.1 (State.isArrayOf_alike X.hZ.alike A.2.1) A.2.2 (inb_of S1 hj) (Has.at H1 (inb_of S1 hj) hv) (g := mkF m pc Ls (.int j :: .ref a :: st)) rfl rfl (X.hb hd)) k
theorem E_caload (X : Wk l Z R bytes mL ret own nm p e s m args below meth c T cells slots) {a : Addr} {kA : ClassId} {z j : Int32} {vs : List Value} {dv v : Value} (hd : decode bytes pc = .ok (.caload, 1)) (V : Arv Z T.heap a kA .char z vs dv) (hj : ¬ j < 0 ∧ j < z) (hv : vs.getD j.toNatClampNeg dv = v) {pc' : Nat} (hp : pc + 1 = pc')
    (k : Ends p e below s Z Q cC cS T (mkF m pc' Ls (v :: st))) : Ends p e below s Z Q cC cS T (mkF m pc Ls (.int j :: .ref a :: st)) := by
  subst hp; obtain ⟨q0, locs, Y, N, O⟩ := id X
  obtain ⟨cl, A, q1, S1, N1, H1, G1⟩ := V
  exact E_by (Y.caload X.hx A.1 (State.isArrayOf_alike X.hZ.alike A.2.1) A.2.2 (inb_of S1 hj) (Has.at H1 (inb_of S1 hj) hv) (g := mkF m pc Ls (.int j :: .ref a :: st)) rfl rfl (X.hb hd)) k
theorem E_baload (X : Wk l Z R bytes mL ret own nm p e s m args below meth c T cells slots) {a : Addr} {kA : ClassId} {z j : Int32} {vs : List Value} {dv v : Value} (hd : decode bytes pc = .ok (.baload, 1)) (V : Arv Z T.heap a kA .byte z vs dv) (hj : ¬ j < 0 ∧ j < z) (hv : vs.getD j.toNatClampNeg dv = v) {pc' : Nat} (hp : pc + 1 = pc')
    (k : Ends p e below s Z Q cC cS T (mkF m pc' Ls (v :: st))) : Ends p e below s Z Q cC cS T (mkF m pc Ls (.int j :: .ref a :: st)) := by
  subst hp; obtain ⟨q0, locs, Y, N, O⟩ := id X
  obtain ⟨cl, A, q1, S1, N1, H1, G1⟩ := V
  exact E_by (Y.baloadBytes X.hx A.1 (State.isArrayOf_alike X.hZ.alike A.2.1) A.2.2 (inb_of S1 hj) (Has.at H1 (inb_of S1 hj) hv) (g := mkF m pc Ls (.int j :: .ref a :: st)) rfl rfl (X.hb hd)) k
theorem E_aaload (X : Wk l Z R bytes mL ret own nm p e s m args below meth c T cells slots) {a : Addr} {kA : ClassId} {z j : Int32} {vs : List Value} {dv v : Value} {ty : FieldType} (hd : decode bytes pc = .ok (.aaload, 1)) (V : Arv Z T.heap a kA ty z vs dv) (hty : ty.isReference = true) (hj : ¬ j < 0 ∧ j < z) (hv : vs.getD j.toNatClampNeg dv = v) {pc' : Nat} (hp : pc + 1 = pc')
    (k : Ends p e below s Z Q cC cS T (mkF m pc' Ls (v :: st))) : Ends p e below s Z Q cC cS T (mkF m pc Ls (.int j :: .ref a :: st)) := by
  subst hp; obtain ⟨q0, locs, Y, N, O⟩ := id X
  obtain ⟨cl, A, q1, S1, N1, H1, G1⟩ := V
  exact E_by (Y.aaload X.hx A.1 (State.isArrayOf_alike X.hZ.alike A.2.1) hty A.2.2 (inb_of S1 hj) (Has.at H1 (inb_of S1 hj) hv) (g := mkF m pc Ls (.int j :: .ref a :: st)) rfl rfl (X.hb hd)) k
theorem E_arraylength (X : Wk l Z R bytes mL ret own nm p e s m args below meth c T cells slots) {a : Addr} {kA : ClassId} {z : Int32} {vs : List Value} {dv : Value} {ty : FieldType} (hd : decode bytes pc = .ok (.arraylength, 1)) (V : Arv Z T.heap a kA ty z vs dv) {pc' : Nat} (hp : pc + 1 = pc')
    (k : Ends p e below s Z Q cC cS T (mkF m pc' Ls (.int z :: st))) : Ends p e below s Z Q cC cS T (mkF m pc Ls (.ref a :: st)) := by
  subst hp; obtain ⟨q0, locs, Y, N, O⟩ := id X
  obtain ⟨cl, A, q1, S1, N1, H1, G1⟩ := V
  refine E_by (Y.arraylength X.hx A.1 (State.isArrayOf_alike X.hZ.alike A.2.1) (g := mkF m pc Ls (.ref a :: st)) rfl rfl (X.hb hd)) ?_
  rw [len_of S1 N1]; exact k
theorem E_getfield (X : Wk l Z R bytes mL ret own nm p e s m args below meth c T cells slots) {a : Addr} {O n d R0 : String} {ix : Nat} {v : Value} (hd : decode bytes pc = .ok (.getfield ix, 3)) (w : (Jvm.Cond.fieldLink own ix R0 n d).before a0 Z = true) (via : Via Z R0 O n d) (F : Fld Z T.heap a O n d v) {pc' : Nat} (hp : pc + 3 = pc')
    (k : ∀ (T' : State), Wk l Z R bytes mL ret own nm p e s m args below meth c T' cells slots → T'.heap = T.heap → Ends p e below s Z Q cC cS T' (mkF m pc' Ls (v :: st))) : Ends p e below s Z Q cC cS T (mkF m pc Ls (.ref a :: st)) := by
  subst hp; obtain ⟨q0, locs, Y, N, Od⟩ := id X
  obtain ⟨T', Y', e1, stp⟩ := getF Y X.hx X.hZ X.hown (host := "") (Or.inl w) via rfl F (g := mkF m pc Ls (.ref a :: st)) rfl rfl (X.hb hd)
  exact E_by stp (k T' ⟨q0, locs, Y', N, e1 ▸ Od⟩ e1)
theorem E_getstatic (X : Wk l Z R bytes mL ret own nm p e s m args below meth c T cells slots) {O n d R0 : String} {ix : Nat} {v : Value} (hd : decode bytes pc = .ok (.getstatic ix, 3)) (w : (Jvm.Cond.fieldLink own ix R0 n d).before a0 Z = true) (via : Via Z R0 O n d) (F : Sta Z Z.heap O n d v) {pc' : Nat} (hp : pc + 3 = pc')
    (k : ∀ (T' : State), Wk l Z R bytes mL ret own nm p e s m args below meth c T' cells slots → T'.heap = T.heap → Ends p e below s Z Q cC cS T' (mkF m pc' Ls (v :: st))) : Ends p e below s Z Q cC cS T (mkF m pc Ls st) := by
  subst hp; obtain ⟨q0, locs, Y, N, Od⟩ := id X
  obtain ⟨T', Y', e1, stp⟩ := getS Y X.hx X.hZ (host := "") X.hown w via rfl (F.ext Od) (g := mkF m pc Ls st) rfl (X.hb hd)
  exact E_by stp (k T' ⟨q0, locs, Y', N, e1 ▸ Od⟩ e1)
theorem E_putfield (X : Wk l Z R bytes mL ret own nm p e s m args below meth c T cells slots) {a : Addr} {O n d R0 C : String} {ix kk : Nat} {v old : Value} {ty : FieldType} (hd : decode bytes pc = .ok (.putfield ix, 3)) (w : (Jvm.Cond.fieldLink own ix R0 n d).before a0 Z = true) (via : Via Z R0 O n d) (F : Fld Z T.heap a O n d old) (E : Exa Z T.heap a C) (L : (Jvm.Cond.lays C O n d).before a0 Z = true ∨ ((Jvm.Cond.laysFinal C O n d).before a0 Z = true ∧ own = O ∧ nm = "<init>")) (wi : (Jvm.Cond.instantiable C kk).before a0 Z = true) (hty : parseFieldDescriptor d = some ty) (hn : narrow ty v = v) (hf : fits ty v = true) (ha : Z.heap.size ≤ a) {pc' : Nat} (hp : pc + 3 = pc')
    (k : ∀ (T' : State), Wk l Z R bytes mL ret own nm p e s m args below meth c T' cells slots → Wr T.heap T'.heap a (Jvm.RoadKit.slotOf Z O n d) v → Ends p e below s Z Q cC cS T' (mkF m pc' Ls st)) : Ends p e below s Z Q cC cS T (mkF m pc Ls (v :: .ref a :: st)) := by
  subst hp; obtain ⟨q0, locs, Y, N, Od⟩ := id X
  obtain ⟨T', h', Y', rfl, W, stp⟩ := putF Y X.hx X.hZ X.hown (host := "") (Or.inl w) via rfl F E (L.imp id fun q => ⟨q.1, q.2.1, q0.2.2.2.2.2.2.1.trans q.2.2⟩) wi hty hn hf (g := mkF m pc Ls (v :: .ref a :: st)) rfl rfl (X.hb hd)
  exact E_by stp (k T' ⟨q0, _, Y', Fr.snoc Y' N ha, Keep.old Od (Keep.of_wr W) (allS ha all0)⟩ W)
theorem E_initO (X : Wk l Z R bytes mL ret own nm p e s m args below meth c T cells slots) {a : Addr} {ix : Nat} (hd : decode bytes pc = .ok (.invokespecial ix, 3)) (w1 : (Jvm.Cond.methodLink own ix Lib.objectInit).before a0 Z = true) (w2 : (Jvm.Cond.instanceMethod Lib.objectInit).before a0 Z = true) (w3 : (Jvm.Cond.code Lib.objectInit ⟨#[0xb1]⟩ 1 none).before a0 Z = true) (hsz : Ls.size = mL) (hf : 1 ≤ R.frames) (hl : (st.map fun v => v.category).sum + 12 ≤ R.locals) {pc' : Nat} (hp : pc + 3 = pc')
    (k : ∀ (T' : State), Wk l Z R bytes mL ret own nm p e s m args below meth c T' cells slots → T'.heap = T.heap → Ends p e below s Z Q cC cS T' (mkF m pc' Ls st)) : Ends p e below s Z Q cC cS T (mkF m pc Ls (.ref a :: st)) := by
  subst hp; obtain ⟨q0, locs, Y, N, Od⟩ := id X
  obtain ⟨T', Y', e1, stp⟩ := initO Y X.hx X.hZ X.hown w1 w2 w3 rfl (g := mkF m pc Ls (.ref a :: st)) rfl (X.size hsz) rfl (X.hb hd) hf (W := (st.map fun v => v.category).sum) (by show 2 * 0 + _ ≤ _; omega) hl
  exact E_by stp (k T' ⟨q0, locs, Y', N, e1 ▸ Od⟩ e1)
theorem E_checkcast (X : Wk l Z R bytes mL ret own nm p e s m args below meth c T cells slots) {a : Addr} {K : String} {ix : Nat} (hd : decode bytes pc = .ok (.checkcast ix, 3)) (w : (Jvm.Cond.classLink own ix K).before a0 Z = true) (F : Ins Z T.heap a K true) {pc' : Nat} (hp : pc + 3 = pc')
    (k : ∀ (T' : State), Wk l Z R bytes mL ret own nm p e s m args below meth c T' cells slots → T'.heap = T.heap → Ends p e below s Z Q cC cS T' (mkF m pc' Ls (.ref a :: st))) : Ends p e below s Z Q cC cS T (mkF m pc Ls (.ref a :: st)) := by
  subst hp; obtain ⟨q0, locs, Y, N, Od⟩ := id X
  obtain ⟨T', Y', e1, stp⟩ := castY Y X.hx X.hZ X.hown w rfl F (g := mkF m pc Ls (.ref a :: st)) rfl rfl (X.hb hd)
  exact E_by stp (k T' ⟨q0, locs, Y', N, e1 ▸ Od⟩ e1)
theorem E_instY (X : Wk l Z R bytes mL ret own nm p e s m args below meth c T cells slots) {a : Addr} {K : String} {ix : Nat} (hd : decode bytes pc = .ok (.instanceof ix, 3)) (w : (Jvm.Cond.classLink own ix K).before a0 Z = true) (F : Ins Z T.heap a K true) {pc' : Nat} (hp : pc + 3 = pc')
    (k : ∀ (T' : State), Wk l Z R bytes mL ret own nm p e s m args below meth c T' cells slots → T'.heap = T.heap → Ends p e below s Z Q cC cS T' (mkF m pc' Ls (.int 1 :: st))) : Ends p e below s Z Q cC cS T (mkF m pc Ls (.ref a :: st)) := by
  subst hp; obtain ⟨q0, locs, Y, N, Od⟩ := id X
  obtain ⟨T', Y', e1, stp⟩ := instY Y X.hx X.hZ X.hown w rfl F (g := mkF m pc Ls (.ref a :: st)) rfl rfl (X.hb hd)
  exact E_by stp (k T' ⟨q0, locs, Y', N, e1 ▸ Od⟩ e1)
theorem E_staticB (X : Wk l Z R bytes mL ret own nm p e s m args below meth c T cells slots) {y : MethodName} {ix : Nat} {bytes' : ByteArray} {mL' : Nat} {ret' : Option FieldType} {Q' : Option Value → Heap → Prop} {argsL : List Value} {Q2 : Option Value → Heap → List Loc → Prop} {rC rS : Nat} (hd : decode bytes pc = .ok (.invokestatic ix, 3)) (w1 : (Jvm.Cond.methodLink own ix y).before a0 Z = true) (w2 : (Jvm.Cond.static y).before a0 Z = true) (w3 : (Jvm.Cond.initialized y.cls).before a0 Z = true) (w4 : (Jvm.Cond.code y bytes' mL' ret').before a0 Z = true) (hy : y.cls ≠ "java/lang/invoke/MethodHandle" ∧ y.cls ≠ "java/lang/invoke/VarHandle") {st0 : List Value} (hst : st0 = argsL.reverse ++ st) (hK : Back l R p e below s args y 3 ((st.map fun v => v.category).sum) (fun A aa => aa = argsL.toArray ∧ A.U.heap = T.heap ∧ A.cells + rC ≤ R.cells ∧ A.slots + rS ≤ R.slots) (fun A _ v B => ∃ L, Q2 v B.U.heap L ∧ B.locs = A.locs ++ L ∧ B.cells = A.cells + rC ∧ B.slots = A.slots + rS)) (hQ2 : ∀ v h L, Q2 v h L → Fr Z.heap.size L ∧ Ext Z.heap h ∧ Q' v h) (hlen : ∀ sig, parseMethodDescriptor y.desc = some sig → argsL.length = sig.parameters.length) (hsz : Ls.size = mL) (hcl : cells + rC ≤ R.cells) (hsl : slots + rS ≤ R.slots) {pc' : Nat} (hp : pc + 3 = pc')
    (k : ∀ (T' : State) (v : Option Value), Wk l Z R bytes mL ret own nm p e s m args below meth c T' (cells + rC) (slots + rS) → Q' v T'.heap → Ends p e below s Z Q cC cS T' (mkF m pc' Ls (v.toList ++ st))) : Ends p e below s Z Q cC cS T (mkF m pc Ls st0) := by
  subst hp hst; obtain ⟨q0, locs, Y, N, Od⟩ := id X
  obtain ⟨v, _, ⟨T', L1, k1, n1⟩, -, Y', ⟨Lc, hQ, l1, y1, z1⟩, stp⟩ := Jvm.LawKit.callS Y X.hx (y := y) X.hown (mvT X.hZ w1) (mvT X.hZ w2) (mvT X.hZ w3) (mvT X.hZ w4) hy hK (g := mkF m pc Ls (argsL.reverse ++ st)) rfl (X.size hsz) (argsL := argsL) (rest := st) hlen rfl (by show 2 * 0 + _ ≤ _; omega) (X.hb hd) (fun _ _ => ⟨rfl, rfl, hcl, hsl⟩)
  dsimp only [Pt.U, Pt.locs, Pt.cells, Pt.slots] at Y' l1 y1 z1 stp hQ
  subst l1 y1 z1
  obtain ⟨f1, f2, f3⟩ := hQ2 _ _ _ hQ
  exact E_by stp (k T' v ⟨q0, _, Y', Fr.app N f1, f2⟩ f3)
theorem E_static (X : Wk l Z R bytes mL ret own nm p e s m args below meth c T cells slots) {y : MethodName} {ix : Nat} {bytes' : ByteArray} {mL' : Nat} {ret' : Option FieldType} {Q' : Option Value → Heap → Prop} {argsL : List Value} {rm : Room} (hd : decode bytes pc = .ok (.invokestatic ix, 3)) (w1 : (Jvm.Cond.methodLink own ix y).before a0 Z = true) (w2 : (Jvm.Cond.static y).before a0 Z = true) (w3 : (Jvm.Cond.initialized y.cls).before a0 Z = true) (w4 : (Jvm.Cond.code y bytes' mL' ret').before a0 Z = true) (hy : y.cls ≠ "java/lang/invoke/MethodHandle" ∧ y.cls ≠ "java/lang/invoke/VarHandle")  {st0 : List Value} (hst : st0 = argsL.reverse ++ st) (hC : Ct l Z y bytes' mL' ret' rm argsL.toArray T.heap Q') (hlen : ∀ sig, parseMethodDescriptor y.desc = some sig → argsL.length = sig.parameters.length) (hsz : Ls.size = mL) (hcl : cells + rm.cells ≤ R.cells) (hsl : slots + rm.slots ≤ R.slots) (hfr : rm.frames + 1 ≤ R.frames) (hlo : (st.map fun v => v.category).sum + (mL' + 11) + rm.locals ≤ R.locals) {pc' : Nat} (hp : pc + 3 = pc')
    (k : ∀ (T' : State) (v : Option Value), Wk l Z R bytes mL ret own nm p e s m args below meth c T' (cells + rm.cells) (slots + rm.slots) → Q' v T'.heap → Ends p e below s Z Q cC cS T' (mkF m pc' Ls (v.toList ++ st))) : Ends p e below s Z Q cC cS T (mkF m pc Ls st0) :=
  E_staticB X hd w1 w2 w3 w4 hy hst (hC.back X.hZ w4 w3 hfr hlo) (fun _ _ _ q => q) hlen hsz hcl hsl hp k
theorem E_specialB (X : Wk l Z R bytes mL ret own nm p e s m args below meth c T cells slots) {y : MethodName} {ix : Nat} {bytes' : ByteArray} {mL' : Nat} {ret' : Option FieldType} {Q' : Option Value → Heap → Prop} {argsL : List Value} {Q2 : Option Value → Heap → List Loc → Prop} {rC rS : Nat} {a : Addr} (hd : decode bytes pc = .ok (.invokespecial ix, 3)) (hy1 : y.name = "<init>") (hret : ret' = none) (w1 : (Jvm.Cond.methodLink own ix y).before a0 Z = true) (w2 : (Jvm.Cond.instanceMethod y).before a0 Z = true) (w4 : (Jvm.Cond.code y bytes' mL' ret').before a0 Z = true) (hy : y.cls ≠ "java/lang/invoke/MethodHandle" ∧ y.cls ≠ "java/lang/invoke/VarHandle") {st0 : List Value} (hst : st0 = argsL.reverse ++ .ref a :: st) (hK : Back l R p e below s args y 3 ((st.map fun v => v.category).sum) (fun A aa => aa = (.ref a :: argsL).toArray ∧ A.U.heap = T.heap ∧ A.cells + rC ≤ R.cells ∧ A.slots + rS ≤ R.slots) (fun A _ v B => ∃ L, Q2 v B.U.heap L ∧ B.locs = A.locs ++ L ∧ B.cells = A.cells + rC ∧ B.slots = A.slots + rS)) (hQ2 : ∀ v h L, Q2 v h L → Fr Z.heap.size L ∧ Ext Z.heap h ∧ Q' v h) (hlen : ∀ sig, parseMethodDescriptor y.desc = some sig → argsL.length = sig.parameters.length) (hsz : Ls.size = mL) (hcl : cells + rC ≤ R.cells) (hsl : slots + rS ≤ R.slots) {pc' : Nat} (hp : pc + 3 = pc')
    (k : ∀ (T' : State) (v : Option Value), Wk l Z R bytes mL ret own nm p e s m args below meth c T' (cells + rC) (slots + rS) → Q' v T'.heap → Ends p e below s Z Q cC cS T' (mkF m pc' Ls (v.toList ++ st))) : Ends p e below s Z Q cC cS T (mkF m pc Ls st0) := by
  subst hp hst; obtain ⟨q0, locs, Y, N, Od⟩ := id X
  subst hret
  obtain ⟨v, _, ⟨T', L1, k1, n1⟩, -, Y', ⟨Lc, hQ, l1, y1, z1⟩, stp⟩ := Y.specialBack X.hx (y := y) hy1 X.hown (mvT X.hZ w1) (mvT X.hZ w2) (mvT X.hZ w4) hy hK (g := mkF m pc Ls (argsL.reverse ++ .ref a :: st)) rfl (X.size hsz) (Steps.refl _) (a := a) (argsL := argsL) (rest := st) hlen rfl (by show 2 * 0 + _ ≤ _; omega) (X.hb hd) (fun _ _ => ⟨rfl, rfl, hcl, hsl⟩)
  dsimp only [Pt.U, Pt.locs, Pt.cells, Pt.slots] at Y' l1 y1 z1 stp hQ
  subst l1 y1 z1
  obtain ⟨f1, f2, f3⟩ := hQ2 _ _ _ hQ
  exact E_tr stp (k T' v ⟨q0, _, Y', Fr.app N f1, f2⟩ f3)
theorem E_special (X : Wk l Z R bytes mL ret own nm p e s m args below meth c T cells slots) {y : MethodName} {ix : Nat} {bytes' : ByteArray} {mL' : Nat} {ret' : Option FieldType} {Q' : Option Value → Heap → Prop} {argsL : List Value} {rm : Room} {a : Addr} (hd : decode bytes pc = .ok (.invokespecial ix, 3)) (hy1 : y.name = "<init>") (hret : ret' = none) (w1 : (Jvm.Cond.methodLink own ix y).before a0 Z = true) (w2 : (Jvm.Cond.instanceMethod y).before a0 Z = true) (w4 : (Jvm.Cond.code y bytes' mL' ret').before a0 Z = true) (hy : y.cls ≠ "java/lang/invoke/MethodHandle" ∧ y.cls ≠ "java/lang/invoke/VarHandle") (w3 : (Jvm.Cond.initialized y.cls).before a0 Z = true) {st0 : List Value} (hst : st0 = argsL.reverse ++ .ref a :: st) (hC : Ct l Z y bytes' mL' ret' rm (.ref a :: argsL).toArray T.heap Q') (hlen : ∀ sig, parseMethodDescriptor y.desc = some sig → argsL.length = sig.parameters.length) (hsz : Ls.size = mL) (hcl : cells + rm.cells ≤ R.cells) (hsl : slots + rm.slots ≤ R.slots) (hfr : rm.frames + 1 ≤ R.frames) (hlo : (st.map fun v => v.category).sum + (mL' + 11) + rm.locals ≤ R.locals) {pc' : Nat} (hp : pc + 3 = pc')
    (k : ∀ (T' : State) (v : Option Value), Wk l Z R bytes mL ret own nm p e s m args below meth c T' (cells + rm.cells) (slots + rm.slots) → Q' v T'.heap → Ends p e below s Z Q cC cS T' (mkF m pc' Ls (v.toList ++ st))) : Ends p e below s Z Q cC cS T (mkF m pc Ls st0) :=
  E_specialB X hd hy1 hret w1 w2 w4 hy hst (hC.back X.hZ w4 w3 hfr hlo) (fun _ _ _ q => q) hlen hsz hcl hsl hp k
theorem E_virtualB (X : Wk l Z R bytes mL ret own nm p e s m args below meth c T cells slots) {y : MethodName} {ix : Nat} {Q' : Option Value → Heap → Prop} {argsL : List Value} {Q2 : Option Value → Heap → List Loc → Prop} {rC rS : Nat} {a : Addr} {z : MethodName} {D : String} (hd : decode bytes pc = .ok (.invokevirtual ix, 3)) (w1 : (Jvm.Cond.methodLink own ix y).before a0 Z = true) (w2 : (Jvm.Cond.declares y).before a0 Z = true) (w5 : (Jvm.Cond.selects D y z).before a0 Z = true) (w6 : (Jvm.Cond.instanceMethod z).before a0 Z = true) (hnf : NotFace s y) (hy : y.cls ≠ "java/lang/invoke/MethodHandle" ∧ y.cls ≠ "java/lang/invoke/VarHandle") (E : Exa Z T.heap a D) {st0 : List Value} (hst : st0 = argsL.reverse ++ .ref a :: st) (hK : Back l R p e below s args z 3 ((st.map fun v => v.category).sum) (fun A aa => aa = (.ref a :: argsL).toArray ∧ A.U.heap = T.heap ∧ A.cells + rC ≤ R.cells ∧ A.slots + rS ≤ R.slots) (fun A _ v B => ∃ L, Q2 v B.U.heap L ∧ B.locs = A.locs ++ L ∧ B.cells = A.cells + rC ∧ B.slots = A.slots + rS)) (hQ2 : ∀ v h L, Q2 v h L → Fr Z.heap.size L ∧ Ext Z.heap h ∧ Q' v h) (hlen : ∀ sig, parseMethodDescriptor y.desc = some sig → argsL.length = sig.parameters.length) (hsz : Ls.size = mL) (hcl : cells + rC ≤ R.cells) (hsl : slots + rS ≤ R.slots) {pc' : Nat} (hp : pc + 3 = pc')
    (k : ∀ (T' : State) (v : Option Value), Wk l Z R bytes mL ret own nm p e s m args below meth c T' (cells + rC) (slots + rS) → Q' v T'.heap → Ends p e below s Z Q cC cS T' (mkF m pc' Ls (v.toList ++ st))) : Ends p e below s Z Q cC cS T (mkF m pc Ls st0) := by
  subst hp hst; obtain ⟨q0, locs, Y, N, Od⟩ := id X
  obtain ⟨cq, kq, qa, qb, qc⟩ := isOf X.hZ rfl E
  obtain ⟨v, _, ⟨T', L1, k1, n1⟩, -, Y', ⟨Lc, hQ, l1, y1, z1⟩, stp⟩ := Y.virtualBack X.hx (y := y) (z := z) X.hown (mvT X.hZ w1) (mvT X.hZ w2) hnf (mvT X.hZ w5) (mvT X.hZ w6) hy hK qa qc (g := mkF m pc Ls (argsL.reverse ++ .ref a :: st)) rfl (X.size hsz) (Steps.refl _) (argsL := argsL) (rest := st) hlen rfl (by show 2 * 0 + _ ≤ _; omega) (X.hb hd) (fun _ _ => ⟨rfl, rfl, hcl, hsl⟩)
  dsimp only [Pt.U, Pt.locs, Pt.cells, Pt.slots] at Y' l1 y1 z1 stp hQ
  subst l1 y1 z1
  obtain ⟨f1, f2, f3⟩ := hQ2 _ _ _ hQ
  exact E_tr stp (k T' v ⟨q0, _, Y', Fr.app N f1, f2⟩ f3)
theorem E_virtual (X : Wk l Z R bytes mL ret own nm p e s m args below meth c T cells slots) {y : MethodName} {ix : Nat} {bytes' : ByteArray} {mL' : Nat} {ret' : Option FieldType} {Q' : Option Value → Heap → Prop} {argsL : List Value} {rm : Room} {a : Addr} {z : MethodName} {D : String} (hd : decode bytes pc = .ok (.invokevirtual ix, 3)) (w1 : (Jvm.Cond.methodLink own ix y).before a0 Z = true) (w2 : (Jvm.Cond.declares y).before a0 Z = true) (w5 : (Jvm.Cond.selects D y z).before a0 Z = true) (w6 : (Jvm.Cond.instanceMethod z).before a0 Z = true) (hnf : NotFace s y) (hy : y.cls ≠ "java/lang/invoke/MethodHandle" ∧ y.cls ≠ "java/lang/invoke/VarHandle") (E : Exa Z T.heap a D) (w3 : (Jvm.Cond.initialized z.cls).before a0 Z = true) (w4 : (Jvm.Cond.code z bytes' mL' ret').before a0 Z = true) {st0 : List Value} (hst : st0 = argsL.reverse ++ .ref a :: st) (hC : Ct l Z z bytes' mL' ret' rm (.ref a :: argsL).toArray T.heap Q') (hlen : ∀ sig, parseMethodDescriptor y.desc = some sig → argsL.length = sig.parameters.length) (hsz : Ls.size = mL) (hcl : cells + rm.cells ≤ R.cells) (hsl : slots + rm.slots ≤ R.slots) (hfr : rm.frames + 1 ≤ R.frames) (hlo : (st.map fun v => v.category).sum + (mL' + 11) + rm.locals ≤ R.locals) {pc' : Nat} (hp : pc + 3 = pc')
    (k : ∀ (T' : State) (v : Option Value), Wk l Z R bytes mL ret own nm p e s m args below meth c T' (cells + rm.cells) (slots + rm.slots) → Q' v T'.heap → Ends p e below s Z Q cC cS T' (mkF m pc' Ls (v.toList ++ st))) : Ends p e below s Z Q cC cS T (mkF m pc Ls st0) :=
  E_virtualB X hd w1 w2 w5 w6 hnf hy E hst (hC.back X.hZ w4 w3 hfr hlo) (fun _ _ _ q => q) hlen hsz hcl hsl hp k
theorem E_privateB (X : Wk l Z R bytes mL ret own nm p e s m args below meth c T cells slots) {y : MethodName} {ix : Nat} {bytes' : ByteArray} {mL' : Nat} {ret' : Option FieldType} {Q' : Option Value → Heap → Prop} {argsL : List Value} {Q2 : Option Value → Heap → List Loc → Prop} {rC rS : Nat} {a : Addr} {D : String} (hd : decode bytes pc = .ok (.invokevirtual ix, 3)) (w1 : (Jvm.Cond.methodLink own ix y).before a0 Z = true) (w6 : (Jvm.Cond.instanceMethod y).before a0 Z = true) (w5 : (Jvm.Cond.selects y.cls y y).before a0 Z = true) (wp : (Jvm.Cond.privateMethod y).before a0 Z = true) (w4 : (Jvm.Cond.code y bytes' mL' ret').before a0 Z = true) (hy : y.cls ≠ "java/lang/invoke/MethodHandle" ∧ y.cls ≠ "java/lang/invoke/VarHandle") (E : Exa Z T.heap a D) {st0 : List Value} (hst : st0 = argsL.reverse ++ .ref a :: st) (hK : Back l R p e below s args y 3 ((st.map fun v => v.category).sum) (fun A aa => aa = (.ref a :: argsL).toArray ∧ A.U.heap = T.heap ∧ A.cells + rC ≤ R.cells ∧ A.slots + rS ≤ R.slots) (fun A _ v B => ∃ L, Q2 v B.U.heap L ∧ B.locs = A.locs ++ L ∧ B.cells = A.cells + rC ∧ B.slots = A.slots + rS)) (hQ2 : ∀ v h L, Q2 v h L → Fr Z.heap.size L ∧ Ext Z.heap h ∧ Q' v h) (hlen : ∀ sig, parseMethodDescriptor y.desc = some sig → argsL.length = sig.parameters.length) (hsz : Ls.size = mL) (hcl : cells + rC ≤ R.cells) (hsl : slots + rS ≤ R.slots) {pc' : Nat} (hp : pc + 3 = pc')
    (k : ∀ (T' : State) (v : Option Value), Wk l Z R bytes mL ret own nm p e s m args below meth c T' (cells + rC) (slots + rS) → Q' v T'.heap → Ends p e below s Z Q cC cS T' (mkF m pc' Ls (v.toList ++ st))) : Ends p e below s Z Q cC cS T (mkF m pc Ls st0) := by
  subst hp hst; obtain ⟨q0, locs, Y, N, Od⟩ := id X
  obtain ⟨cell, kk, e1, -, -, e4, -⟩ := E
  obtain ⟨v, _, ⟨T', L1, k1, n1⟩, -, Y', ⟨Lc, hQ, l1, y1, z1⟩, stp⟩ := Y.privateBack X.hx (y := y) X.hown (mvT X.hZ w1) (mvT X.hZ w6) (mvT X.hZ w5) (Cond.privateMethod_at (mvP (args := args) X.hZ wp)) (mvT X.hZ w4) hy hK (g := mkF m pc Ls (argsL.reverse ++ .ref a :: st)) rfl (X.size hsz) (Steps.refl _) (a := a) e1 (fun q z => by rw [z] at e4; cases e4) (argsL := argsL) (rest := st) hlen rfl (by show 2 * 0 + _ ≤ _; omega) (X.hb hd) (fun _ _ => ⟨rfl, rfl, hcl, hsl⟩)
  dsimp only [Pt.U, Pt.locs, Pt.cells, Pt.slots] at Y' l1 y1 z1 stp hQ
  subst l1 y1 z1
  obtain ⟨f1, f2, f3⟩ := hQ2 _ _ _ hQ
  exact E_tr stp (k T' v ⟨q0, _, Y', Fr.app N f1, f2⟩ f3)
theorem E_private (X : Wk l Z R bytes mL ret own nm p e s m args below meth c T cells slots) {y : MethodName} {ix : Nat} {bytes' : ByteArray} {mL' : Nat} {ret' : Option FieldType} {Q' : Option Value → Heap → Prop} {argsL : List Value} {rm : Room} {a : Addr} {D : String} (hd : decode bytes pc = .ok (.invokevirtual ix, 3)) (w1 : (Jvm.Cond.methodLink own ix y).before a0 Z = true) (w6 : (Jvm.Cond.instanceMethod y).before a0 Z = true) (w5 : (Jvm.Cond.selects y.cls y y).before a0 Z = true) (wp : (Jvm.Cond.privateMethod y).before a0 Z = true) (w4 : (Jvm.Cond.code y bytes' mL' ret').before a0 Z = true) (hy : y.cls ≠ "java/lang/invoke/MethodHandle" ∧ y.cls ≠ "java/lang/invoke/VarHandle") (E : Exa Z T.heap a D) (w3 : (Jvm.Cond.initialized y.cls).before a0 Z = true) {st0 : List Value} (hst : st0 = argsL.reverse ++ .ref a :: st) (hC : Ct l Z y bytes' mL' ret' rm (.ref a :: argsL).toArray T.heap Q') (hlen : ∀ sig, parseMethodDescriptor y.desc = some sig → argsL.length = sig.parameters.length) (hsz : Ls.size = mL) (hcl : cells + rm.cells ≤ R.cells) (hsl : slots + rm.slots ≤ R.slots) (hfr : rm.frames + 1 ≤ R.frames) (hlo : (st.map fun v => v.category).sum + (mL' + 11) + rm.locals ≤ R.locals) {pc' : Nat} (hp : pc + 3 = pc')
    (k : ∀ (T' : State) (v : Option Value), Wk l Z R bytes mL ret own nm p e s m args below meth c T' (cells + rm.cells) (slots + rm.slots) → Q' v T'.heap → Ends p e below s Z Q cC cS T' (mkF m pc' Ls (v.toList ++ st))) : Ends p e below s Z Q cC cS T (mkF m pc Ls st0) :=
  E_privateB X hd w1 w6 w5 wp w4 hy E hst (hC.back X.hZ w4 w3 hfr hlo) (fun _ _ _ q => q) hlen hsz hcl hsl hp k
theorem E_interfaceB (X : Wk l Z R bytes mL ret own nm p e s m args below meth c T cells slots) {y : MethodName} {ix : Nat} {Q' : Option Value → Heap → Prop} {argsL : List Value} {Q2 : Option Value → Heap → List Loc → Prop} {rC rS : Nat} {a : Addr} {z : MethodName} {D : String} {ct : Nat} (hd : decode bytes pc = .ok (.invokeinterface ix ct, 5)) (w1 : (Jvm.Cond.methodLink own ix y).before a0 Z = true) (w2 : (Jvm.Cond.declares y).before a0 Z = true) (w5 : (Jvm.Cond.selects D y z).before a0 Z = true) (w6 : (Jvm.Cond.instanceMethod z).before a0 Z = true) (w7 : (Jvm.Cond.interfaceMethod y.cls y.cls y.name y.desc).before a0 Z = true) (hif : ((Jvm.Cond.interfaceMethod y.cls y.cls y.name y.desc).onTables && (Jvm.Cond.interfaceMethod y.cls y.cls y.name y.desc).keepsFace) = true) (w8 : (Jvm.Cond.publicMethod z).before a0 Z = true) (w9 : (Jvm.Cond.unhidden D y.name y.desc).before a0 Z = true) (wc : (Jvm.Cond.castable D y.cls).before a0 Z = true) (hy : y.cls ≠ "java/lang/invoke/MethodHandle" ∧ y.cls ≠ "java/lang/invoke/VarHandle") (E : Exa Z T.heap a D) {st0 : List Value} (hst : st0 = argsL.reverse ++ .ref a :: st) (hK : Back l R p e below s args z 5 ((st.map fun v => v.category).sum) (fun A aa => aa = (.ref a :: argsL).toArray ∧ A.U.heap = T.heap ∧ A.cells + rC ≤ R.cells ∧ A.slots + rS ≤ R.slots) (fun A _ v B => ∃ L, Q2 v B.U.heap L ∧ B.locs = A.locs ++ L ∧ B.cells = A.cells + rC ∧ B.slots = A.slots + rS)) (hQ2 : ∀ v h L, Q2 v h L → Fr Z.heap.size L ∧ Ext Z.heap h ∧ Q' v h) (hlen : ∀ sig, parseMethodDescriptor y.desc = some sig → argsL.length = sig.parameters.length) (hsz : Ls.size = mL) (hcl : cells + rC ≤ R.cells) (hsl : slots + rS ≤ R.slots) {pc' : Nat} (hp : pc + 5 = pc')
    (k : ∀ (T' : State) (v : Option Value), Wk l Z R bytes mL ret own nm p e s m args below meth c T' (cells + rC) (slots + rS) → Q' v T'.heap → Ends p e below s Z Q cC cS T' (mkF m pc' Ls (v.toList ++ st))) : Ends p e below s Z Q cC cS T (mkF m pc Ls st0) := by
  subst hp hst; obtain ⟨q0, locs, Y, N, Od⟩ := id X
  obtain ⟨cq, kq, qa, qb, qc⟩ := isOf X.hZ rfl E
  obtain ⟨v, _, ⟨T', L1, k1, n1⟩, -, Y', ⟨Lc, hQ, l1, y1, z1⟩, stp⟩ := Y.interfaceBack X.hx (xi := y) (y := z) X.hown (mvT X.hZ w1) (mvT X.hZ w2) (mvT X.hZ w7 hif) (mvT X.hZ w5) (mvT X.hZ w6) (mvT X.hZ w8) (mvT X.hZ w9) (mvT X.hZ wc) hy hK qa qb qc (g := mkF m pc Ls (argsL.reverse ++ .ref a :: st)) rfl (X.size hsz) (Steps.refl _) (argsL := argsL) (rest := st) hlen rfl (by show 2 * 0 + _ ≤ _; omega) (X.hb hd) (fun _ _ => ⟨rfl, rfl, hcl, hsl⟩)
  dsimp only [Pt.U, Pt.locs, Pt.cells, Pt.slots] at Y' l1 y1 z1 stp hQ
  subst l1 y1 z1
  obtain ⟨f1, f2, f3⟩ := hQ2 _ _ _ hQ
  exact E_tr stp (k T' v ⟨q0, _, Y', Fr.app N f1, f2⟩ f3)
theorem E_interface (X : Wk l Z R bytes mL ret own nm p e s m args below meth c T cells slots) {y : MethodName} {ix : Nat} {bytes' : ByteArray} {mL' : Nat} {ret' : Option FieldType} {Q' : Option Value → Heap → Prop} {argsL : List Value} {rm : Room} {a : Addr} {z : MethodName} {D : String} {ct : Nat} (hd : decode bytes pc = .ok (.invokeinterface ix ct, 5)) (w1 : (Jvm.Cond.methodLink own ix y).before a0 Z = true) (w2 : (Jvm.Cond.declares y).before a0 Z = true) (w5 : (Jvm.Cond.selects D y z).before a0 Z = true) (w6 : (Jvm.Cond.instanceMethod z).before a0 Z = true) (w7 : (Jvm.Cond.interfaceMethod y.cls y.cls y.name y.desc).before a0 Z = true) (hif : ((Jvm.Cond.interfaceMethod y.cls y.cls y.name y.desc).onTables && (Jvm.Cond.interfaceMethod y.cls y.cls y.name y.desc).keepsFace) = true) (w8 : (Jvm.Cond.publicMethod z).before a0 Z = true) (w9 : (Jvm.Cond.unhidden D y.name y.desc).before a0 Z = true) (wc : (Jvm.Cond.castable D y.cls).before a0 Z = true) (hy : y.cls ≠ "java/lang/invoke/MethodHandle" ∧ y.cls ≠ "java/lang/invoke/VarHandle") (E : Exa Z T.heap a D) (w3 : (Jvm.Cond.initialized z.cls).before a0 Z = true) (w4 : (Jvm.Cond.code z bytes' mL' ret').before a0 Z = true) {st0 : List Value} (hst : st0 = argsL.reverse ++ .ref a :: st) (hC : Ct l Z z bytes' mL' ret' rm (.ref a :: argsL).toArray T.heap Q') (hlen : ∀ sig, parseMethodDescriptor y.desc = some sig → argsL.length = sig.parameters.length) (hsz : Ls.size = mL) (hcl : cells + rm.cells ≤ R.cells) (hsl : slots + rm.slots ≤ R.slots) (hfr : rm.frames + 1 ≤ R.frames) (hlo : (st.map fun v => v.category).sum + (mL' + 11) + rm.locals ≤ R.locals) {pc' : Nat} (hp : pc + 5 = pc')
    (k : ∀ (T' : State) (v : Option Value), Wk l Z R bytes mL ret own nm p e s m args below meth c T' (cells + rm.cells) (slots + rm.slots) → Q' v T'.heap → Ends p e below s Z Q cC cS T' (mkF m pc' Ls (v.toList ++ st))) : Ends p e below s Z Q cC cS T (mkF m pc Ls st0) :=
  E_interfaceB X hd w1 w2 w5 w6 w7 hif w8 w9 wc hy E hst (hC.back X.hZ w4 w3 hfr hlo) (fun _ _ _ q => q) hlen hsz hcl hsl hp k
theorem Wk.out (X : Wk l Z R bytes mL ret own nm p e s m args below meth c T cells slots) {v : Option Value} (hv : ret = none → v = none) (hQ : Q v T.heap) (h1 : cells ≤ cC) (h2 : slots ≤ cS) (hs : ∀ fs, (∀ (f : JFrame) (acts : List Action), f.method = m → f.locked = none → f.entered = [] → (doReturn e (T.setTop f) acts v).1 = T.setFrames fs) → Steps p.tables e below (T.setTop g) (T.setFrames fs)) : Ends p e below s Z Q cC cS T g := by
  obtain ⟨q0, locs, Y, N, Od⟩ := id X
  obtain ⟨fs, hr, hrun, hended, hW, hsame⟩ := Y.leave (v := v) (fun h => hv (q0.2.2.2.1.symm.trans h)) q0.2.2.2.2.1
  exact ⟨_, _, hs fs hr, hrun, hended, _, _, rfl, ⟨N, Od, hQ⟩, ⟨_, rfl⟩, hW, hsame.mono h1 h2⟩
theorem E_return (X : Wk l Z R bytes mL ret own nm p e s m args below meth c T cells slots) (hd : decode bytes pc = .ok (.return_, 1)) (hret : ret = none) (h1 : cells ≤ cC) (h2 : slots ≤ cS) (hQ : Q none T.heap) : Ends p e below s Z Q cC cS T (mkF m pc Ls []) := by
  refine X.out (v := none) (fun _ => rfl) hQ h1 h2 fun fs hr => ?_
  obtain ⟨q0, locs, Y, N, Od⟩ := id X
  exact Y.returnOut X.hx (q0.2.2.2.1.trans hret) (X.hb hd) hr
theorem E_ireturnI (X : Wk l Z R bytes mL ret own nm p e s m args below meth c T cells slots) {z : Int32} (hd : decode bytes pc = .ok (.ireturn, 1)) (hret : ret = some .int) (h1 : cells ≤ cC) (h2 : slots ≤ cS) (hQ : Q (some (.int z)) T.heap) : Ends p e below s Z Q cC cS T (mkF m pc Ls (.int z :: st)) := by
  refine X.out (v := some (.int z)) (fun h => by rw [hret] at h; cases h) hQ h1 h2 fun fs hr => ?_
  obtain ⟨q0, locs, Y, N, Od⟩ := id X
  exact retOut Y X.hx (q0.2.2.2.1.trans hret) rfl (Or.inl ⟨rfl, Or.inl rfl, z, rfl⟩) (X.hb hd) hr
theorem E_ireturnN (X : Wk l Z R bytes mL ret own nm p e s m args below meth c T cells slots) {z : Int32} {t : FieldType} (hd : decode bytes pc = .ok (.ireturn, 1)) (hret : ret = some t) (ht : t = .boolean ∨ t = .byte ∨ t = .char ∨ t = .short) (h1 : cells ≤ cC) (h2 : slots ≤ cS) (hQ : Q (some (.int (nar t z))) T.heap) : Ends p e below s Z Q cC cS T (mkF m pc Ls (.int z :: st)) := by
  refine X.out (v := some (.int (nar t z))) (fun h => by rw [hret] at h; cases h) hQ h1 h2 fun fs hr => ?_
  obtain ⟨q0, locs, Y, N, Od⟩ := id X
  exact retN Y X.hx (q0.2.2.2.1.trans hret) ht (X.hb hd) hr
theorem E_areturn (X : Wk l Z R bytes mL ret own nm p e s m args below meth c T cells slots) {v : Value} {t : FieldType} (hd : decode bytes pc = .ok (.areturn, 1)) (hret : ret = some t) (ht : t.isReference = true) (hv : v.isRef = true) (hn : narrow t v = v) (h1 : cells ≤ cC) (h2 : slots ≤ cS) (hQ : Q (some v) T.heap) : Ends p e below s Z Q cC cS T (mkF m pc Ls (v :: st)) := by
  refine X.out (v := some v) (fun h => by rw [hret] at h; cases h) hQ h1 h2 fun fs hr => ?_
  obtain ⟨q0, locs, Y, N, Od⟩ := id X
  exact retOut Y X.hx (q0.2.2.2.1.trans hret) hn (Or.inr (Or.inr (Or.inr (Or.inr ⟨rfl, ht, hv⟩)))) (X.hb hd) hr
end Own
section OwnW
variable {p : Program} {l : Launch} {e : Env} {R : Room} {s : State} {m : MethodId} {args : Array Value} {below : List Frame} {meth : Method} {c : Code} {T T' : State} {cells slots : Nat} {Z : State} {bytes : ByteArray} {mL : Nat} {ret : Option FieldType} {own nm : String} {Q : Option Value → Heap → Prop} {cC cS : Nat} {pc : Nat} {Ls : Array Slot} {st : List Value} {a0 : Array Value} {g g' : JFrame} {vm : Vm}
abbrev EL : List (String × Nat) := consts_1
/-- the walk stands at T over the start with the tables vm; it may have loaded String constants -/
def Ww (l : Launch) (Z : State) (R : Room) (bytes : ByteArray) (mL : Nat) (ret : Option FieldType) (own nm : String) (p : Program) (e : Env) (s : State) (m : MethodId) (args : Array Value) (below : List Frame) (meth : Method) (c : Code) (vm : Vm) (T : State) (cells slots : Nat) : Prop :=
  (p.tables.exec = Jvm.exec ∧ c.code = bytes ∧ c.maxLocals = mL ∧ meth.sig.returnType = ret ∧ meth.locks = false ∧ vm.findClass own = some m.cls ∧ meth.name = nm ∧ Z.Warmed39 vm) ∧
  ((∃ k0, s.Since vm k0 ∧ k0 ≤ T.heap.size) ∧ (∃ a1, EW Z a1 EL) ∧ CHr Z EL s.vm s.heap vm T.heap) ∧
  ∃ locs, Stand p l e R (s.setVm vm) m args below meth c T locs cells slots ∧ Fr Z.heap.size locs ∧ Ext Z.heap T.heap
def EndW (p : Program) (e : Env) (below : List Frame) (s : State) (Z : State) (Q : Option Value → Heap → Prop) (cC cS : Nat) (T : State) (g : JFrame) : Prop :=
  ∃ t o, Steps p.tables e below (T.setTop g) t ∧ t.status = .running ∧ Ended t below o ∧ ∃ v L, o = .returned v ∧ (Fr Z.heap.size L ∧ Ext Z.heap t.heap ∧ Q v t.heap) ∧ CHr Z EL s.vm s.heap t.vm t.heap ∧ ReturnedEndW s o t L cC cS
def CtW (l : Launch) (Z : State) (y : MethodName) (bytes : ByteArray) (mL : Nat) (ret : Option FieldType) (rm : Room) (as' : Array Value) (h : Heap) (Q : Option Value → Heap → Prop) : Prop :=
  ∀ ws, MetFree l y (head1 (Jvm.Cond.code y bytes mL ret :: ws) rm) (fun a U => a = as' ∧ Z.Warmed39 U.vm ∧ U.heap = h ∧ CHv Z EL U.vm h) (fun _ _ _ _ _ => True) (fun _ U o U' => ∃ v L, o = .returned v ∧ (Fr Z.heap.size L ∧ Ext Z.heap U'.heap ∧ Q v U'.heap) ∧ CHr Z EL U.vm U.heap U'.vm U'.heap ∧ ReturnedEndW U o U' L rm.cells rm.slots)
theorem Ww.hx (X : Ww l Z R bytes mL ret own nm p e s m args below meth c vm T cells slots) : p.tables.exec = Jvm.exec := X.1.1
theorem Ww.hb (X : Ww l Z R bytes mL ret own nm p e s m args below meth c vm T cells slots) {pc : Nat} {r : Except DecodeError (Instr × Nat)} (h : decode bytes pc = r) : decode c.code pc = r := X.1.2.1 ▸ h
theorem Ww.hown (X : Ww l Z R bytes mL ret own nm p e s m args below meth c vm T cells slots) : vm.findClass own = some m.cls := X.1.2.2.2.2.2.1
theorem Ww.hZ (X : Ww l Z R bytes mL ret own nm p e s m args below meth c vm T cells slots) : Z.Warmed39 vm := X.1.2.2.2.2.2.2.2
theorem Ww.at (X : Ww l Z R bytes mL ret own nm p e s m args below meth c vm T cells slots) : At T m c below := by obtain ⟨-, -, _, X, -⟩ := X; exact X.here
theorem Ww.old (X : Ww l Z R bytes mL ret own nm p e s m args below meth c vm T cells slots) : Ext Z.heap T.heap := by obtain ⟨-, -, _, -, -, X⟩ := X; exact X
theorem Ww.le (X : Ww l Z R bytes mL ret own nm p e s m args below meth c vm T cells slots) : Z.heap.size ≤ T.heap.size := X.old.1
theorem Ww.size (X : Ww l Z R bytes mL ret own nm p e s m args below meth c vm T cells slots) (h : Ls.size = mL) {pc : Nat} {st : List Value} : (mkF m pc Ls st).locals.size = c.maxLocals := h.trans X.1.2.2.1.symm
theorem Ww.more (X : Ww l Z R bytes mL ret own nm p e s m args below meth c vm T cells slots) {cells' slots' : Nat} (h1 : cells ≤ cells') (h2 : slots ≤ slots') : Ww l Z R bytes mL ret own nm p e s m args below meth c vm T cells' slots' := by
  obtain ⟨q, q2, locs, Y, r⟩ := X; exact ⟨q, q2, locs, Y.more h1 h2, r⟩

theorem Ww.ch (X : Ww l Z R bytes mL ret own nm p e s m args below meth c vm T cells slots) : CHv Z EL vm T.heap := X.2.1.2.2.1
theorem Ww.al (X : Ww l Z R bytes mL ret own nm p e s m args below meth c vm T cells slots) : Z.vm.Alike vm := X.hZ.alike
theorem F_by (f : ∀ target, Steps p.tables e below (T'.setTop g') target → Steps p.tables e below (T.setTop g) target) (k : EndW p e below s Z Q cC cS T' g') : EndW p e below s Z Q cC cS T g := by
  obtain ⟨t, o, h1, r⟩ := k; exact ⟨t, o, f _ h1, r⟩
theorem F_tr (f : Steps p.tables e below (T.setTop g) (T'.setTop g')) (k : EndW p e below s Z Q cC cS T' g') : EndW p e below s Z Q cC cS T g := F_by (fun _ q => f.trans q) k
theorem own_ks {h h' : Heap} (q : h' = h) : Keep h h' [] := q ▸ Keep.refl _ _
/-- the walk goes on: same tables, heap kept but for safe places -/
theorem Ww.go {ws : List Addr} {T' : State} {cells' slots' : Nat} {locs' : List Loc} (X : Ww l Z R bytes mL ret own nm p e s m args below meth c vm T cells slots) (Y : Stand p l e R (s.setVm vm) m args below meth c T' locs' cells' slots') (N : Fr Z.heap.size locs') (K : Keep T.heap T'.heap ws) (hw : ∀ x ∈ ws, Z.heap.size ≤ x) (hs : ∀ x ∈ ws, Safe Z EL vm T.heap x) : Ww l Z R bytes mL ret own nm p e s m args below meth c vm T' cells' slots' := by
  obtain ⟨q0, ⟨⟨k0, hS, hk⟩, hE, hC⟩, locs, Y0, N0, O⟩ := X
  exact ⟨q0, ⟨⟨k0, hS, Nat.le_trans hk K.1⟩, hE, hC.trans (CHr.keep K hs hC.1)⟩, locs', Y, N, Keep.old O K hw⟩
theorem Ww.go2 {ws : List Addr} {T' : State} {cells' slots' : Nat} {locs' : List Loc} (X : Ww l Z R bytes mL ret own nm p e s m args below meth c vm T cells slots) (Y : Stand p l e R (s.setVm vm) m args below meth c T' locs' cells' slots') (N : Fr Z.heap.size locs') (O' : Ext Z.heap T'.heap) (K : Keep T.heap T'.heap ws) (hs : ∀ x ∈ ws, Safe Z EL vm T.heap x) : Ww l Z R bytes mL ret own nm p e s m args below meth c vm T' cells' slots' := by
  obtain ⟨q0, ⟨⟨k0, hS, hk⟩, hE, hC⟩, locs, Y0, N0, O⟩ := X
  exact ⟨q0, ⟨⟨k0, hS, Nat.le_trans hk K.1⟩, hE, hC.trans (CHr.keep K hs hC.1)⟩, locs', Y, N, O'⟩
/-- a String whose array isn't set is no booked one -/
theorem own_safe {h : Heap} {x : Addr} (hal : Z.vm.Alike vm) (E : Exa Z h x "java/lang/String") (F : Fld Z h x "java/lang/String" "value" "[B" .null) (wi : (Jvm.Cond.instantiable "java/lang/String" 4).before a0 Z = true) : Safe Z EL vm h x := fun B => by
  obtain ⟨cell, cf, k, i, f, h1, h2, h3, h4, h5, h6, h7⟩ := F
  obtain ⟨pr, -, u, a, -, q, -, G, rfl | rfl⟩ := B
  · have ha := G.ha
    obtain ⟨cS, ⟨⟨-, -, -, ⟨cv, kv, iv, s4, -⟩, -, -, -, s8, -⟩, -⟩, -⟩ := G
    cases (show h[q.sa]? = some q.sC from ha).symm.trans h1
    obtain ⟨kv', z4⟩ := ff_back (U := Wst Z vm h) hal s4
    have e4 := z4.symm.trans h2
    simp only [Option.some.injEq, Prod.mk.injEq] at e4
    rw [e4.2.2.2, h7] at s8
    cases s8
  · have hd := G.hd
    obtain ⟨cS, ⟨⟨-, -, -, -, -, -, -, -, -, -, ⟨-, kB, hkB, compB, hkindB⟩, -⟩, -, -⟩, -⟩ := G
    obtain ⟨cell2, k2, e1, e2, e3, -⟩ := E
    cases (show h[q.sd]? = some q.SA from hd).symm.trans e1
    obtain ⟨c4, k4, i1, i2, i3, -⟩ := Cond.instantiable_spec wi
    cases e2.symm.trans i1
    obtain ⟨k5, q1, q2⟩ := hal.2.2 _ _ i2
    cases (show vm.classes[q.SA.cls]? = some kB from hkB).symm.trans q1
    rw [q2] at hkindB
    have := i3.symm.trans hkindB
    cases this
theorem CtW.of_body {y1 y2 y3 : String} {rm : Room} {as' : Array Value} {h : Heap} (pn : plainFor ⟨y1, y2, y3⟩ = true) (O : Ext Z.heap h) (hE : EW Z a0 EL) (ef : ∀ m, entryFrame m as' mL = mkF m 0 Ls [])
    (k : ∀ {p : Program} {e : Env} {s : State} {m : MethodId} {below : List Frame} {meth : Method} {c : Code} {T : State}, Ww l Z rm bytes mL ret y1 y2 p e s m as' below meth c s.vm T 0 0 → T.heap = h → EndW p e below s Z Q rm.cells rm.slots T (mkF m 0 Ls [])) : CtW l Z ⟨y1, y2, y3⟩ bytes mL ret rm as' h Q := by
  intro ws
  refine MetFree.of_bodySF pn hisR ?_
  intro p e s m args below meth c s₁ Bd hml0 hP hK
  obtain ⟨rfl, hZ, hh, hC⟩ := hP
  have e0 : s₁.heap = h := by rw [← hh, Bd.state]; rfl
  have X : Ww l Z rm bytes mL ret y1 y2 p e s m args below meth c s.vm s₁ 0 0 := ⟨⟨Bd.exec, Bd.bytes, hml0, Bd.returns, Bd.notSynchronized, findClass_of_methodNamed Bd.named, (name_of_methodNamed Bd.named Bd.method).1, hZ⟩, ⟨⟨0, (State.WarmedH.refl s).since 0, Nat.zero_le _⟩, ⟨_, hE⟩, by rw [hh, e0]; exact CHr.refl hC⟩, [], by rw [State.setVm_self]; exact Stand.of_body Bd, Fr.nil _, e0 ▸ O⟩
  obtain ⟨t, o, h1, r⟩ := k X e0
  exact ⟨t, o, castTop (ef m) h1, r⟩
theorem CtW.back {y : MethodName} {rm : Room} {as' : Array Value} {h : Heap} {mL' : Nat} {bytes' : ByteArray} {ret' : Option FieldType} {Q' : Option Value → Heap → Prop} (hC : CtW l Z y bytes' mL' ret' rm as' h Q') {len W : Nat}
    (hZ : Z.Warmed39 vm) (wc : (Jvm.Cond.code y bytes' mL' ret').before a0 Z = true) (wz : (Jvm.Cond.initialized y.cls).before a0 Z = true) (hf : rm.frames + 1 ≤ R.frames) (hl : W + (mL' + 11) + rm.locals ≤ R.locals) {a1 : Array Value} (hE : EW Z a1 EL) (H : CHv Z EL vm h) :
    BackS l R p e below (s.setVm vm) args y len W (fun A aa => aa = as' ∧ A.U.heap = h ∧ A.cells + rm.cells ≤ R.cells ∧ A.slots + rm.slots ≤ R.slots)
      (fun A _ v B => ∃ L, (Fr Z.heap.size L ∧ Ext Z.heap B.U.heap ∧ Q' v B.U.heap) ∧ B.locs = A.locs ++ L ∧ B.cells = A.cells + rm.cells ∧ B.slots = A.slots + rm.slots ∧ CHr Z EL vm h B.U.vm B.U.heap) :=
  backOfSH (Q := fun v h L => Fr Z.heap.size L ∧ Ext Z.heap h ∧ Q' v h) (hC []) hZ wc wz hf hl hE H

theorem F_aloadN (X : Ww l Z R bytes mL ret own nm p e s m args below meth c vm T cells slots) {j : Fin 4} {v : Value} (hd : decode bytes pc = .ok (.aload_n j, 1)) (hl : Ls[j.val]? = some (.val v)) (hv : v.isRef = true) {pc' : Nat} (hp : pc + 1 = pc') (k : EndW p e below s Z Q cC cS T (mkF m pc' Ls (v :: st))) : EndW p e below s Z Q cC cS T (mkF m pc Ls (st)) := by
  subst hp; exact F_by (fun _ q => XS.aloadN X.at X.hx rfl (X.hb hd) hl hv q) k
theorem F_aload (X : Ww l Z R bytes mL ret own nm p e s m args below meth c vm T cells slots) {j : Nat} {v : Value} (hd : decode bytes pc = .ok (.aload j, 2)) (hl : Ls[j]? = some (.val v)) (hv : v.isRef = true) {pc' : Nat} (hp : pc + 2 = pc') (k : EndW p e below s Z Q cC cS T (mkF m pc' Ls (v :: st))) : EndW p e below s Z Q cC cS T (mkF m pc Ls (st)) := by
  subst hp; exact F_by (fun _ q => XS.aload X.at X.hx rfl (X.hb hd) hl hv q) k
theorem F_iloadN (X : Ww l Z R bytes mL ret own nm p e s m args below meth c vm T cells slots) {j : Fin 4} {v : Int32} (hd : decode bytes pc = .ok (.iload_n j, 1)) (hl : Ls[j.val]? = some (.val (.int v))) {pc' : Nat} (hp : pc + 1 = pc') (k : EndW p e below s Z Q cC cS T (mkF m pc' Ls (.int v :: st))) : EndW p e below s Z Q cC cS T (mkF m pc Ls (st)) := by
  subst hp; exact F_by (fun _ q => XS.iloadN X.at X.hx rfl (X.hb hd) hl q) k
theorem F_iload (X : Ww l Z R bytes mL ret own nm p e s m args below meth c vm T cells slots) {j : Nat} {v : Int32} (hd : decode bytes pc = .ok (.iload j, 2)) (hl : Ls[j]? = some (.val (.int v))) {pc' : Nat} (hp : pc + 2 = pc') (k : EndW p e below s Z Q cC cS T (mkF m pc' Ls (.int v :: st))) : EndW p e below s Z Q cC cS T (mkF m pc Ls (st)) := by
  subst hp; exact F_by (fun _ q => XS.iload X.at X.hx rfl (X.hb hd) hl q) k
theorem F_aconstNull (X : Ww l Z R bytes mL ret own nm p e s m args below meth c vm T cells slots) (hd : decode bytes pc = .ok (.aconst_null, 1)) {pc' : Nat} (hp : pc + 1 = pc') (k : EndW p e below s Z Q cC cS T (mkF m pc' Ls (.null :: st))) : EndW p e below s Z Q cC cS T (mkF m pc Ls (st)) := by
  subst hp; exact F_by (fun _ q => XS.aconstNull X.at X.hx rfl (X.hb hd) q) k
theorem F_iconst (X : Ww l Z R bytes mL ret own nm p e s m args below meth c vm T cells slots) {i : Int} {v : Int32} (hd : decode bytes pc = .ok (.iconst i, 1)) (hv : Int32.ofInt i = v) {pc' : Nat} (hp : pc + 1 = pc') (k : EndW p e below s Z Q cC cS T (mkF m pc' Ls (.int v :: st))) : EndW p e below s Z Q cC cS T (mkF m pc Ls st) := by
  subst hp hv; exact F_by (fun _ q => XS.iconst X.at X.hx rfl (X.hb hd) q) k
theorem F_bipush (X : Ww l Z R bytes mL ret own nm p e s m args below meth c vm T cells slots) {i : Int} {v : Int32} (hd : decode bytes pc = .ok (.bipush i, 2)) (hv : (Int8.ofInt i).toInt32 = v) {pc' : Nat} (hp : pc + 2 = pc') (k : EndW p e below s Z Q cC cS T (mkF m pc' Ls (.int v :: st))) : EndW p e below s Z Q cC cS T (mkF m pc Ls st) := by
  subst hp hv; exact F_by (fun _ q => XS.bipush X.at X.hx rfl (X.hb hd) q) k
theorem F_sipush (X : Ww l Z R bytes mL ret own nm p e s m args below meth c vm T cells slots) {i : Int} {v : Int32} (hd : decode bytes pc = .ok (.sipush i, 3)) (hv : (Int16.ofInt i).toInt32 = v) {pc' : Nat} (hp : pc + 3 = pc') (k : EndW p e below s Z Q cC cS T (mkF m pc' Ls (.int v :: st))) : EndW p e below s Z Q cC cS T (mkF m pc Ls st) := by
  subst hp hv; exact F_by (fun _ q => XS.sipush X.at X.hx rfl (X.hb hd) q) k
theorem F_iadd (X : Ww l Z R bytes mL ret own nm p e s m args below meth c vm T cells slots) {x y v : Int32} (hd : decode bytes pc = .ok (.iadd, 1)) (hv : x + y = v) {pc' : Nat} (hp : pc + 1 = pc') (k : EndW p e below s Z Q cC cS T (mkF m pc' Ls (.int v :: st))) : EndW p e below s Z Q cC cS T (mkF m pc Ls (.int y :: .int x :: st)) := by
  subst hp hv; exact F_by (fun _ q => XS.iadd X.at X.hx rfl (X.hb hd) rfl q) k
theorem F_isub (X : Ww l Z R bytes mL ret own nm p e s m args below meth c vm T cells slots) {x y v : Int32} (hd : decode bytes pc = .ok (.isub, 1)) (hv : x - y = v) {pc' : Nat} (hp : pc + 1 = pc') (k : EndW p e below s Z Q cC cS T (mkF m pc' Ls (.int v :: st))) : EndW p e below s Z Q cC cS T (mkF m pc Ls (.int y :: .int x :: st)) := by
  subst hp hv; exact F_by (fun _ q => XS.isub X.at X.hx rfl (X.hb hd) rfl q) k
theorem F_imul (X : Ww l Z R bytes mL ret own nm p e s m args below meth c vm T cells slots) {x y v : Int32} (hd : decode bytes pc = .ok (.imul, 1)) (hv : x * y = v) {pc' : Nat} (hp : pc + 1 = pc') (k : EndW p e below s Z Q cC cS T (mkF m pc' Ls (.int v :: st))) : EndW p e below s Z Q cC cS T (mkF m pc Ls (.int y :: .int x :: st)) := by
  subst hp hv; exact F_by (fun _ q => XS.imul X.at X.hx rfl (X.hb hd) rfl q) k
theorem F_iand (X : Ww l Z R bytes mL ret own nm p e s m args below meth c vm T cells slots) {x y v : Int32} (hd : decode bytes pc = .ok (.iand, 1)) (hv : x &&& y = v) {pc' : Nat} (hp : pc + 1 = pc') (k : EndW p e below s Z Q cC cS T (mkF m pc' Ls (.int v :: st))) : EndW p e below s Z Q cC cS T (mkF m pc Ls (.int y :: .int x :: st)) := by
  subst hp hv; exact F_by (fun _ q => XS.iand X.at X.hx rfl (X.hb hd) rfl q) k
theorem F_ior (X : Ww l Z R bytes mL ret own nm p e s m args below meth c vm T cells slots) {x y v : Int32} (hd : decode bytes pc = .ok (.ior, 1)) (hv : x ||| y = v) {pc' : Nat} (hp : pc + 1 = pc') (k : EndW p e below s Z Q cC cS T (mkF m pc' Ls (.int v :: st))) : EndW p e below s Z Q cC cS T (mkF m pc Ls (.int y :: .int x :: st)) := by
  subst hp hv; exact F_by (fun _ q => XS.ior X.at X.hx rfl (X.hb hd) rfl q) k
theorem F_ixor (X : Ww l Z R bytes mL ret own nm p e s m args below meth c vm T cells slots) {x y v : Int32} (hd : decode bytes pc = .ok (.ixor, 1)) (hv : x ^^^ y = v) {pc' : Nat} (hp : pc + 1 = pc') (k : EndW p e below s Z Q cC cS T (mkF m pc' Ls (.int v :: st))) : EndW p e below s Z Q cC cS T (mkF m pc Ls (.int y :: .int x :: st)) := by
  subst hp hv; exact F_by (fun _ q => XS.ixor X.at X.hx rfl (X.hb hd) rfl q) k
theorem F_ishl (X : Ww l Z R bytes mL ret own nm p e s m args below meth c vm T cells slots) {x y v : Int32} (hd : decode bytes pc = .ok (.ishl, 1)) (hv : x <<< (y &&& 31) = v) {pc' : Nat} (hp : pc + 1 = pc') (k : EndW p e below s Z Q cC cS T (mkF m pc' Ls (.int v :: st))) : EndW p e below s Z Q cC cS T (mkF m pc Ls (.int y :: .int x :: st)) := by
  subst hp hv; exact F_by (fun _ q => XS.ishl X.at X.hx rfl (X.hb hd) rfl q) k
theorem F_ishr (X : Ww l Z R bytes mL ret own nm p e s m args below meth c vm T cells slots) {x y v : Int32} (hd : decode bytes pc = .ok (.ishr, 1)) (hv : x >>> (y &&& 31) = v) {pc' : Nat} (hp : pc + 1 = pc') (k : EndW p e below s Z Q cC cS T (mkF m pc' Ls (.int v :: st))) : EndW p e below s Z Q cC cS T (mkF m pc Ls (.int y :: .int x :: st)) := by
  subst hp hv; exact F_by (fun _ q => XS.ishr X.at X.hx rfl (X.hb hd) rfl q) k
theorem F_iushr (X : Ww l Z R bytes mL ret own nm p e s m args below meth c vm T cells slots) {x y v : Int32} (hd : decode bytes pc = .ok (.iushr, 1)) (hv : (x.toUInt32 >>> (y &&& 31).toUInt32).toInt32 = v) {pc' : Nat} (hp : pc + 1 = pc') (k : EndW p e below s Z Q cC cS T (mkF m pc' Ls (.int v :: st))) : EndW p e below s Z Q cC cS T (mkF m pc Ls (.int y :: .int x :: st)) := by
  subst hp hv; exact F_by (fun _ q => XS.iushr X.at X.hx rfl (X.hb hd) rfl q) k
theorem F_ineg (X : Ww l Z R bytes mL ret own nm p e s m args below meth c vm T cells slots) {x v : Int32} (hd : decode bytes pc = .ok (.ineg, 1)) (hv : -x = v) {pc' : Nat} (hp : pc + 1 = pc') (k : EndW p e below s Z Q cC cS T (mkF m pc' Ls (.int v :: st))) : EndW p e below s Z Q cC cS T (mkF m pc Ls (.int x :: st)) := by
  subst hp hv; exact F_by (fun _ q => XS.ineg X.at X.hx rfl (X.hb hd) rfl q) k
theorem F_i2c (X : Ww l Z R bytes mL ret own nm p e s m args below meth c vm T cells slots) {x v : Int32} (hd : decode bytes pc = .ok (.i2c, 1)) (hv : x.toUInt32.toUInt16.toUInt32.toInt32 = v) {pc' : Nat} (hp : pc + 1 = pc') (k : EndW p e below s Z Q cC cS T (mkF m pc' Ls (.int v :: st))) : EndW p e below s Z Q cC cS T (mkF m pc Ls (.int x :: st)) := by
  subst hp hv; exact F_by (fun _ q => XS.i2c X.at X.hx rfl (X.hb hd) rfl q) k
theorem F_i2b (X : Ww l Z R bytes mL ret own nm p e s m args below meth c vm T cells slots) {x v : Int32} (hd : decode bytes pc = .ok (.i2b, 1)) (hv : x.toInt8.toInt32 = v) {pc' : Nat} (hp : pc + 1 = pc') (k : EndW p e below s Z Q cC cS T (mkF m pc' Ls (.int v :: st))) : EndW p e below s Z Q cC cS T (mkF m pc Ls (.int x :: st)) := by
  subst hp hv; exact F_by (fun _ q => XS.i2b X.at X.hx rfl (X.hb hd) rfl q) k
theorem F_i2s (X : Ww l Z R bytes mL ret own nm p e s m args below meth c vm T cells slots) {x v : Int32} (hd : decode bytes pc = .ok (.i2s, 1)) (hv : x.toInt16.toInt32 = v) {pc' : Nat} (hp : pc + 1 = pc') (k : EndW p e below s Z Q cC cS T (mkF m pc' Ls (.int v :: st))) : EndW p e below s Z Q cC cS T (mkF m pc Ls (.int x :: st)) := by
  subst hp hv; exact F_by (fun _ q => XS.i2s X.at X.hx rfl (X.hb hd) rfl q) k
theorem F_dup (X : Ww l Z R bytes mL ret own nm p e s m args below meth c vm T cells slots) {v : Value} (hd : decode bytes pc = .ok (.dup, 1)) (hc : v.category = 1) {pc' : Nat} (hp : pc + 1 = pc') (k : EndW p e below s Z Q cC cS T (mkF m pc' Ls (v :: v :: st))) : EndW p e below s Z Q cC cS T (mkF m pc Ls (v :: st)) := by
  subst hp; exact F_by (fun _ q => XS.dup X.at X.hx rfl (X.hb hd) rfl hc q) k
theorem F_dupx1 (X : Ww l Z R bytes mL ret own nm p e s m args below meth c vm T cells slots) {v u : Value} (hd : decode bytes pc = .ok (.dup_x1, 1)) (hc : v.category = 1) (hc2 : u.category = 1) {pc' : Nat} (hp : pc + 1 = pc') (k : EndW p e below s Z Q cC cS T (mkF m pc' Ls (v :: u :: v :: st))) : EndW p e below s Z Q cC cS T (mkF m pc Ls (v :: u :: st)) := by
  subst hp; exact F_by (fun _ q => XT.dupX1 X.at X.hx rfl (X.hb hd) rfl hc hc2 q) k
theorem F_pop (X : Ww l Z R bytes mL ret own nm p e s m args below meth c vm T cells slots) {v : Value} (hd : decode bytes pc = .ok (.pop, 1)) (hc : v.category = 1) {pc' : Nat} (hp : pc + 1 = pc') (k : EndW p e below s Z Q cC cS T (mkF m pc' Ls (st))) : EndW p e below s Z Q cC cS T (mkF m pc Ls (v :: st)) := by
  subst hp; exact F_by (fun _ q => XS.pop X.at X.hx rfl (X.hb hd) rfl hc q) k
theorem F_istoreN (X : Ww l Z R bytes mL ret own nm p e s m args below meth c vm T cells slots) {j : Fin 4} {x : Int32} (hd : decode bytes pc = .ok (.istore_n j, 1)) {l' : Array Slot} (hl : storeLocals Ls j.val (.int x) = some l') {pc' : Nat} (hp : pc + 1 = pc') (k : EndW p e below s Z Q cC cS T (mkF m pc' l' (st))) : EndW p e below s Z Q cC cS T (mkF m pc Ls (.int x :: st)) := by
  subst hp; exact F_by (fun _ q => XS.istoreN X.at X.hx rfl (X.hb hd) rfl hl q) k
theorem F_istore (X : Ww l Z R bytes mL ret own nm p e s m args below meth c vm T cells slots) {j : Nat} {x : Int32} (hd : decode bytes pc = .ok (.istore j, 2)) {l' : Array Slot} (hl : storeLocals Ls j (.int x) = some l') {pc' : Nat} (hp : pc + 2 = pc') (k : EndW p e below s Z Q cC cS T (mkF m pc' l' (st))) : EndW p e below s Z Q cC cS T (mkF m pc Ls (.int x :: st)) := by
  subst hp; exact F_by (fun _ q => XS.istore X.at X.hx rfl (X.hb hd) rfl hl q) k
theorem F_astoreN (X : Ww l Z R bytes mL ret own nm p e s m args below meth c vm T cells slots) {j : Fin 4} {x : Value} (hd : decode bytes pc = .ok (.astore_n j, 1)) (hv : x.isRef = true) {l' : Array Slot} (hl : storeLocals Ls j.val x = some l') {pc' : Nat} (hp : pc + 1 = pc') (k : EndW p e below s Z Q cC cS T (mkF m pc' l' (st))) : EndW p e below s Z Q cC cS T (mkF m pc Ls (x :: st)) := by
  subst hp; exact F_by (fun _ q => XS.astoreN X.at X.hx rfl (X.hb hd) rfl hv hl q) k
theorem F_astore (X : Ww l Z R bytes mL ret own nm p e s m args below meth c vm T cells slots) {j : Nat} {x : Value} (hd : decode bytes pc = .ok (.astore j, 2)) (hv : x.isRef = true) {l' : Array Slot} (hl : storeLocals Ls j x = some l') {pc' : Nat} (hp : pc + 2 = pc') (k : EndW p e below s Z Q cC cS T (mkF m pc' l' (st))) : EndW p e below s Z Q cC cS T (mkF m pc Ls (x :: st)) := by
  subst hp; exact F_by (fun _ q => XS.astore X.at X.hx rfl (X.hb hd) rfl hv hl q) k
theorem F_iinc (X : Ww l Z R bytes mL ret own nm p e s m args below meth c vm T cells slots) {j : Nat} {i : Int} {x y : Int32} (hd : decode bytes pc = .ok (.iinc j i, 3)) (hy : x + Int32.ofInt i = y) (hl : Ls[j]? = some (.val (.int x))) {l' : Array Slot} (hl' : storeLocals Ls j (.int y) = some l') {pc' : Nat} (hp : pc + 3 = pc') (k : EndW p e below s Z Q cC cS T (mkF m pc' l' st)) : EndW p e below s Z Q cC cS T (mkF m pc Ls st) := by
  subst hp hy; exact F_by (fun _ q => XS.iinc X.at X.hx rfl (X.hb hd) hl hl' q) k
theorem F_irem (X : Ww l Z R bytes mL ret own nm p e s m args below meth c vm T cells slots) {x y v : Int32} (hd : decode bytes pc = .ok (.irem, 1)) (hy : y ≠ 0) (hv : x % y = v) {pc' : Nat} (hp : pc + 1 = pc') (k : EndW p e below s Z Q cC cS T (mkF m pc' Ls (.int v :: st))) : EndW p e below s Z Q cC cS T (mkF m pc Ls (.int y :: .int x :: st)) := by
  subst hp hv; obtain ⟨q, q2, locs, Y, r⟩ := id X; exact F_by (fun _ k => iremM Y X.hx rfl (X.hb hd) rfl hy k) k
theorem F_idiv (X : Ww l Z R bytes mL ret own nm p e s m args below meth c vm T cells slots) {x y v : Int32} (hd : decode bytes pc = .ok (.idiv, 1)) (hy : y ≠ 0) (hv : x / y = v) {pc' : Nat} (hp : pc + 1 = pc') (k : EndW p e below s Z Q cC cS T (mkF m pc' Ls (.int v :: st))) : EndW p e below s Z Q cC cS T (mkF m pc Ls (.int y :: .int x :: st)) := by
  subst hp hv; exact F_by (fun _ k => XS.idiv X.at X.hx rfl (X.hb hd) rfl hy k) k
theorem F_goto (X : Ww l Z R bytes mL ret own nm p e s m args below meth c vm T cells slots) {o : Int} (hd : decode bytes pc = .ok (.goto o, 3)) {pc' : Nat} (ho : 0 ≤ (pc : Int) + o) (hp : ((pc : Int) + o).toNat = pc') (k : EndW p e below s Z Q cC cS T (mkF m pc' Ls st)) : EndW p e below s Z Q cC cS T (mkF m pc Ls st) :=
  F_by (fun _ q => XS.goto X.at X.hx rfl (pc0 := pc) rfl (X.hb hd) ho hp q) k
theorem F_ifT (X : Ww l Z R bytes mL ret own nm p e s m args below meth c vm T cells slots) {cd : ClassFile.Cond} {o : Int} {x : Int32} (hd : decode bytes pc = .ok (.ifCond cd o, 3)) (hc : ifCond.holds cd x = true) {pc' : Nat} (ho : 0 ≤ (pc : Int) + o) (hp : ((pc : Int) + o).toNat = pc') (k : EndW p e below s Z Q cC cS T (mkF m pc' Ls st)) : EndW p e below s Z Q cC cS T (mkF m pc Ls (.int x :: st)) :=
  F_by (fun _ q => XS.ifYes X.at X.hx rfl (pc0 := pc) rfl (X.hb hd) rfl hc ho hp q) k
theorem F_ifF (X : Ww l Z R bytes mL ret own nm p e s m args below meth c vm T cells slots) {cd : ClassFile.Cond} {o : Int} {x : Int32} (hd : decode bytes pc = .ok (.ifCond cd o, 3)) (hc : ifCond.holds cd x = false) {pc' : Nat} (hp : pc + 3 = pc') (k : EndW p e below s Z Q cC cS T (mkF m pc' Ls st)) : EndW p e below s Z Q cC cS T (mkF m pc Ls (.int x :: st)) := by
  subst hp; exact F_by (fun _ q => XS.ifNo X.at X.hx rfl (X.hb hd) rfl hc q) k
theorem F_icT (X : Ww l Z R bytes mL ret own nm p e s m args below meth c vm T cells slots) {cd : ClassFile.Cond} {o : Int} {x y : Int32} (hd : decode bytes pc = .ok (.if_icmp cd o, 3)) (hc : if_icmp.holds cd x y = true) {pc' : Nat} (ho : 0 ≤ (pc : Int) + o) (hp : ((pc : Int) + o).toNat = pc') (k : EndW p e below s Z Q cC cS T (mkF m pc' Ls st)) : EndW p e below s Z Q cC cS T (mkF m pc Ls (.int y :: .int x :: st)) :=
  F_by (fun _ q => XS.icmpYes X.at X.hx rfl (pc0 := pc) rfl (X.hb hd) rfl hc ho hp q) k
theorem F_icF (X : Ww l Z R bytes mL ret own nm p e s m args below meth c vm T cells slots) {cd : ClassFile.Cond} {o : Int} {x y : Int32} (hd : decode bytes pc = .ok (.if_icmp cd o, 3)) (hc : if_icmp.holds cd x y = false) {pc' : Nat} (hp : pc + 3 = pc') (k : EndW p e below s Z Q cC cS T (mkF m pc' Ls st)) : EndW p e below s Z Q cC cS T (mkF m pc Ls (.int y :: .int x :: st)) := by
  subst hp; exact F_by (fun _ q => XS.icmpNo X.at X.hx rfl (X.hb hd) rfl hc q) k
theorem F_nullT (X : Ww l Z R bytes mL ret own nm p e s m args below meth c vm T cells slots) {o : Int} (hd : decode bytes pc = .ok (.ifnull o, 3)) {pc' : Nat} (ho : 0 ≤ (pc : Int) + o) (hp : ((pc : Int) + o).toNat = pc') (k : EndW p e below s Z Q cC cS T (mkF m pc' Ls st)) : EndW p e below s Z Q cC cS T (mkF m pc Ls (.null :: st)) :=
  F_by (fun _ q => XS.ifnullYes X.at X.hx rfl (pc0 := pc) rfl (X.hb hd) rfl ho hp q) k
theorem F_nullF (X : Ww l Z R bytes mL ret own nm p e s m args below meth c vm T cells slots) {o : Int} {b : Addr} (hd : decode bytes pc = .ok (.ifnull o, 3)) {pc' : Nat} (hp : pc + 3 = pc') (k : EndW p e below s Z Q cC cS T (mkF m pc' Ls st)) : EndW p e below s Z Q cC cS T (mkF m pc Ls (.ref b :: st)) := by
  subst hp; exact F_by (fun _ q => XS.ifnullNo X.at X.hx rfl (X.hb hd) rfl q) k
theorem F_nonnullT (X : Ww l Z R bytes mL ret own nm p e s m args below meth c vm T cells slots) {o : Int} {b : Addr} (hd : decode bytes pc = .ok (.ifnonnull o, 3)) {pc' : Nat} (ho : 0 ≤ (pc : Int) + o) (hp : ((pc : Int) + o).toNat = pc') (k : EndW p e below s Z Q cC cS T (mkF m pc' Ls st)) : EndW p e below s Z Q cC cS T (mkF m pc Ls (.ref b :: st)) :=
  F_by (fun _ q => XT.nonnullYes X.at X.hx rfl (pc0 := pc) rfl (X.hb hd) rfl rfl (fun q => nomatch q) ho hp q) k
theorem F_nonnullF (X : Ww l Z R bytes mL ret own nm p e s m args below meth c vm T cells slots) {o : Int} (hd : decode bytes pc = .ok (.ifnonnull o, 3)) {pc' : Nat} (hp : pc + 3 = pc') (k : EndW p e below s Z Q cC cS T (mkF m pc' Ls st)) : EndW p e below s Z Q cC cS T (mkF m pc Ls (.null :: st)) := by
  subst hp; exact F_by (fun _ q => XT.nonnullNo X.at X.hx rfl (X.hb hd) rfl rfl q) k
theorem F_acmp (X : Ww l Z R bytes mL ret own nm p e s m args below meth c vm T cells slots) {cd : ACond} {o : Int} {x y : Value} (hd : decode bytes pc = .ok (.if_acmp cd o, 3)) (h1 : x.isRef = true) (h2 : y.isRef = true) (same : Bool) (hq : decide (x = y) = same) {pc' : Nat} (ho : 0 ≤ (pc : Int) + o) (hp : pc' = if acV cd same = true then ((pc : Int) + o).toNat else pc + 3) (k : EndW p e below s Z Q cC cS T (mkF m pc' Ls st)) : EndW p e below s Z Q cC cS T (mkF m pc Ls (y :: x :: st)) := by
  obtain ⟨_, _, locs, Y, r⟩ := id X; exact F_by (fun _ q => acmp Y X.hx rfl h1 h2 (pc0 := pc) rfl (X.hb hd) rfl hq ho hp q) k
theorem F_ldcI (X : Ww l Z R bytes mL ret own nm p e s m args below meth c vm T cells slots) {ix : Nat} {v : Int32} (hd : decode bytes pc = .ok (.ldc ix, 2)) (w : (Jvm.Cond.constant own ix v).before a0 Z = true) {pc' : Nat} (hp : pc + 2 = pc') (k : EndW p e below s Z Q cC cS T (mkF m pc' Ls (.int v :: st))) : EndW p e below s Z Q cC cS T (mkF m pc Ls st) := by
  subst hp; obtain ⟨_, _, locs, Y, r⟩ := id X; exact F_by (fun _ q => Y.ldcI X.hx X.hown (mvT X.hZ w) rfl (X.hb hd) q) k

theorem F_new (X : Ww l Z R bytes mL ret own nm p e s m args below meth c vm T cells slots) {C : String} {ix n : Nat} (hd : decode bytes pc = .ok (.new ix, 3)) (w1 : (Jvm.Cond.classLink own ix C).before a0 Z = true) (w2 : (Jvm.Cond.instantiable C n).before a0 Z = true) (w3 : (Jvm.Cond.initialized C).before a0 Z = true) (hc : cells + 1 ≤ R.cells) (hs : slots + n ≤ R.slots) {pc' : Nat} (hp : pc + 3 = pc')
    (k : ∀ (T' : State) (b : Addr), Ww l Z R bytes mL ret own nm p e s m args below meth c vm T' (cells + 1) (slots + n) → b = T.heap.size → Keep T.heap T'.heap [] → Exa Z T'.heap b C → (∀ {O nm d : String} {ty : FieldType}, Laid Z a0 C O nm d → parseFieldDescriptor d = some ty → Fld Z T'.heap b O nm d (defaultValue ty)) → EndW p e below s Z Q cC cS T' (mkF m pc' Ls (.ref b :: st))) : EndW p e below s Z Q cC cS T (mkF m pc Ls st) := by
  subst hp; obtain ⟨q0, qq, locs, Y, N, O⟩ := id X
  obtain ⟨T', h', Y', rfl, E, A, D, -, stp⟩ := newO Y X.hx X.hZ X.hown w1 w2 w3 rfl (g := mkF m pc Ls st) rfl (X.hb hd) hc hs
  exact F_by stp (k T' _ (X.go Y' N (Keep.of_ext E) all0 sf0) rfl (Keep.of_ext E) A D)
theorem F_newarray (X : Ww l Z R bytes mL ret own nm p e s m args below meth c vm T cells slots) {aty : ArrayType} {n : Int32} (cap : Nat) (hd : decode bytes pc = .ok (.newarray aty, 2)) (w : (Jvm.Cond.arrayClass (newarray.typeOf aty)).before a0 Z = true) (hn : ¬ n < 0) (hcap : n.toNatClampNeg ≤ cap) (hb : cap * 8 ≤ 536870912) (hc : cells + 1 ≤ R.cells) (hs : slots + cap ≤ R.slots) {pc' : Nat} (hp : pc + 2 = pc')
    (k : ∀ (T' : State) (b : Addr) (kA : ClassId), Ww l Z R bytes mL ret own nm p e s m args below meth c vm T' (cells + 1) (slots + cap) → b = T.heap.size → Keep T.heap T'.heap [] → Arv Z T'.heap b kA (newarray.typeOf aty) n [] (defaultValue (newarray.typeOf aty)) → EndW p e below s Z Q cC cS T' (mkF m pc' Ls (.ref b :: st))) : EndW p e below s Z Q cC cS T (mkF m pc Ls (.int n :: st)) := by
  subst hp; obtain ⟨q0, qq, locs, Y, N, O⟩ := id X
  obtain ⟨T', h', kA, Y', rfl, E, A, stp⟩ := newP Y X.hx X.hZ w rfl (g := mkF m pc Ls (.int n :: st)) rfl (X.hb hd) rfl hn hcap hb hc hs
  exact F_by stp (k T' _ kA (X.go Y' N (Keep.of_ext E) all0 sf0) rfl (Keep.of_ext E) (Arv.new A hn))
theorem F_anewarray (X : Ww l Z R bytes mL ret own nm p e s m args below meth c vm T cells slots) {C : String} {ix : Nat} {n : Int32} (cap : Nat) (hd : decode bytes pc = .ok (.anewarray ix, 3)) (w1 : (Jvm.Cond.classLink own ix C).before a0 Z = true) (w2 : (Jvm.Cond.arrayOver (.object C)).before a0 Z = true) (hn : ¬ n < 0) (hcap : n.toNatClampNeg ≤ cap) (hb : cap * 8 ≤ 536870912) (hc : cells + 1 ≤ R.cells) (hs : slots + cap ≤ R.slots) {pc' : Nat} (hp : pc + 3 = pc')
    (k : ∀ (T' : State) (b : Addr) (kA : ClassId), Ww l Z R bytes mL ret own nm p e s m args below meth c vm T' (cells + 1) (slots + cap) → b = T.heap.size → Keep T.heap T'.heap [] → Arv Z T'.heap b kA (.object C) n [] .null → Ovr Z kA C → EndW p e below s Z Q cC cS T' (mkF m pc' Ls (.ref b :: st))) : EndW p e below s Z Q cC cS T (mkF m pc Ls (.int n :: st)) := by
  subst hp; obtain ⟨q0, qq, locs, Y, N, O⟩ := id X
  obtain ⟨T', h', kA, Y', rfl, E, A, Ov, stp⟩ := newR Y X.hx X.hZ X.hown w1 w2 rfl (g := mkF m pc Ls (.int n :: st)) rfl (X.hb hd) rfl hn hcap hb hc hs
  exact F_by stp (k T' _ kA (X.go Y' N (Keep.of_ext E) all0 sf0) rfl (Keep.of_ext E) (Arv.new A hn) Ov)
theorem F_aastore (X : Ww l Z R bytes mL ret own nm p e s m args below meth c vm T cells slots) {a y : Addr} {kA : ClassId} {z j : Int32} {vs : List Value} {C : String} (i : Nat) (hd : decode bytes pc = .ok (.aastore, 1)) (V : Arv Z T.heap a kA (.object C) z vs .null) (Ov : Ovr Z kA C) (I : Ins Z T.heap y C true) (hj : ¬ j < 0 ∧ j < z) (hi : j.toNatClampNeg = i) (hl : i < vs.length) (ha : Z.heap.size ≤ a) {pc' : Nat} (hp : pc + 1 = pc')
    (k : ∀ (T' : State), Ww l Z R bytes mL ret own nm p e s m args below meth c vm T' cells slots → Keep T.heap T'.heap [a] → Arv Z T'.heap a kA (.object C) z (vs.set i (.ref y)) .null → EndW p e below s Z Q cC cS T' (mkF m pc' Ls st)) : EndW p e below s Z Q cC cS T (mkF m pc Ls (.ref y :: .int j :: .ref a :: st)) := by
  subst hp; obtain ⟨q0, qq, locs, Y, N, O⟩ := id X
  obtain ⟨cl, A, q1, S1, N1, H1, G1⟩ := V
  obtain ⟨T', h', Y', rfl, W, stp⟩ := stR Y X.hx X.hZ rfl A (j := j) (inb_of S1 hj) rfl (Sto.ofV A q1 Ov I) (g := mkF m pc Ls (.ref y :: .int j :: .ref a :: st)) rfl rfl (X.hb hd)
  exact F_by stp (k T' (X.go Y' (Fr.snoc Y' N ha) (Keep.of_wr W) (allS ha all0) (sfS (Safe.arr X.al A (by simp)) sf0)) (Keep.of_wr W) (Arv.set A q1 S1 N1 H1 G1 rfl W i hi hl))
theorem F_aastoreA (X : Ww l Z R bytes mL ret own nm p e s m args below meth c vm T cells slots) {a y : Addr} {kA : ClassId} {z j : Int32} {vs : List Value} {C : String} (hd : decode bytes pc = .ok (.aastore, 1)) (V : Arv Z T.heap a kA (.object C) z vs .null) (Ov : Ovr Z kA C) (I : Ins Z T.heap y C true) (hj : ¬ j < 0 ∧ j < z) (hi : j.toNatClampNeg = vs.length) (ha : Z.heap.size ≤ a) {pc' : Nat} (hp : pc + 1 = pc')
    (k : ∀ (T' : State), Ww l Z R bytes mL ret own nm p e s m args below meth c vm T' cells slots → Keep T.heap T'.heap [a] → Arv Z T'.heap a kA (.object C) z (vs ++ [.ref y]) .null → EndW p e below s Z Q cC cS T' (mkF m pc' Ls st)) : EndW p e below s Z Q cC cS T (mkF m pc Ls (.ref y :: .int j :: .ref a :: st)) := by
  refine F_aastore X vs.length hd (V.pad (pad_rep vs .null 1)) Ov I hj hi (by simp) ha hp fun T' X' K' V' => k T' X' K' ?_
  have q : (vs ++ List.replicate 1 Value.null).set vs.length (.ref y) = vs ++ [.ref y] := by simp
  rw [q] at V'; exact V'
theorem F_iastore (X : Ww l Z R bytes mL ret own nm p e s m args below meth c vm T cells slots) {a : Addr} {kA : ClassId} {z j x : Int32} {vs : List Value} {dv : Value} {y : Int32} (i : Nat) (hd : decode bytes pc = .ok (.iastore, 1)) (hy : x = y) (V : Arv Z T.heap a kA .int z vs dv) (hj : ¬ j < 0 ∧ j < z) (hi : j.toNatClampNeg = i) (hl : i < vs.length) (ha : Z.heap.size ≤ a) {pc' : Nat} (hp : pc + 1 = pc')
    (k : ∀ (T' : State), Ww l Z R bytes mL ret own nm p e s m args below meth c vm T' cells slots → Keep T.heap T'.heap [a] → Arv Z T'.heap a kA .int z (vs.set i (.int y)) dv → EndW p e below s Z Q cC cS T' (mkF m pc' Ls st)) : EndW p e below s Z Q cC cS T (mkF m pc Ls (.int x :: .int j :: .ref a :: st)) := by
  subst hp hy; obtain ⟨q0, qq, locs, Y, N, O⟩ := id X
  obtain ⟨cl, A, q1, S1, N1, H1, G1⟩ := V
  obtain ⟨T', h', Y', rfl, W, stp⟩ := stI Y X.hx X.hZ rfl A (j := j) (x := x) (inb_of S1 hj) (g := mkF m pc Ls (.int x :: .int j :: .ref a :: st)) rfl rfl (X.hb hd)
  exact F_by stp (k T' (X.go Y' (Fr.snoc Y' N ha) (Keep.of_wr W) (allS ha all0) (sfS (Safe.arr X.al A (by simp)) sf0)) (Keep.of_wr W) (Arv.set A q1 S1 N1 H1 G1 (rfl) W i hi hl))
theorem F_castore (X : Ww l Z R bytes mL ret own nm p e s m args below meth c vm T cells slots) {a : Addr} {kA : ClassId} {z j x : Int32} {vs : List Value} {dv : Value} {y : Int32} (i : Nat) (hd : decode bytes pc = .ok (.castore, 1)) (hy : nar .char x = y) (V : Arv Z T.heap a kA .char z vs dv) (hj : ¬ j < 0 ∧ j < z) (hi : j.toNatClampNeg = i) (hl : i < vs.length) (ha : Z.heap.size ≤ a) {pc' : Nat} (hp : pc + 1 = pc')
    (k : ∀ (T' : State), Ww l Z R bytes mL ret own nm p e s m args below meth c vm T' cells slots → Keep T.heap T'.heap [a] → Arv Z T'.heap a kA .char z (vs.set i (.int y)) dv → EndW p e below s Z Q cC cS T' (mkF m pc' Ls st)) : EndW p e below s Z Q cC cS T (mkF m pc Ls (.int x :: .int j :: .ref a :: st)) := by
  subst hp hy; obtain ⟨q0, qq, locs, Y, N, O⟩ := id X
  obtain ⟨cl, A, q1, S1, N1, H1, G1⟩ := V
  obtain ⟨T', h', Y', rfl, W, stp⟩ := stC Y X.hx X.hZ rfl A (j := j) (x := x) (inb_of S1 hj) (g := mkF m pc Ls (.int x :: .int j :: .ref a :: st)) rfl rfl (X.hb hd)
  exact F_by stp (k T' (X.go Y' (Fr.snoc Y' N ha) (Keep.of_wr W) (allS ha all0) (sfS (Safe.arr X.al A (by simp)) sf0)) (Keep.of_wr W) (Arv.set A q1 S1 N1 H1 G1 (fits_nar_char _) W i hi hl))
theorem F_iastoreA (X : Ww l Z R bytes mL ret own nm p e s m args below meth c vm T cells slots) {a : Addr} {kA : ClassId} {z j x : Int32} {vs : List Value} {dv : Value} {y : Int32} (hd : decode bytes pc = .ok (.iastore, 1)) (hy : x = y) (V : Arv Z T.heap a kA .int z vs dv) (hj : ¬ j < 0 ∧ j < z) (hi : j.toNatClampNeg = vs.length) (ha : Z.heap.size ≤ a) {pc' : Nat} (hp : pc + 1 = pc')
    (k : ∀ (T' : State), Ww l Z R bytes mL ret own nm p e s m args below meth c vm T' cells slots → Keep T.heap T'.heap [a] → Arv Z T'.heap a kA .int z (vs ++ [.int y]) dv → EndW p e below s Z Q cC cS T' (mkF m pc' Ls st)) : EndW p e below s Z Q cC cS T (mkF m pc Ls (.int x :: .int j :: .ref a :: st)) := by
  refine F_iastore X vs.length hd hy (V.pad (pad_rep vs dv 1)) hj hi (by simp) ha hp fun T' X' K' V' => k T' X' K' ?_
  have q : (vs ++ List.replicate 1 dv).set vs.length (.int y) = vs ++ [.int y] := by simp
  rw [q] at V'; exact V'
theorem F_castoreA (X : Ww l Z R bytes mL ret own nm p e s m args below meth c vm T cells slots) {a : Addr} {kA : ClassId} {z j x : Int32} {vs : List Value} {dv : Value} {y : Int32} (hd : decode bytes pc = .ok (.castore, 1)) (hy : nar .char x = y) (V : Arv Z T.heap a kA .char z vs dv) (hj : ¬ j < 0 ∧ j < z) (hi : j.toNatClampNeg = vs.length) (ha : Z.heap.size ≤ a) {pc' : Nat} (hp : pc + 1 = pc')
    (k : ∀ (T' : State), Ww l Z R bytes mL ret own nm p e s m args below meth c vm T' cells slots → Keep T.heap T'.heap [a] → Arv Z T'.heap a kA .char z (vs ++ [.int y]) dv → EndW p e below s Z Q cC cS T' (mkF m pc' Ls st)) : EndW p e below s Z Q cC cS T (mkF m pc Ls (.int x :: .int j :: .ref a :: st)) := by
  refine F_castore X vs.length hd hy (V.pad (pad_rep vs dv 1)) hj hi (by simp) ha hp fun T' X' K' V' => k T' X' K' ?_
  have q : (vs ++ List.replicate 1 dv).set vs.length (.int y) = vs ++ [.int y] := by simp
  rw [q] at V'; exact V'
theorem F_iaload (X : Ww l Z R bytes mL ret own nm p e s m args below meth c vm T cells slots) {a : Addr} {kA : ClassId} {z j : Int32} {vs : List Value} {dv v : Value} (hd : decode bytes pc = .ok (.iaload, 1)) (V : Arv Z T.heap a kA .int z vs dv) (hj : ¬ j < 0 ∧ j < z) (hv : vs.getD j.toNatClampNeg dv = v) {pc' : Nat} (hp : pc + 1 = pc')
    (k : EndW p e below s Z Q cC cS T (mkF m pc' Ls (v :: st))) : EndW p e below s Z Q cC cS T (mkF m pc Ls (.int j :: .ref a :: st)) := by
  subst hp; obtain ⟨q0, qq, locs, Y, N, O⟩ := id X
  obtain ⟨cl, A, q1, S1, N1, H1, G1⟩ := V
  exact F_by (Y.iaload X.hx A.1 (State.isArrayOf_alike X.hZ.alike A.2.1) A.2.2 (inb_of S1 hj) (Has.at H1 (inb_of S1 hj) hv) (g := mkF m pc Ls (.int j :: .ref a :: st)) rfl rfl (X.hb hd)) k
theorem F_caload (X : Ww l Z R bytes mL ret own nm p e s m args below meth c vm T cells slots) {a : Addr} {kA : ClassId} {z j : Int32} {vs : List Value} {dv v : Value} (hd : decode bytes pc = .ok (.caload, 1)) (V : Arv Z T.heap a kA .char z vs dv) (hj : ¬ j < 0 ∧ j < z) (hv : vs.getD j.toNatClampNeg dv = v) {pc' : Nat} (hp : pc + 1 = pc')
    (k : EndW p e below s Z Q cC cS T (mkF m pc' Ls (v :: st))) : EndW p e below s Z Q cC cS T (mkF m pc Ls (.int j :: .ref a :: st)) := by
  subst hp; obtain ⟨q0, qq, locs, Y, N, O⟩ := id X
  obtain ⟨cl, A, q1, S1, N1, H1, G1⟩ := V
  exact F_by (Y.caload X.hx A.1 (State.isArrayOf_alike X.hZ.alike A.2.1) A.2.2 (inb_of S1 hj) (Has.at H1 (inb_of S1 hj) hv) (g := mkF m pc Ls (.int j :: .ref a :: st)) rfl rfl (X.hb hd)) k
theorem F_baload (X : Ww l Z R bytes mL ret own nm p e s m args below meth c vm T cells slots) {a : Addr} {kA : ClassId} {z j : Int32} {vs : List Value} {dv v : Value} (hd : decode bytes pc = .ok (.baload, 1)) (V : Arv Z T.heap a kA .byte z vs dv) (hj : ¬ j < 0 ∧ j < z) (hv : vs.getD j.toNatClampNeg dv = v) {pc' : Nat} (hp : pc + 1 = pc')
    (k : EndW p e below s Z Q cC cS T (mkF m pc' Ls (v :: st))) : EndW p e below s Z Q cC cS T (mkF m pc Ls (.int j :: .ref a :: st)) := by
  subst hp; obtain ⟨q0, qq, locs, Y, N, O⟩ := id X
  obtain ⟨cl, A, q1, S1, N1, H1, G1⟩ := V
  exact F_by (Y.baloadBytes X.hx A.1 (State.isArrayOf_alike X.hZ.alike A.2.1) A.2.2 (inb_of S1 hj) (Has.at H1 (inb_of S1 hj) hv) (g := mkF m pc Ls (.int j :: .ref a :: st)) rfl rfl (X.hb hd)) k
theorem F_aaload (X : Ww l Z R bytes mL ret own nm p e s m args below meth c vm T cells slots) {a : Addr} {kA : ClassId} {z j : Int32} {vs : List Value} {dv v : Value} {ty : FieldType} (hd : decode bytes pc = .ok (.aaload, 1)) (V : Arv Z T.heap a kA ty z vs dv) (hty : ty.isReference = true) (hj : ¬ j < 0 ∧ j < z) (hv : vs.getD j.toNatClampNeg dv = v) {pc' : Nat} (hp : pc + 1 = pc')
    (k : EndW p e below s Z Q cC cS T (mkF m pc' Ls (v :: st))) : EndW p e below s Z Q cC cS T (mkF m pc Ls (.int j :: .ref a :: st)) := by
  subst hp; obtain ⟨q0, qq, locs, Y, N, O⟩ := id X
  obtain ⟨cl, A, q1, S1, N1, H1, G1⟩ := V
  exact F_by (Y.aaload X.hx A.1 (State.isArrayOf_alike X.hZ.alike A.2.1) hty A.2.2 (inb_of S1 hj) (Has.at H1 (inb_of S1 hj) hv) (g := mkF m pc Ls (.int j :: .ref a :: st)) rfl rfl (X.hb hd)) k
theorem F_arraylength (X : Ww l Z R bytes mL ret own nm p e s m args below meth c vm T cells slots) {a : Addr} {kA : ClassId} {z : Int32} {vs : List Value} {dv : Value} {ty : FieldType} (hd : decode bytes pc = .ok (.arraylength, 1)) (V : Arv Z T.heap a kA ty z vs dv) {pc' : Nat} (hp : pc + 1 = pc')
    (k : EndW p e below s Z Q cC cS T (mkF m pc' Ls (.int z :: st))) : EndW p e below s Z Q cC cS T (mkF m pc Ls (.ref a :: st)) := by
  subst hp; obtain ⟨q0, qq, locs, Y, N, O⟩ := id X
  obtain ⟨cl, A, q1, S1, N1, H1, G1⟩ := V
  refine F_by (Y.arraylength X.hx A.1 (State.isArrayOf_alike X.hZ.alike A.2.1) (g := mkF m pc Ls (.ref a :: st)) rfl rfl (X.hb hd)) ?_
  rw [len_of S1 N1]; exact k
theorem F_getfield (X : Ww l Z R bytes mL ret own nm p e s m args below meth c vm T cells slots) {a : Addr} {O n d R0 : String} {ix : Nat} {v : Value} (hd : decode bytes pc = .ok (.getfield ix, 3)) (w : (Jvm.Cond.fieldLink own ix R0 n d).before a0 Z = true) (via : Via Z R0 O n d) (F : Fld Z T.heap a O n d v) {pc' : Nat} (hp : pc + 3 = pc')
    (k : ∀ (T' : State), Ww l Z R bytes mL ret own nm p e s m args below meth c vm T' cells slots → T'.heap = T.heap → EndW p e below s Z Q cC cS T' (mkF m pc' Ls (v :: st))) : EndW p e below s Z Q cC cS T (mkF m pc Ls (.ref a :: st)) := by
  subst hp; obtain ⟨q0, qq, locs, Y, N, Od⟩ := id X
  obtain ⟨T', Y', e1, stp⟩ := getF Y X.hx X.hZ X.hown (host := "") (Or.inl w) via rfl F (g := mkF m pc Ls (.ref a :: st)) rfl rfl (X.hb hd)
  exact F_by stp (k T' (X.go Y' N (own_ks e1) all0 sf0) e1)
theorem F_getstatic (X : Ww l Z R bytes mL ret own nm p e s m args below meth c vm T cells slots) {O n d R0 : String} {ix : Nat} {v : Value} (hd : decode bytes pc = .ok (.getstatic ix, 3)) (w : (Jvm.Cond.fieldLink own ix R0 n d).before a0 Z = true) (via : Via Z R0 O n d) (F : Sta Z Z.heap O n d v) {pc' : Nat} (hp : pc + 3 = pc')
    (k : ∀ (T' : State), Ww l Z R bytes mL ret own nm p e s m args below meth c vm T' cells slots → T'.heap = T.heap → EndW p e below s Z Q cC cS T' (mkF m pc' Ls (v :: st))) : EndW p e below s Z Q cC cS T (mkF m pc Ls st) := by
  subst hp; obtain ⟨q0, qq, locs, Y, N, Od⟩ := id X
  obtain ⟨T', Y', e1, stp⟩ := getS Y X.hx X.hZ (host := "") X.hown w via rfl (F.ext Od) (g := mkF m pc Ls st) rfl (X.hb hd)
  exact F_by stp (k T' (X.go Y' N (own_ks e1) all0 sf0) e1)
theorem F_putfield (X : Ww l Z R bytes mL ret own nm p e s m args below meth c vm T cells slots) {a : Addr} {O n d R0 C : String} {ix kk : Nat} {v old : Value} {ty : FieldType} (hd : decode bytes pc = .ok (.putfield ix, 3)) (w : (Jvm.Cond.fieldLink own ix R0 n d).before a0 Z = true) (via : Via Z R0 O n d) (F : Fld Z T.heap a O n d old) (E : Exa Z T.heap a C) (L : (Jvm.Cond.lays C O n d).before a0 Z = true ∨ ((Jvm.Cond.laysFinal C O n d).before a0 Z = true ∧ own = O ∧ nm = "<init>")) (wi : (Jvm.Cond.instantiable C kk).before a0 Z = true) (hty : parseFieldDescriptor d = some ty) (hn : narrow ty v = v) (hf : fits ty v = true) (ha : Z.heap.size ≤ a) (hsf : Safe Z EL vm T.heap a) {pc' : Nat} (hp : pc + 3 = pc')
    (k : ∀ (T' : State), Ww l Z R bytes mL ret own nm p e s m args below meth c vm T' cells slots → Wr T.heap T'.heap a (Jvm.RoadKit.slotOf Z O n d) v → EndW p e below s Z Q cC cS T' (mkF m pc' Ls st)) : EndW p e below s Z Q cC cS T (mkF m pc Ls (v :: .ref a :: st)) := by
  subst hp; obtain ⟨q0, qq, locs, Y, N, Od⟩ := id X
  obtain ⟨T', h', Y', rfl, W, stp⟩ := putF Y X.hx X.hZ X.hown (host := "") (Or.inl w) via rfl F E (L.imp id fun q => ⟨q.1, q.2.1, q0.2.2.2.2.2.2.1.trans q.2.2⟩) wi hty hn hf (g := mkF m pc Ls (v :: .ref a :: st)) rfl rfl (X.hb hd)
  exact F_by stp (k T' (X.go Y' (Fr.snoc Y' N ha) (Keep.of_wr W) (allS ha all0) (sfS hsf sf0)) W)
theorem F_initO (X : Ww l Z R bytes mL ret own nm p e s m args below meth c vm T cells slots) {a : Addr} {ix : Nat} (hd : decode bytes pc = .ok (.invokespecial ix, 3)) (w1 : (Jvm.Cond.methodLink own ix Lib.objectInit).before a0 Z = true) (w2 : (Jvm.Cond.instanceMethod Lib.objectInit).before a0 Z = true) (w3 : (Jvm.Cond.code Lib.objectInit ⟨#[0xb1]⟩ 1 none).before a0 Z = true) (hsz : Ls.size = mL) (hf : 1 ≤ R.frames) (hl : (st.map fun v => v.category).sum + 12 ≤ R.locals) {pc' : Nat} (hp : pc + 3 = pc')
    (k : ∀ (T' : State), Ww l Z R bytes mL ret own nm p e s m args below meth c vm T' cells slots → T'.heap = T.heap → EndW p e below s Z Q cC cS T' (mkF m pc' Ls st)) : EndW p e below s Z Q cC cS T (mkF m pc Ls (.ref a :: st)) := by
  subst hp; obtain ⟨q0, qq, locs, Y, N, Od⟩ := id X
  obtain ⟨T', Y', e1, stp⟩ := initO Y X.hx X.hZ X.hown w1 w2 w3 rfl (g := mkF m pc Ls (.ref a :: st)) rfl (X.size hsz) rfl (X.hb hd) hf (W := (st.map fun v => v.category).sum) (by show 2 * 0 + _ ≤ _; omega) hl
  exact F_by stp (k T' (X.go Y' N (own_ks e1) all0 sf0) e1)
theorem F_checkcast (X : Ww l Z R bytes mL ret own nm p e s m args below meth c vm T cells slots) {a : Addr} {K : String} {ix : Nat} (hd : decode bytes pc = .ok (.checkcast ix, 3)) (w : (Jvm.Cond.classLink own ix K).before a0 Z = true) (F : Ins Z T.heap a K true) {pc' : Nat} (hp : pc + 3 = pc')
    (k : ∀ (T' : State), Ww l Z R bytes mL ret own nm p e s m args below meth c vm T' cells slots → T'.heap = T.heap → EndW p e below s Z Q cC cS T' (mkF m pc' Ls (.ref a :: st))) : EndW p e below s Z Q cC cS T (mkF m pc Ls (.ref a :: st)) := by
  subst hp; obtain ⟨q0, qq, locs, Y, N, Od⟩ := id X
  obtain ⟨T', Y', e1, stp⟩ := castY Y X.hx X.hZ X.hown w rfl F (g := mkF m pc Ls (.ref a :: st)) rfl rfl (X.hb hd)
  exact F_by stp (k T' (X.go Y' N (own_ks e1) all0 sf0) e1)
theorem F_instY (X : Ww l Z R bytes mL ret own nm p e s m args below meth c vm T cells slots) {a : Addr} {K : String} {ix : Nat} (hd : decode bytes pc = .ok (.instanceof ix, 3)) (w : (Jvm.Cond.classLink own ix K).before a0 Z = true) (F : Ins Z T.heap a K true) {pc' : Nat} (hp : pc + 3 = pc')
    (k : ∀ (T' : State), Ww l Z R bytes mL ret own nm p e s m args below meth c vm T' cells slots → T'.heap = T.heap → EndW p e below s Z Q cC cS T' (mkF m pc' Ls (.int 1 :: st))) : EndW p e below s Z Q cC cS T (mkF m pc Ls (.ref a :: st)) := by
  subst hp; obtain ⟨q0, qq, locs, Y, N, Od⟩ := id X
  obtain ⟨T', Y', e1, stp⟩ := instY Y X.hx X.hZ X.hown w rfl F (g := mkF m pc Ls (.ref a :: st)) rfl rfl (X.hb hd)
  exact F_by stp (k T' (X.go Y' N (own_ks e1) all0 sf0) e1)

theorem F_ldcS (X : Ww l Z R bytes mL ret own nm p e s m args below meth c vm T cells slots) {ix n : Nat} {text : String} {vs : List Value} {z : Int32} (hd : decode bytes pc = .ok (.ldc ix, 2)) (w : (Jvm.Cond.stringLink own ix text).before a0 Z = true) (wS : ∀ a ∈ Bundle.stringAtoms, a.before a0 Z = true) (hE : EW Z a0 EL) (hmem : (own, ix) ∈ EL) (ht : (∀ c ∈ text.toList, c.toNat < 256) ∧ text.toList.map (fun c => Value.int (Jvm.Lit.byteI c.toNat.toUInt16)) = vs) (hz : ¬ z < 0) (hl : z.toNatClampNeg = vs.length) (hn : 4 * text.toList.length ≤ n) (hbig : n ≤ 536870912) (hc : cells + 2 ≤ R.cells) (hs : slots + (n + 4) ≤ R.slots) {pc' : Nat} (hp : pc + 2 = pc')
    (k : ∀ (T' : State) (a b : Addr) (kb : ClassId), Ww l Z R bytes mL ret own nm p e s m args below meth c T'.vm T' (cells + 2) (slots + (n + 4)) → Keep T.heap T'.heap [] → Exa Z T'.heap a "java/lang/String" → Fld Z T'.heap a "java/lang/String" "coder" "B" (.int 0) → Fld Z T'.heap a "java/lang/String" "value" "[B" (.ref b) → Arv Z T'.heap b kb .byte z vs (.int 0) → (∀ x, x < T.heap.size → Safe Z EL vm T.heap x → Safe Z EL T'.vm T'.heap x ∧ x ≠ a ∧ x ≠ b) → EndW p e below s Z Q cC cS T' (mkF m pc' Ls (.ref a :: st))) : EndW p e below s Z Q cC cS T (mkF m pc Ls st) := by
  subst hp; obtain ⟨q0, ⟨⟨k0, hS, hk⟩, hE1, hC⟩, locs, Y, N, O⟩ := id X
  obtain ⟨a, T', h', k1, b, kb, Y', rfl, E, hS', hk', hW', hf', x1, x2, x3, x4, l1, l2, hC', hL, hsf, stp⟩ := ldcCH Y X.hx X.hZ X.hown w wS rfl hS hk hE hmem X.ch ht hz hl (g := mkF m pc Ls st) rfl (X.hb hd) hn hbig hc hs
  refine F_by stp (k T' a b kb ⟨⟨q0.1, q0.2.1, q0.2.2.1, q0.2.2.2.1, q0.2.2.2.2.1, hf', q0.2.2.2.2.2.2.1, hW'⟩, ⟨⟨k1, hS', hk'⟩, hE1, hC.trans hC'⟩, locs, Y', N, Keep.old O (Keep.of_ext E) all0⟩ (Keep.of_ext E) x1 x2 x3 x4 fun x hx hs => ?_)
  have q := hC'.safe hx hs
  exact ⟨q, hsf x q⟩
theorem F_staticB (X : Ww l Z R bytes mL ret own nm p e s m args below meth c vm T cells slots) {y : MethodName} {ix : Nat} {bytes' : ByteArray} {mL' : Nat} {ret' : Option FieldType} {Q' : Option Value → Heap → Prop} {argsL : List Value} {Q2 : Option Value → Heap → List Loc → Prop} {rC rS : Nat} (hd : decode bytes pc = .ok (.invokestatic ix, 3)) (w1 : (Jvm.Cond.methodLink own ix y).before a0 Z = true) (w2 : (Jvm.Cond.static y).before a0 Z = true) (w3 : (Jvm.Cond.initialized y.cls).before a0 Z = true) (w4 : (Jvm.Cond.code y bytes' mL' ret').before a0 Z = true) (hy : y.cls ≠ "java/lang/invoke/MethodHandle" ∧ y.cls ≠ "java/lang/invoke/VarHandle") {st0 : List Value} (hst : st0 = argsL.reverse ++ st) (hK : Back l R p e below (s.setVm vm) args y 3 ((st.map fun v => v.category).sum) (fun A aa => aa = argsL.toArray ∧ A.U.heap = T.heap ∧ A.cells + rC ≤ R.cells ∧ A.slots + rS ≤ R.slots) (fun A _ v B => ∃ L, Q2 v B.U.heap L ∧ B.locs = A.locs ++ L ∧ B.cells = A.cells + rC ∧ B.slots = A.slots + rS)) (hQ2 : ∀ v h L, Q2 v h L → Fr Z.heap.size L ∧ Ext Z.heap h ∧ Q' v h) (hlen : ∀ sig, parseMethodDescriptor y.desc = some sig → argsL.length = sig.parameters.length) (hsz : Ls.size = mL) (hcl : cells + rC ≤ R.cells) (hsl : slots + rS ≤ R.slots) (ws : List Addr) (hkp : ∀ v h, Q' v h → Keep T.heap h ws) (hsf : ∀ x ∈ ws, Safe Z EL vm T.heap x) {pc' : Nat} (hp : pc + 3 = pc')
    (k : ∀ (T' : State) (v : Option Value), Ww l Z R bytes mL ret own nm p e s m args below meth c vm T' (cells + rC) (slots + rS) → Q' v T'.heap → EndW p e below s Z Q cC cS T' (mkF m pc' Ls (v.toList ++ st))) : EndW p e below s Z Q cC cS T (mkF m pc Ls st0) := by
  subst hp hst; obtain ⟨q0, qq, locs, Y, N, Od⟩ := id X
  obtain ⟨v, _, ⟨T', L1, k1, n1⟩, -, Y', ⟨Lc, hQ, l1, y1, z1⟩, stp⟩ := Jvm.LawKit.callS Y X.hx (y := y) X.hown (mvT X.hZ w1) (mvT X.hZ w2) (mvT X.hZ w3) (mvT X.hZ w4) hy hK (g := mkF m pc Ls (argsL.reverse ++ st)) rfl (X.size hsz) (argsL := argsL) (rest := st) hlen rfl (by show 2 * 0 + _ ≤ _; omega) (X.hb hd) (fun _ _ => ⟨rfl, rfl, hcl, hsl⟩)
  dsimp only [Pt.U, Pt.locs, Pt.cells, Pt.slots] at Y' l1 y1 z1 stp hQ
  subst l1 y1 z1
  obtain ⟨f1, f2, f3⟩ := hQ2 _ _ _ hQ
  exact F_by stp (k T' v (X.go2 Y' (Fr.app N f1) f2 (hkp _ _ f3) hsf) f3)

theorem F_static (X : Ww l Z R bytes mL ret own nm p e s m args below meth c vm T cells slots) {y : MethodName} {ix : Nat} {bytes' : ByteArray} {mL' : Nat} {ret' : Option FieldType} {Q' : Option Value → Heap → Prop} {argsL : List Value} {rm : Room} (hd : decode bytes pc = .ok (.invokestatic ix, 3)) (w1 : (Jvm.Cond.methodLink own ix y).before a0 Z = true) (w2 : (Jvm.Cond.static y).before a0 Z = true) (w3 : (Jvm.Cond.initialized y.cls).before a0 Z = true) (w4 : (Jvm.Cond.code y bytes' mL' ret').before a0 Z = true) (hy : y.cls ≠ "java/lang/invoke/MethodHandle" ∧ y.cls ≠ "java/lang/invoke/VarHandle")  {st0 : List Value} (hst : st0 = argsL.reverse ++ st) (hC : Ct l Z y bytes' mL' ret' rm argsL.toArray T.heap Q') (hlen : ∀ sig, parseMethodDescriptor y.desc = some sig → argsL.length = sig.parameters.length) (hsz : Ls.size = mL) (hcl : cells + rm.cells ≤ R.cells) (hsl : slots + rm.slots ≤ R.slots) (hfr : rm.frames + 1 ≤ R.frames) (hlo : (st.map fun v => v.category).sum + (mL' + 11) + rm.locals ≤ R.locals) (ws : List Addr) (hkp : ∀ v h, Q' v h → Keep T.heap h ws) (hsf : ∀ x ∈ ws, Safe Z EL vm T.heap x) {pc' : Nat} (hp : pc + 3 = pc')
    (k : ∀ (T' : State) (v : Option Value), Ww l Z R bytes mL ret own nm p e s m args below meth c vm T' (cells + rm.cells) (slots + rm.slots) → Q' v T'.heap → EndW p e below s Z Q cC cS T' (mkF m pc' Ls (v.toList ++ st))) : EndW p e below s Z Q cC cS T (mkF m pc Ls st0) :=
  F_staticB X hd w1 w2 w3 w4 hy hst (hC.back X.hZ w4 w3 hfr hlo) (fun _ _ _ q => q) hlen hsz hcl hsl ws hkp hsf hp k

theorem G_static (X : Ww l Z R bytes mL ret own nm p e s m args below meth c vm T cells slots) {y : MethodName} {ix : Nat} {bytes' : ByteArray} {mL' : Nat} {ret' : Option FieldType} {Q' : Option Value → Heap → Prop} {argsL : List Value} {rm : Room} (hd : decode bytes pc = .ok (.invokestatic ix, 3)) (w1 : (Jvm.Cond.methodLink own ix y).before a0 Z = true) (w2 : (Jvm.Cond.static y).before a0 Z = true) (w3 : (Jvm.Cond.initialized y.cls).before a0 Z = true) (w4 : (Jvm.Cond.code y bytes' mL' ret').before a0 Z = true) (hy : y.cls ≠ "java/lang/invoke/MethodHandle" ∧ y.cls ≠ "java/lang/invoke/VarHandle")  {st0 : List Value} (hst : st0 = argsL.reverse ++ st) (hC : CtW l Z y bytes' mL' ret' rm argsL.toArray T.heap Q') (hlen : ∀ sig, parseMethodDescriptor y.desc = some sig → argsL.length = sig.parameters.length) (hsz : Ls.size = mL) (hcl : cells + rm.cells ≤ R.cells) (hsl : slots + rm.slots ≤ R.slots) (hfr : rm.frames + 1 ≤ R.frames) (hlo : (st.map fun v => v.category).sum + (mL' + 11) + rm.locals ≤ R.locals) {pc' : Nat} (hp : pc + 3 = pc')
    (k : ∀ (T' : State) (v : Option Value), Ww l Z R bytes mL ret own nm p e s m args below meth c T'.vm T' (cells + rm.cells) (slots + rm.slots) → Q' v T'.heap → (∀ x, x < T.heap.size → Safe Z EL vm T.heap x → Safe Z EL T'.vm T'.heap x) → EndW p e below s Z Q cC cS T' (mkF m pc' Ls (v.toList ++ st))) : EndW p e below s Z Q cC cS T (mkF m pc Ls st0) := by
  subst hp hst; obtain ⟨q0, ⟨⟨k0, hS, hk⟩, ⟨a1, hE1⟩, hC0⟩, locs, Y, N, Od⟩ := id X
  obtain ⟨v, _, ⟨T', L1, k1, n1⟩, -, Y', hS2, hgr, ⟨Lc, hQ, l1, y1, z1, hC1⟩, stp⟩ := callSS Y X.hx (y := y) X.hown (mvT (s := s.setVm vm) X.hZ w1) (mvT (s := s.setVm vm) X.hZ w2) (mvT (s := s.setVm vm) X.hZ w3) (mvT (s := s.setVm vm) X.hZ w4) hy (hC.back X.hZ w4 w3 hfr hlo hE1 X.ch) (g := mkF m pc Ls (argsL.reverse ++ st)) rfl (X.size hsz) (argsL := argsL) (rest := st) hlen rfl (by show 2 * 0 + _ ≤ _; omega) (X.hb hd) (fun _ _ => ⟨rfl, rfl, hcl, hsl⟩)
  dsimp only [Pt.U, Pt.locs, Pt.cells, Pt.slots] at Y' l1 y1 z1 stp hQ hS2 hgr hC1
  subst l1 y1 z1
  have hW2 : Z.Warmed39 T'.vm := State.Warmed39.trans (t := s.setVm vm) X.hZ hS2.1
  have hf2 : T'.vm.findClass own = some m.cls := by rw [hS2.1.alike.findClass]; exact X.hown
  exact F_tr stp (k T' v ⟨⟨q0.1, q0.2.1, q0.2.2.1, q0.2.2.2.1, q0.2.2.2.2.1, hf2, q0.2.2.2.2.2.2.1, hW2⟩, ⟨⟨_, foldS hS hk hS2 hgr, Nat.le_refl _⟩, ⟨a1, hE1⟩, hC0.trans hC1⟩, _, Y', Fr.app N hQ.1, hQ.2.1⟩ hQ.2.2 (fun x hx hs => hC1.safe hx hs))

theorem F_specialB (X : Ww l Z R bytes mL ret own nm p e s m args below meth c vm T cells slots) {y : MethodName} {ix : Nat} {bytes' : ByteArray} {mL' : Nat} {ret' : Option FieldType} {Q' : Option Value → Heap → Prop} {argsL : List Value} {Q2 : Option Value → Heap → List Loc → Prop} {rC rS : Nat} {a : Addr} (hd : decode bytes pc = .ok (.invokespecial ix, 3)) (hy1 : y.name = "<init>") (hret : ret' = none) (w1 : (Jvm.Cond.methodLink own ix y).before a0 Z = true) (w2 : (Jvm.Cond.instanceMethod y).before a0 Z = true) (w4 : (Jvm.Cond.code y bytes' mL' ret').before a0 Z = true) (hy : y.cls ≠ "java/lang/invoke/MethodHandle" ∧ y.cls ≠ "java/lang/invoke/VarHandle") {st0 : List Value} (hst : st0 = argsL.reverse ++ .ref a :: st) (hK : Back l R p e below (s.setVm vm) args y 3 ((st.map fun v => v.category).sum) (fun A aa => aa = (.ref a :: argsL).toArray ∧ A.U.heap = T.heap ∧ A.cells + rC ≤ R.cells ∧ A.slots + rS ≤ R.slots) (fun A _ v B => ∃ L, Q2 v B.U.heap L ∧ B.locs = A.locs ++ L ∧ B.cells = A.cells + rC ∧ B.slots = A.slots + rS)) (hQ2 : ∀ v h L, Q2 v h L → Fr Z.heap.size L ∧ Ext Z.heap h ∧ Q' v h) (hlen : ∀ sig, parseMethodDescriptor y.desc = some sig → argsL.length = sig.parameters.length) (hsz : Ls.size = mL) (hcl : cells + rC ≤ R.cells) (hsl : slots + rS ≤ R.slots) (ws : List Addr) (hkp : ∀ v h, Q' v h → Keep T.heap h ws) (hsf : ∀ x ∈ ws, Safe Z EL vm T.heap x) {pc' : Nat} (hp : pc + 3 = pc')
    (k : ∀ (T' : State) (v : Option Value), Ww l Z R bytes mL ret own nm p e s m args below meth c vm T' (cells + rC) (slots + rS) → Q' v T'.heap → EndW p e below s Z Q cC cS T' (mkF m pc' Ls (v.toList ++ st))) : EndW p e below s Z Q cC cS T (mkF m pc Ls st0) := by
  subst hp hst; obtain ⟨q0, qq, locs, Y, N, Od⟩ := id X
  subst hret
  obtain ⟨v, _, ⟨T', L1, k1, n1⟩, -, Y', ⟨Lc, hQ, l1, y1, z1⟩, stp⟩ := Y.specialBack X.hx (y := y) hy1 X.hown (mvT X.hZ w1) (mvT X.hZ w2) (mvT X.hZ w4) hy hK (g := mkF m pc Ls (argsL.reverse ++ .ref a :: st)) rfl (X.size hsz) (Steps.refl _) (a := a) (argsL := argsL) (rest := st) hlen rfl (by show 2 * 0 + _ ≤ _; omega) (X.hb hd) (fun _ _ => ⟨rfl, rfl, hcl, hsl⟩)
  dsimp only [Pt.U, Pt.locs, Pt.cells, Pt.slots] at Y' l1 y1 z1 stp hQ
  subst l1 y1 z1
  obtain ⟨f1, f2, f3⟩ := hQ2 _ _ _ hQ
  exact F_tr stp (k T' v (X.go2 Y' (Fr.app N f1) f2 (hkp _ _ f3) hsf) f3)

theorem F_special (X : Ww l Z R bytes mL ret own nm p e s m args below meth c vm T cells slots) {y : MethodName} {ix : Nat} {bytes' : ByteArray} {mL' : Nat} {ret' : Option FieldType} {Q' : Option Value → Heap → Prop} {argsL : List Value} {rm : Room} {a : Addr} (hd : decode bytes pc = .ok (.invokespecial ix, 3)) (hy1 : y.name = "<init>") (hret : ret' = none) (w1 : (Jvm.Cond.methodLink own ix y).before a0 Z = true) (w2 : (Jvm.Cond.instanceMethod y).before a0 Z = true) (w4 : (Jvm.Cond.code y bytes' mL' ret').before a0 Z = true) (hy : y.cls ≠ "java/lang/invoke/MethodHandle" ∧ y.cls ≠ "java/lang/invoke/VarHandle") (w3 : (Jvm.Cond.initialized y.cls).before a0 Z = true) {st0 : List Value} (hst : st0 = argsL.reverse ++ .ref a :: st) (hC : Ct l Z y bytes' mL' ret' rm (.ref a :: argsL).toArray T.heap Q') (hlen : ∀ sig, parseMethodDescriptor y.desc = some sig → argsL.length = sig.parameters.length) (hsz : Ls.size = mL) (hcl : cells + rm.cells ≤ R.cells) (hsl : slots + rm.slots ≤ R.slots) (hfr : rm.frames + 1 ≤ R.frames) (hlo : (st.map fun v => v.category).sum + (mL' + 11) + rm.locals ≤ R.locals) (ws : List Addr) (hkp : ∀ v h, Q' v h → Keep T.heap h ws) (hsf : ∀ x ∈ ws, Safe Z EL vm T.heap x) {pc' : Nat} (hp : pc + 3 = pc')
    (k : ∀ (T' : State) (v : Option Value), Ww l Z R bytes mL ret own nm p e s m args below meth c vm T' (cells + rm.cells) (slots + rm.slots) → Q' v T'.heap → EndW p e below s Z Q cC cS T' (mkF m pc' Ls (v.toList ++ st))) : EndW p e below s Z Q cC cS T (mkF m pc Ls st0) :=
  F_specialB X hd hy1 hret w1 w2 w4 hy hst (hC.back X.hZ w4 w3 hfr hlo) (fun _ _ _ q => q) hlen hsz hcl hsl ws hkp hsf hp k

theorem G_special (X : Ww l Z R bytes mL ret own nm p e s m args below meth c vm T cells slots) {y : MethodName} {ix : Nat} {bytes' : ByteArray} {mL' : Nat} {ret' : Option FieldType} {Q' : Option Value → Heap → Prop} {argsL : List Value} {rm : Room} {a : Addr} (hd : decode bytes pc = .ok (.invokespecial ix, 3)) (hy1 : y.name = "<init>") (hret : ret' = none) (w1 : (Jvm.Cond.methodLink own ix y).before a0 Z = true) (w2 : (Jvm.Cond.instanceMethod y).before a0 Z = true) (w4 : (Jvm.Cond.code y bytes' mL' ret').before a0 Z = true) (hy : y.cls ≠ "java/lang/invoke/MethodHandle" ∧ y.cls ≠ "java/lang/invoke/VarHandle") (w3 : (Jvm.Cond.initialized y.cls).before a0 Z = true) {st0 : List Value} (hst : st0 = argsL.reverse ++ .ref a :: st) (hC : CtW l Z y bytes' mL' ret' rm (.ref a :: argsL).toArray T.heap Q') (hlen : ∀ sig, parseMethodDescriptor y.desc = some sig → argsL.length = sig.parameters.length) (hsz : Ls.size = mL) (hcl : cells + rm.cells ≤ R.cells) (hsl : slots + rm.slots ≤ R.slots) (hfr : rm.frames + 1 ≤ R.frames) (hlo : (st.map fun v => v.category).sum + (mL' + 11) + rm.locals ≤ R.locals) {pc' : Nat} (hp : pc + 3 = pc')
    (k : ∀ (T' : State) (v : Option Value), Ww l Z R bytes mL ret own nm p e s m args below meth c T'.vm T' (cells + rm.cells) (slots + rm.slots) → Q' v T'.heap → (∀ x, x < T.heap.size → Safe Z EL vm T.heap x → Safe Z EL T'.vm T'.heap x) → EndW p e below s Z Q cC cS T' (mkF m pc' Ls (v.toList ++ st))) : EndW p e below s Z Q cC cS T (mkF m pc Ls st0) := by
  subst hp hst; obtain ⟨q0, ⟨⟨k0, hS, hk⟩, ⟨a1, hE1⟩, hC0⟩, locs, Y, N, Od⟩ := id X
  subst hret
  obtain ⟨v, _, ⟨T', L1, k1, n1⟩, -, Y', hS2, hgr, ⟨Lc, hQ, l1, y1, z1, hC1⟩, stp⟩ := Y.specialBackS X.hx (y := y) hy1 X.hown (mvT (s := s.setVm vm) X.hZ w1) (mvT (s := s.setVm vm) X.hZ w2) (mvT (s := s.setVm vm) X.hZ w4) hy (hC.back X.hZ w4 w3 hfr hlo hE1 X.ch) (g := mkF m pc Ls (argsL.reverse ++ .ref a :: st)) rfl (X.size hsz) (Steps.refl _) (a := a) (argsL := argsL) (rest := st) hlen rfl (by show 2 * 0 + _ ≤ _; omega) (X.hb hd) (fun _ _ => ⟨rfl, rfl, hcl, hsl⟩)
  dsimp only [Pt.U, Pt.locs, Pt.cells, Pt.slots] at Y' l1 y1 z1 stp hQ hS2 hgr hC1
  subst l1 y1 z1
  have hW2 : Z.Warmed39 T'.vm := State.Warmed39.trans (t := s.setVm vm) X.hZ hS2.1
  have hf2 : T'.vm.findClass own = some m.cls := by rw [hS2.1.alike.findClass]; exact X.hown
  exact F_tr stp (k T' v ⟨⟨q0.1, q0.2.1, q0.2.2.1, q0.2.2.2.1, q0.2.2.2.2.1, hf2, q0.2.2.2.2.2.2.1, hW2⟩, ⟨⟨_, foldS hS hk hS2 hgr, Nat.le_refl _⟩, ⟨a1, hE1⟩, hC0.trans hC1⟩, _, Y', Fr.app N hQ.1, hQ.2.1⟩ hQ.2.2 (fun x hx hs => hC1.safe hx hs))

theorem F_virtualB (X : Ww l Z R bytes mL ret own nm p e s m args below meth c vm T cells slots) {y : MethodName} {ix : Nat} {Q' : Option Value → Heap → Prop} {argsL : List Value} {Q2 : Option Value → Heap → List Loc → Prop} {rC rS : Nat} {a : Addr} {z : MethodName} {D : String} (hd : decode bytes pc = .ok (.invokevirtual ix, 3)) (w1 : (Jvm.Cond.methodLink own ix y).before a0 Z = true) (w2 : (Jvm.Cond.declares y).before a0 Z = true) (w5 : (Jvm.Cond.selects D y z).before a0 Z = true) (w6 : (Jvm.Cond.instanceMethod z).before a0 Z = true) (hnf : NotFace (s.setVm vm) y) (hy : y.cls ≠ "java/lang/invoke/MethodHandle" ∧ y.cls ≠ "java/lang/invoke/VarHandle") (E : Exa Z T.heap a D) {st0 : List Value} (hst : st0 = argsL.reverse ++ .ref a :: st) (hK : Back l R p e below (s.setVm vm) args z 3 ((st.map fun v => v.category).sum) (fun A aa => aa = (.ref a :: argsL).toArray ∧ A.U.heap = T.heap ∧ A.cells + rC ≤ R.cells ∧ A.slots + rS ≤ R.slots) (fun A _ v B => ∃ L, Q2 v B.U.heap L ∧ B.locs = A.locs ++ L ∧ B.cells = A.cells + rC ∧ B.slots = A.slots + rS)) (hQ2 : ∀ v h L, Q2 v h L → Fr Z.heap.size L ∧ Ext Z.heap h ∧ Q' v h) (hlen : ∀ sig, parseMethodDescriptor y.desc = some sig → argsL.length = sig.parameters.length) (hsz : Ls.size = mL) (hcl : cells + rC ≤ R.cells) (hsl : slots + rS ≤ R.slots) (ws : List Addr) (hkp : ∀ v h, Q' v h → Keep T.heap h ws) (hsf : ∀ x ∈ ws, Safe Z EL vm T.heap x) {pc' : Nat} (hp : pc + 3 = pc')
    (k : ∀ (T' : State) (v : Option Value), Ww l Z R bytes mL ret own nm p e s m args below meth c vm T' (cells + rC) (slots + rS) → Q' v T'.heap → EndW p e below s Z Q cC cS T' (mkF m pc' Ls (v.toList ++ st))) : EndW p e below s Z Q cC cS T (mkF m pc Ls st0) := by
  subst hp hst; obtain ⟨q0, qq, locs, Y, N, Od⟩ := id X
  obtain ⟨cq, kq, qa, qb, qc⟩ := isOf (s := s.setVm vm) X.hZ rfl E
  obtain ⟨v, _, ⟨T', L1, k1, n1⟩, -, Y', ⟨Lc, hQ, l1, y1, z1⟩, stp⟩ := Y.virtualBack X.hx (y := y) (z := z) X.hown (mvT X.hZ w1) (mvT X.hZ w2) hnf (mvT X.hZ w5) (mvT X.hZ w6) hy hK qa qc (g := mkF m pc Ls (argsL.reverse ++ .ref a :: st)) rfl (X.size hsz) (Steps.refl _) (argsL := argsL) (rest := st) hlen rfl (by show 2 * 0 + _ ≤ _; omega) (X.hb hd) (fun _ _ => ⟨rfl, rfl, hcl, hsl⟩)
  dsimp only [Pt.U, Pt.locs, Pt.cells, Pt.slots] at Y' l1 y1 z1 stp hQ
  subst l1 y1 z1
  obtain ⟨f1, f2, f3⟩ := hQ2 _ _ _ hQ
  exact F_tr stp (k T' v (X.go2 Y' (Fr.app N f1) f2 (hkp _ _ f3) hsf) f3)

theorem F_virtual (X : Ww l Z R bytes mL ret own nm p e s m args below meth c vm T cells slots) {y : MethodName} {ix : Nat} {bytes' : ByteArray} {mL' : Nat} {ret' : Option FieldType} {Q' : Option Value → Heap → Prop} {argsL : List Value} {rm : Room} {a : Addr} {z : MethodName} {D : String} (hd : decode bytes pc = .ok (.invokevirtual ix, 3)) (w1 : (Jvm.Cond.methodLink own ix y).before a0 Z = true) (w2 : (Jvm.Cond.declares y).before a0 Z = true) (w5 : (Jvm.Cond.selects D y z).before a0 Z = true) (w6 : (Jvm.Cond.instanceMethod z).before a0 Z = true) (hnf : NotFace (s.setVm vm) y) (hy : y.cls ≠ "java/lang/invoke/MethodHandle" ∧ y.cls ≠ "java/lang/invoke/VarHandle") (E : Exa Z T.heap a D) (w3 : (Jvm.Cond.initialized z.cls).before a0 Z = true) (w4 : (Jvm.Cond.code z bytes' mL' ret').before a0 Z = true) {st0 : List Value} (hst : st0 = argsL.reverse ++ .ref a :: st) (hC : Ct l Z z bytes' mL' ret' rm (.ref a :: argsL).toArray T.heap Q') (hlen : ∀ sig, parseMethodDescriptor y.desc = some sig → argsL.length = sig.parameters.length) (hsz : Ls.size = mL) (hcl : cells + rm.cells ≤ R.cells) (hsl : slots + rm.slots ≤ R.slots) (hfr : rm.frames + 1 ≤ R.frames) (hlo : (st.map fun v => v.category).sum + (mL' + 11) + rm.locals ≤ R.locals) (ws : List Addr) (hkp : ∀ v h, Q' v h → Keep T.heap h ws) (hsf : ∀ x ∈ ws, Safe Z EL vm T.heap x) {pc' : Nat} (hp : pc + 3 = pc')
    (k : ∀ (T' : State) (v : Option Value), Ww l Z R bytes mL ret own nm p e s m args below meth c vm T' (cells + rm.cells) (slots + rm.slots) → Q' v T'.heap → EndW p e below s Z Q cC cS T' (mkF m pc' Ls (v.toList ++ st))) : EndW p e below s Z Q cC cS T (mkF m pc Ls st0) :=
  F_virtualB X hd w1 w2 w5 w6 hnf hy E hst (hC.back X.hZ w4 w3 hfr hlo) (fun _ _ _ q => q) hlen hsz hcl hsl ws hkp hsf hp k

theorem G_virtual (X : Ww l Z R bytes mL ret own nm p e s m args below meth c vm T cells slots) {y : MethodName} {ix : Nat} {bytes' : ByteArray} {mL' : Nat} {ret' : Option FieldType} {Q' : Option Value → Heap → Prop} {argsL : List Value} {rm : Room} {a : Addr} {z : MethodName} {D : String} (hd : decode bytes pc = .ok (.invokevirtual ix, 3)) (w1 : (Jvm.Cond.methodLink own ix y).before a0 Z = true) (w2 : (Jvm.Cond.declares y).before a0 Z = true) (w5 : (Jvm.Cond.selects D y z).before a0 Z = true) (w6 : (Jvm.Cond.instanceMethod z).before a0 Z = true) (hnf : NotFace (s.setVm vm) y) (hy : y.cls ≠ "java/lang/invoke/MethodHandle" ∧ y.cls ≠ "java/lang/invoke/VarHandle") (E : Exa Z T.heap a D) (w3 : (Jvm.Cond.initialized z.cls).before a0 Z = true) (w4 : (Jvm.Cond.code z bytes' mL' ret').before a0 Z = true) {st0 : List Value} (hst : st0 = argsL.reverse ++ .ref a :: st) (hC : CtW l Z z bytes' mL' ret' rm (.ref a :: argsL).toArray T.heap Q') (hlen : ∀ sig, parseMethodDescriptor y.desc = some sig → argsL.length = sig.parameters.length) (hsz : Ls.size = mL) (hcl : cells + rm.cells ≤ R.cells) (hsl : slots + rm.slots ≤ R.slots) (hfr : rm.frames + 1 ≤ R.frames) (hlo : (st.map fun v => v.category).sum + (mL' + 11) + rm.locals ≤ R.locals) {pc' : Nat} (hp : pc + 3 = pc')
    (k : ∀ (T' : State) (v : Option Value), Ww l Z R bytes mL ret own nm p e s m args below meth c T'.vm T' (cells + rm.cells) (slots + rm.slots) → Q' v T'.heap → (∀ x, x < T.heap.size → Safe Z EL vm T.heap x → Safe Z EL T'.vm T'.heap x) → EndW p e below s Z Q cC cS T' (mkF m pc' Ls (v.toList ++ st))) : EndW p e below s Z Q cC cS T (mkF m pc Ls st0) := by
  subst hp hst; obtain ⟨q0, ⟨⟨k0, hS, hk⟩, ⟨a1, hE1⟩, hC0⟩, locs, Y, N, Od⟩ := id X
  obtain ⟨cq, kq, qa, qb, qc⟩ := isOf (s := s.setVm vm) X.hZ rfl E
  obtain ⟨v, _, ⟨T', L1, k1, n1⟩, -, Y', hS2, hgr, ⟨Lc, hQ, l1, y1, z1, hC1⟩, stp⟩ := Y.virtualBackS X.hx (y := y) (z := z) X.hown (mvT (s := s.setVm vm) X.hZ w1) (mvT (s := s.setVm vm) X.hZ w2) hnf (mvT (s := s.setVm vm) X.hZ w5) (mvT (s := s.setVm vm) X.hZ w6) hy (hC.back X.hZ w4 w3 hfr hlo hE1 X.ch) qa qc (g := mkF m pc Ls (argsL.reverse ++ .ref a :: st)) rfl (X.size hsz) (Steps.refl _) (argsL := argsL) (rest := st) hlen rfl (by show 2 * 0 + _ ≤ _; omega) (X.hb hd) (fun _ _ => ⟨rfl, rfl, hcl, hsl⟩)
  dsimp only [Pt.U, Pt.locs, Pt.cells, Pt.slots] at Y' l1 y1 z1 stp hQ hS2 hgr hC1
  subst l1 y1 z1
  have hW2 : Z.Warmed39 T'.vm := State.Warmed39.trans (t := s.setVm vm) X.hZ hS2.1
  have hf2 : T'.vm.findClass own = some m.cls := by rw [hS2.1.alike.findClass]; exact X.hown
  exact F_tr stp (k T' v ⟨⟨q0.1, q0.2.1, q0.2.2.1, q0.2.2.2.1, q0.2.2.2.2.1, hf2, q0.2.2.2.2.2.2.1, hW2⟩, ⟨⟨_, foldS hS hk hS2 hgr, Nat.le_refl _⟩, ⟨a1, hE1⟩, hC0.trans hC1⟩, _, Y', Fr.app N hQ.1, hQ.2.1⟩ hQ.2.2 (fun x hx hs => hC1.safe hx hs))

theorem F_privateB (X : Ww l Z R bytes mL ret own nm p e s m args below meth c vm T cells slots) {y : MethodName} {ix : Nat} {bytes' : ByteArray} {mL' : Nat} {ret' : Option FieldType} {Q' : Option Value → Heap → Prop} {argsL : List Value} {Q2 : Option Value → Heap → List Loc → Prop} {rC rS : Nat} {a : Addr} {D : String} (hd : decode bytes pc = .ok (.invokevirtual ix, 3)) (w1 : (Jvm.Cond.methodLink own ix y).before a0 Z = true) (w6 : (Jvm.Cond.instanceMethod y).before a0 Z = true) (w5 : (Jvm.Cond.selects y.cls y y).before a0 Z = true) (wp : (Jvm.Cond.privateMethod y).before a0 Z = true) (w4 : (Jvm.Cond.code y bytes' mL' ret').before a0 Z = true) (hy : y.cls ≠ "java/lang/invoke/MethodHandle" ∧ y.cls ≠ "java/lang/invoke/VarHandle") (E : Exa Z T.heap a D) {st0 : List Value} (hst : st0 = argsL.reverse ++ .ref a :: st) (hK : Back l R p e below (s.setVm vm) args y 3 ((st.map fun v => v.category).sum) (fun A aa => aa = (.ref a :: argsL).toArray ∧ A.U.heap = T.heap ∧ A.cells + rC ≤ R.cells ∧ A.slots + rS ≤ R.slots) (fun A _ v B => ∃ L, Q2 v B.U.heap L ∧ B.locs = A.locs ++ L ∧ B.cells = A.cells + rC ∧ B.slots = A.slots + rS)) (hQ2 : ∀ v h L, Q2 v h L → Fr Z.heap.size L ∧ Ext Z.heap h ∧ Q' v h) (hlen : ∀ sig, parseMethodDescriptor y.desc = some sig → argsL.length = sig.parameters.length) (hsz : Ls.size = mL) (hcl : cells + rC ≤ R.cells) (hsl : slots + rS ≤ R.slots) (ws : List Addr) (hkp : ∀ v h, Q' v h → Keep T.heap h ws) (hsf : ∀ x ∈ ws, Safe Z EL vm T.heap x) {pc' : Nat} (hp : pc + 3 = pc')
    (k : ∀ (T' : State) (v : Option Value), Ww l Z R bytes mL ret own nm p e s m args below meth c vm T' (cells + rC) (slots + rS) → Q' v T'.heap → EndW p e below s Z Q cC cS T' (mkF m pc' Ls (v.toList ++ st))) : EndW p e below s Z Q cC cS T (mkF m pc Ls st0) := by
  subst hp hst; obtain ⟨q0, qq, locs, Y, N, Od⟩ := id X
  obtain ⟨cell, kk, e1, -, -, e4, -⟩ := E
  obtain ⟨v, _, ⟨T', L1, k1, n1⟩, -, Y', ⟨Lc, hQ, l1, y1, z1⟩, stp⟩ := Y.privateBack X.hx (y := y) X.hown (mvT X.hZ w1) (mvT X.hZ w6) (mvT X.hZ w5) (Cond.privateMethod_at (mvP (args := args) X.hZ wp)) (mvT X.hZ w4) hy hK (g := mkF m pc Ls (argsL.reverse ++ .ref a :: st)) rfl (X.size hsz) (Steps.refl _) (a := a) e1 (fun q z => by rw [z] at e4; cases e4) (argsL := argsL) (rest := st) hlen rfl (by show 2 * 0 + _ ≤ _; omega) (X.hb hd) (fun _ _ => ⟨rfl, rfl, hcl, hsl⟩)
  dsimp only [Pt.U, Pt.locs, Pt.cells, Pt.slots] at Y' l1 y1 z1 stp hQ
  subst l1 y1 z1
  obtain ⟨f1, f2, f3⟩ := hQ2 _ _ _ hQ
  exact F_tr stp (k T' v (X.go2 Y' (Fr.app N f1) f2 (hkp _ _ f3) hsf) f3)

theorem F_private (X : Ww l Z R bytes mL ret own nm p e s m args below meth c vm T cells slots) {y : MethodName} {ix : Nat} {bytes' : ByteArray} {mL' : Nat} {ret' : Option FieldType} {Q' : Option Value → Heap → Prop} {argsL : List Value} {rm : Room} {a : Addr} {D : String} (hd : decode bytes pc = .ok (.invokevirtual ix, 3)) (w1 : (Jvm.Cond.methodLink own ix y).before a0 Z = true) (w6 : (Jvm.Cond.instanceMethod y).before a0 Z = true) (w5 : (Jvm.Cond.selects y.cls y y).before a0 Z = true) (wp : (Jvm.Cond.privateMethod y).before a0 Z = true) (w4 : (Jvm.Cond.code y bytes' mL' ret').before a0 Z = true) (hy : y.cls ≠ "java/lang/invoke/MethodHandle" ∧ y.cls ≠ "java/lang/invoke/VarHandle") (E : Exa Z T.heap a D) (w3 : (Jvm.Cond.initialized y.cls).before a0 Z = true) {st0 : List Value} (hst : st0 = argsL.reverse ++ .ref a :: st) (hC : Ct l Z y bytes' mL' ret' rm (.ref a :: argsL).toArray T.heap Q') (hlen : ∀ sig, parseMethodDescriptor y.desc = some sig → argsL.length = sig.parameters.length) (hsz : Ls.size = mL) (hcl : cells + rm.cells ≤ R.cells) (hsl : slots + rm.slots ≤ R.slots) (hfr : rm.frames + 1 ≤ R.frames) (hlo : (st.map fun v => v.category).sum + (mL' + 11) + rm.locals ≤ R.locals) (ws : List Addr) (hkp : ∀ v h, Q' v h → Keep T.heap h ws) (hsf : ∀ x ∈ ws, Safe Z EL vm T.heap x) {pc' : Nat} (hp : pc + 3 = pc')
    (k : ∀ (T' : State) (v : Option Value), Ww l Z R bytes mL ret own nm p e s m args below meth c vm T' (cells + rm.cells) (slots + rm.slots) → Q' v T'.heap → EndW p e below s Z Q cC cS T' (mkF m pc' Ls (v.toList ++ st))) : EndW p e below s Z Q cC cS T (mkF m pc Ls st0) :=
  F_privateB X hd w1 w6 w5 wp w4 hy E hst (hC.back X.hZ w4 w3 hfr hlo) (fun _ _ _ q => q) hlen hsz hcl hsl ws hkp hsf hp k

theorem G_private (X : Ww l Z R bytes mL ret own nm p e s m args below meth c vm T cells slots) {y : MethodName} {ix : Nat} {bytes' : ByteArray} {mL' : Nat} {ret' : Option FieldType} {Q' : Option Value → Heap → Prop} {argsL : List Value} {rm : Room} {a : Addr} {D : String} (hd : decode bytes pc = .ok (.invokevirtual ix, 3)) (w1 : (Jvm.Cond.methodLink own ix y).before a0 Z = true) (w6 : (Jvm.Cond.instanceMethod y).before a0 Z = true) (w5 : (Jvm.Cond.selects y.cls y y).before a0 Z = true) (wp : (Jvm.Cond.privateMethod y).before a0 Z = true) (w4 : (Jvm.Cond.code y bytes' mL' ret').before a0 Z = true) (hy : y.cls ≠ "java/lang/invoke/MethodHandle" ∧ y.cls ≠ "java/lang/invoke/VarHandle") (E : Exa Z T.heap a D) (w3 : (Jvm.Cond.initialized y.cls).before a0 Z = true) {st0 : List Value} (hst : st0 = argsL.reverse ++ .ref a :: st) (hC : CtW l Z y bytes' mL' ret' rm (.ref a :: argsL).toArray T.heap Q') (hlen : ∀ sig, parseMethodDescriptor y.desc = some sig → argsL.length = sig.parameters.length) (hsz : Ls.size = mL) (hcl : cells + rm.cells ≤ R.cells) (hsl : slots + rm.slots ≤ R.slots) (hfr : rm.frames + 1 ≤ R.frames) (hlo : (st.map fun v => v.category).sum + (mL' + 11) + rm.locals ≤ R.locals) {pc' : Nat} (hp : pc + 3 = pc')
    (k : ∀ (T' : State) (v : Option Value), Ww l Z R bytes mL ret own nm p e s m args below meth c T'.vm T' (cells + rm.cells) (slots + rm.slots) → Q' v T'.heap → (∀ x, x < T.heap.size → Safe Z EL vm T.heap x → Safe Z EL T'.vm T'.heap x) → EndW p e below s Z Q cC cS T' (mkF m pc' Ls (v.toList ++ st))) : EndW p e below s Z Q cC cS T (mkF m pc Ls st0) := by
  subst hp hst; obtain ⟨q0, ⟨⟨k0, hS, hk⟩, ⟨a1, hE1⟩, hC0⟩, locs, Y, N, Od⟩ := id X
  obtain ⟨cell, kk, e1, -, -, e4, -⟩ := E
  obtain ⟨v, _, ⟨T', L1, k1, n1⟩, -, Y', hS2, hgr, ⟨Lc, hQ, l1, y1, z1, hC1⟩, stp⟩ := Y.privateBackS X.hx (y := y) X.hown (mvT (s := s.setVm vm) X.hZ w1) (mvT (s := s.setVm vm) X.hZ w6) (mvT (s := s.setVm vm) X.hZ w5) (Cond.privateMethod_at (mvP (s := s.setVm vm) (args := args) X.hZ wp)) (mvT (s := s.setVm vm) X.hZ w4) hy (hC.back X.hZ w4 w3 hfr hlo hE1 X.ch) (g := mkF m pc Ls (argsL.reverse ++ .ref a :: st)) rfl (X.size hsz) (Steps.refl _) (a := a) e1 (fun q z => by rw [z] at e4; cases e4) (argsL := argsL) (rest := st) hlen rfl (by show 2 * 0 + _ ≤ _; omega) (X.hb hd) (fun _ _ => ⟨rfl, rfl, hcl, hsl⟩)
  dsimp only [Pt.U, Pt.locs, Pt.cells, Pt.slots] at Y' l1 y1 z1 stp hQ hS2 hgr hC1
  subst l1 y1 z1
  have hW2 : Z.Warmed39 T'.vm := State.Warmed39.trans (t := s.setVm vm) X.hZ hS2.1
  have hf2 : T'.vm.findClass own = some m.cls := by rw [hS2.1.alike.findClass]; exact X.hown
  exact F_tr stp (k T' v ⟨⟨q0.1, q0.2.1, q0.2.2.1, q0.2.2.2.1, q0.2.2.2.2.1, hf2, q0.2.2.2.2.2.2.1, hW2⟩, ⟨⟨_, foldS hS hk hS2 hgr, Nat.le_refl _⟩, ⟨a1, hE1⟩, hC0.trans hC1⟩, _, Y', Fr.app N hQ.1, hQ.2.1⟩ hQ.2.2 (fun x hx hs => hC1.safe hx hs))

theorem F_interfaceB (X : Ww l Z R bytes mL ret own nm p e s m args below meth c vm T cells slots) {y : MethodName} {ix : Nat} {Q' : Option Value → Heap → Prop} {argsL : List Value} {Q2 : Option Value → Heap → List Loc → Prop} {rC rS : Nat} {a : Addr} {z : MethodName} {D : String} {ct : Nat} (hd : decode bytes pc = .ok (.invokeinterface ix ct, 5)) (w1 : (Jvm.Cond.methodLink own ix y).before a0 Z = true) (w2 : (Jvm.Cond.declares y).before a0 Z = true) (w5 : (Jvm.Cond.selects D y z).before a0 Z = true) (w6 : (Jvm.Cond.instanceMethod z).before a0 Z = true) (w7 : (Jvm.Cond.interfaceMethod y.cls y.cls y.name y.desc).before a0 Z = true) (hif : ((Jvm.Cond.interfaceMethod y.cls y.cls y.name y.desc).onTables && (Jvm.Cond.interfaceMethod y.cls y.cls y.name y.desc).keepsFace) = true) (w8 : (Jvm.Cond.publicMethod z).before a0 Z = true) (w9 : (Jvm.Cond.unhidden D y.name y.desc).before a0 Z = true) (wc : (Jvm.Cond.castable D y.cls).before a0 Z = true) (hy : y.cls ≠ "java/lang/invoke/MethodHandle" ∧ y.cls ≠ "java/lang/invoke/VarHandle") (E : Exa Z T.heap a D) {st0 : List Value} (hst : st0 = argsL.reverse ++ .ref a :: st) (hK : Back l R p e below (s.setVm vm) args z 5 ((st.map fun v => v.category).sum) (fun A aa => aa = (.ref a :: argsL).toArray ∧ A.U.heap = T.heap ∧ A.cells + rC ≤ R.cells ∧ A.slots + rS ≤ R.slots) (fun A _ v B => ∃ L, Q2 v B.U.heap L ∧ B.locs = A.locs ++ L ∧ B.cells = A.cells + rC ∧ B.slots = A.slots + rS)) (hQ2 : ∀ v h L, Q2 v h L → Fr Z.heap.size L ∧ Ext Z.heap h ∧ Q' v h) (hlen : ∀ sig, parseMethodDescriptor y.desc = some sig → argsL.length = sig.parameters.length) (hsz : Ls.size = mL) (hcl : cells + rC ≤ R.cells) (hsl : slots + rS ≤ R.slots) (ws : List Addr) (hkp : ∀ v h, Q' v h → Keep T.heap h ws) (hsf : ∀ x ∈ ws, Safe Z EL vm T.heap x) {pc' : Nat} (hp : pc + 5 = pc')
    (k : ∀ (T' : State) (v : Option Value), Ww l Z R bytes mL ret own nm p e s m args below meth c vm T' (cells + rC) (slots + rS) → Q' v T'.heap → EndW p e below s Z Q cC cS T' (mkF m pc' Ls (v.toList ++ st))) : EndW p e below s Z Q cC cS T (mkF m pc Ls st0) := by
  subst hp hst; obtain ⟨q0, qq, locs, Y, N, Od⟩ := id X
  obtain ⟨cq, kq, qa, qb, qc⟩ := isOf (s := s.setVm vm) X.hZ rfl E
  obtain ⟨v, _, ⟨T', L1, k1, n1⟩, -, Y', ⟨Lc, hQ, l1, y1, z1⟩, stp⟩ := Y.interfaceBack X.hx (xi := y) (y := z) X.hown (mvT X.hZ w1) (mvT X.hZ w2) (mvT X.hZ w7 hif) (mvT X.hZ w5) (mvT X.hZ w6) (mvT X.hZ w8) (mvT X.hZ w9) (mvT X.hZ wc) hy hK qa qb qc (g := mkF m pc Ls (argsL.reverse ++ .ref a :: st)) rfl (X.size hsz) (Steps.refl _) (argsL := argsL) (rest := st) hlen rfl (by show 2 * 0 + _ ≤ _; omega) (X.hb hd) (fun _ _ => ⟨rfl, rfl, hcl, hsl⟩)
  dsimp only [Pt.U, Pt.locs, Pt.cells, Pt.slots] at Y' l1 y1 z1 stp hQ
  subst l1 y1 z1
  obtain ⟨f1, f2, f3⟩ := hQ2 _ _ _ hQ
  exact F_tr stp (k T' v (X.go2 Y' (Fr.app N f1) f2 (hkp _ _ f3) hsf) f3)

theorem F_interface (X : Ww l Z R bytes mL ret own nm p e s m args below meth c vm T cells slots) {y : MethodName} {ix : Nat} {bytes' : ByteArray} {mL' : Nat} {ret' : Option FieldType} {Q' : Option Value → Heap → Prop} {argsL : List Value} {rm : Room} {a : Addr} {z : MethodName} {D : String} {ct : Nat} (hd : decode bytes pc = .ok (.invokeinterface ix ct, 5)) (w1 : (Jvm.Cond.methodLink own ix y).before a0 Z = true) (w2 : (Jvm.Cond.declares y).before a0 Z = true) (w5 : (Jvm.Cond.selects D y z).before a0 Z = true) (w6 : (Jvm.Cond.instanceMethod z).before a0 Z = true) (w7 : (Jvm.Cond.interfaceMethod y.cls y.cls y.name y.desc).before a0 Z = true) (hif : ((Jvm.Cond.interfaceMethod y.cls y.cls y.name y.desc).onTables && (Jvm.Cond.interfaceMethod y.cls y.cls y.name y.desc).keepsFace) = true) (w8 : (Jvm.Cond.publicMethod z).before a0 Z = true) (w9 : (Jvm.Cond.unhidden D y.name y.desc).before a0 Z = true) (wc : (Jvm.Cond.castable D y.cls).before a0 Z = true) (hy : y.cls ≠ "java/lang/invoke/MethodHandle" ∧ y.cls ≠ "java/lang/invoke/VarHandle") (E : Exa Z T.heap a D) (w3 : (Jvm.Cond.initialized z.cls).before a0 Z = true) (w4 : (Jvm.Cond.code z bytes' mL' ret').before a0 Z = true) {st0 : List Value} (hst : st0 = argsL.reverse ++ .ref a :: st) (hC : Ct l Z z bytes' mL' ret' rm (.ref a :: argsL).toArray T.heap Q') (hlen : ∀ sig, parseMethodDescriptor y.desc = some sig → argsL.length = sig.parameters.length) (hsz : Ls.size = mL) (hcl : cells + rm.cells ≤ R.cells) (hsl : slots + rm.slots ≤ R.slots) (hfr : rm.frames + 1 ≤ R.frames) (hlo : (st.map fun v => v.category).sum + (mL' + 11) + rm.locals ≤ R.locals) (ws : List Addr) (hkp : ∀ v h, Q' v h → Keep T.heap h ws) (hsf : ∀ x ∈ ws, Safe Z EL vm T.heap x) {pc' : Nat} (hp : pc + 5 = pc')
    (k : ∀ (T' : State) (v : Option Value), Ww l Z R bytes mL ret own nm p e s m args below meth c vm T' (cells + rm.cells) (slots + rm.slots) → Q' v T'.heap → EndW p e below s Z Q cC cS T' (mkF m pc' Ls (v.toList ++ st))) : EndW p e below s Z Q cC cS T (mkF m pc Ls st0) :=
  F_interfaceB X hd w1 w2 w5 w6 w7 hif w8 w9 wc hy E hst (hC.back X.hZ w4 w3 hfr hlo) (fun _ _ _ q => q) hlen hsz hcl hsl ws hkp hsf hp k

theorem G_interface (X : Ww l Z R bytes mL ret own nm p e s m args below meth c vm T cells slots) {y : MethodName} {ix : Nat} {bytes' : ByteArray} {mL' : Nat} {ret' : Option FieldType} {Q' : Option Value → Heap → Prop} {argsL : List Value} {rm : Room} {a : Addr} {z : MethodName} {D : String} {ct : Nat} (hd : decode bytes pc = .ok (.invokeinterface ix ct, 5)) (w1 : (Jvm.Cond.methodLink own ix y).before a0 Z = true) (w2 : (Jvm.Cond.declares y).before a0 Z = true) (w5 : (Jvm.Cond.selects D y z).before a0 Z = true) (w6 : (Jvm.Cond.instanceMethod z).before a0 Z = true) (w7 : (Jvm.Cond.interfaceMethod y.cls y.cls y.name y.desc).before a0 Z = true) (hif : ((Jvm.Cond.interfaceMethod y.cls y.cls y.name y.desc).onTables && (Jvm.Cond.interfaceMethod y.cls y.cls y.name y.desc).keepsFace) = true) (w8 : (Jvm.Cond.publicMethod z).before a0 Z = true) (w9 : (Jvm.Cond.unhidden D y.name y.desc).before a0 Z = true) (wc : (Jvm.Cond.castable D y.cls).before a0 Z = true) (hy : y.cls ≠ "java/lang/invoke/MethodHandle" ∧ y.cls ≠ "java/lang/invoke/VarHandle") (E : Exa Z T.heap a D) (w3 : (Jvm.Cond.initialized z.cls).before a0 Z = true) (w4 : (Jvm.Cond.code z bytes' mL' ret').before a0 Z = true) {st0 : List Value} (hst : st0 = argsL.reverse ++ .ref a :: st) (hC : CtW l Z z bytes' mL' ret' rm (.ref a :: argsL).toArray T.heap Q') (hlen : ∀ sig, parseMethodDescriptor y.desc = some sig → argsL.length = sig.parameters.length) (hsz : Ls.size = mL) (hcl : cells + rm.cells ≤ R.cells) (hsl : slots + rm.slots ≤ R.slots) (hfr : rm.frames + 1 ≤ R.frames) (hlo : (st.map fun v => v.category).sum + (mL' + 11) + rm.locals ≤ R.locals) {pc' : Nat} (hp : pc + 5 = pc')
    (k : ∀ (T' : State) (v : Option Value), Ww l Z R bytes mL ret own nm p e s m args below meth c T'.vm T' (cells + rm.cells) (slots + rm.slots) → Q' v T'.heap → (∀ x, x < T.heap.size → Safe Z EL vm T.heap x → Safe Z EL T'.vm T'.heap x) → EndW p e below s Z Q cC cS T' (mkF m pc' Ls (v.toList ++ st))) : EndW p e below s Z Q cC cS T (mkF m pc Ls st0) := by
  subst hp hst; obtain ⟨q0, ⟨⟨k0, hS, hk⟩, ⟨a1, hE1⟩, hC0⟩, locs, Y, N, Od⟩ := id X
  obtain ⟨cq, kq, qa, qb, qc⟩ := isOf (s := s.setVm vm) X.hZ rfl E
  obtain ⟨v, _, ⟨T', L1, k1, n1⟩, -, Y', hS2, hgr, ⟨Lc, hQ, l1, y1, z1, hC1⟩, stp⟩ := Y.interfaceBackS X.hx (xi := y) (y := z) X.hown (mvT (s := s.setVm vm) X.hZ w1) (mvT (s := s.setVm vm) X.hZ w2) (mvT (s := s.setVm vm) X.hZ w7 hif) (mvT (s := s.setVm vm) X.hZ w5) (mvT (s := s.setVm vm) X.hZ w6) (mvT (s := s.setVm vm) X.hZ w8) (mvT (s := s.setVm vm) X.hZ w9) (mvT (s := s.setVm vm) X.hZ wc) hy (hC.back X.hZ w4 w3 hfr hlo hE1 X.ch) qa qb qc (g := mkF m pc Ls (argsL.reverse ++ .ref a :: st)) rfl (X.size hsz) (Steps.refl _) (argsL := argsL) (rest := st) hlen rfl (by show 2 * 0 + _ ≤ _; omega) (X.hb hd) (fun _ _ => ⟨rfl, rfl, hcl, hsl⟩)
  dsimp only [Pt.U, Pt.locs, Pt.cells, Pt.slots] at Y' l1 y1 z1 stp hQ hS2 hgr hC1
  subst l1 y1 z1
  have hW2 : Z.Warmed39 T'.vm := State.Warmed39.trans (t := s.setVm vm) X.hZ hS2.1
  have hf2 : T'.vm.findClass own = some m.cls := by rw [hS2.1.alike.findClass]; exact X.hown
  exact F_tr stp (k T' v ⟨⟨q0.1, q0.2.1, q0.2.2.1, q0.2.2.2.1, q0.2.2.2.2.1, hf2, q0.2.2.2.2.2.2.1, hW2⟩, ⟨⟨_, foldS hS hk hS2 hgr, Nat.le_refl _⟩, ⟨a1, hE1⟩, hC0.trans hC1⟩, _, Y', Fr.app N hQ.1, hQ.2.1⟩ hQ.2.2 (fun x hx hs => hC1.safe hx hs))

theorem Ww.out (X : Ww l Z R bytes mL ret own nm p e s m args below meth c vm T cells slots) {v : Option Value} (hv : ret = none → v = none) (hQ : Q v T.heap) (h1 : cells ≤ cC) (h2 : slots ≤ cS) (hs : ∀ fs, (∀ (f : JFrame) (acts : List Action), f.method = m → f.locked = none → f.entered = [] → (doReturn e (T.setTop f) acts v).1 = T.setFrames fs) → Steps p.tables e below (T.setTop g) (T.setFrames fs)) : EndW p e below s Z Q cC cS T g := by
  obtain ⟨q0, ⟨⟨k0, hS, hk⟩, ⟨a1, hE1⟩, hC0⟩, locs, Y, N, Od⟩ := id X
  obtain ⟨fs, hr, hrun, hended, hW⟩ := Y.leaveW hS hk (v := v) (fun h => hv (q0.2.2.2.1.symm.trans h)) q0.2.2.2.2.1
  exact ⟨_, _, hs fs hr, hrun, hended, _, _, rfl, ⟨N, Od, hQ⟩, (hC0.trans (CHv.at (T := T) Y X.hZ hE1 X.ch) : CHr Z EL s.vm s.heap T.vm T.heap), hW.1, hW.2.1, hW.2.2.1, hW.2.2.2.mono h1 h2⟩
theorem F_return (X : Ww l Z R bytes mL ret own nm p e s m args below meth c vm T cells slots) (hd : decode bytes pc = .ok (.return_, 1)) (hret : ret = none) (h1 : cells ≤ cC) (h2 : slots ≤ cS) (hQ : Q none T.heap) : EndW p e below s Z Q cC cS T (mkF m pc Ls []) := by
  refine X.out (v := none) (fun _ => rfl) hQ h1 h2 fun fs hr => ?_
  obtain ⟨q0, qq, locs, Y, N, Od⟩ := id X
  exact Y.returnOut X.hx (q0.2.2.2.1.trans hret) (X.hb hd) hr
theorem F_ireturnI (X : Ww l Z R bytes mL ret own nm p e s m args below meth c vm T cells slots) {z : Int32} (hd : decode bytes pc = .ok (.ireturn, 1)) (hret : ret = some .int) (h1 : cells ≤ cC) (h2 : slots ≤ cS) (hQ : Q (some (.int z)) T.heap) : EndW p e below s Z Q cC cS T (mkF m pc Ls (.int z :: st)) := by
  refine X.out (v := some (.int z)) (fun h => by rw [hret] at h; cases h) hQ h1 h2 fun fs hr => ?_
  obtain ⟨q0, qq, locs, Y, N, Od⟩ := id X
  exact retOut Y X.hx (q0.2.2.2.1.trans hret) rfl (Or.inl ⟨rfl, Or.inl rfl, z, rfl⟩) (X.hb hd) hr
theorem F_ireturnN (X : Ww l Z R bytes mL ret own nm p e s m args below meth c vm T cells slots) {z : Int32} {t : FieldType} (hd : decode bytes pc = .ok (.ireturn, 1)) (hret : ret = some t) (ht : t = .boolean ∨ t = .byte ∨ t = .char ∨ t = .short) (h1 : cells ≤ cC) (h2 : slots ≤ cS) (hQ : Q (some (.int (nar t z))) T.heap) : EndW p e below s Z Q cC cS T (mkF m pc Ls (.int z :: st)) := by
  refine X.out (v := some (.int (nar t z))) (fun h => by rw [hret] at h; cases h) hQ h1 h2 fun fs hr => ?_
  obtain ⟨q0, qq, locs, Y, N, Od⟩ := id X
  exact retN Y X.hx (q0.2.2.2.1.trans hret) ht (X.hb hd) hr
theorem F_areturn (X : Ww l Z R bytes mL ret own nm p e s m args below meth c vm T cells slots) {v : Value} {t : FieldType} (hd : decode bytes pc = .ok (.areturn, 1)) (hret : ret = some t) (ht : t.isReference = true) (hv : v.isRef = true) (hn : narrow t v = v) (h1 : cells ≤ cC) (h2 : slots ≤ cS) (hQ : Q (some v) T.heap) : EndW p e below s Z Q cC cS T (mkF m pc Ls (v :: st)) := by
  refine X.out (v := some v) (fun h => by rw [hret] at h; cases h) hQ h1 h2 fun fs hr => ?_
  obtain ⟨q0, qq, locs, Y, N, Od⟩ := id X
  exact retOut Y X.hx (q0.2.2.2.1.trans hret) hn (Or.inr (Or.inr (Or.inr (Or.inr ⟨rfl, ht, hv⟩)))) (X.hb hd) hr
end OwnW
theorem pd_0 : parseMethodDescriptor "()B" = some ⟨[], some .byte⟩ := by decide +kernel
theorem pd_1 : parseMethodDescriptor "([CI[BII)I" = some ⟨[(.array .char), .int, (.array .byte), .int, .int], some .int⟩ := by decide +kernel
theorem pd_2 : parseMethodDescriptor "([CII)[B" = some ⟨[(.array .char), .int, .int], some (.array .byte)⟩ := by decide +kernel
theorem pd_3 : parseMethodDescriptor "([BI)B" = some ⟨[(.array .byte), .int], some .byte⟩ := by decide +kernel
theorem pd_4 : parseMethodDescriptor "([CIILjava/lang/Void;)V" = some ⟨[(.array .char), .int, .int, (.object "java/lang/Void")], none⟩ := by decide +kernel
theorem pd_5 : parseMethodDescriptor "(C)Z" = some ⟨[.char], some .boolean⟩ := by decide +kernel
theorem pd_6 : parseMethodDescriptor "(C)[B" = some ⟨[.char], some (.array .byte)⟩ := by decide +kernel
theorem pd_7 : parseMethodDescriptor "([BB)V" = some ⟨[(.array .byte), .byte], none⟩ := by decide +kernel
theorem pd_8 : parseMethodDescriptor "()V" = some ⟨[], none⟩ := by decide +kernel
theorem pd_9 : parseMethodDescriptor "(II)I" = some ⟨[.int, .int], some .int⟩ := by decide +kernel
theorem pd_10 : parseMethodDescriptor "(I)[Ljava/lang/Object;" = some ⟨[.int], some (.array (.object "java/lang/Object"))⟩ := by decide +kernel
theorem pd_11 : parseMethodDescriptor "()[Ljava/lang/Object;" = some ⟨[], some (.array (.object "java/lang/Object"))⟩ := by decide +kernel
theorem pd_12 : parseMethodDescriptor "(Ljava/lang/Object;[Ljava/lang/Object;I)V" = some ⟨[(.object "java/lang/Object"), (.array (.object "java/lang/Object")), .int], none⟩ := by decide +kernel
theorem pd_13 : parseMethodDescriptor "(IILjava/util/function/BiFunction;)I" = some ⟨[.int, .int, (.object "java/util/function/BiFunction")], some .int⟩ := by decide +kernel
theorem pd_14 : parseMethodDescriptor "(I)Ljava/lang/Object;" = some ⟨[.int], some (.object "java/lang/Object")⟩ := by decide +kernel
theorem pd_15 : parseMethodDescriptor "(C)Ljava/lang/String;" = some ⟨[.char], some (.object "java/lang/String")⟩ := by decide +kernel
theorem pd_16 : parseMethodDescriptor "([C)V" = some ⟨[(.array .char)], none⟩ := by decide +kernel
theorem pd_17 : parseMethodDescriptor "(Ljava/lang/Object;)Z" = some ⟨[(.object "java/lang/Object")], some .boolean⟩ := by decide +kernel
theorem pd_18 : parseMethodDescriptor "(ILjava/util/List;)V" = some ⟨[.int, (.object "java/util/List")], none⟩ := by decide +kernel
theorem pd_19 : parseMethodDescriptor "(I)Ljava/lang/String;" = some ⟨[.int], some (.object "java/lang/String")⟩ := by decide +kernel
theorem pd_20 : parseMethodDescriptor "()I" = some ⟨[], some .int⟩ := by decide +kernel
theorem o_int {n : Nat} (h : n < 2147483648) : (Int32.ofNat n).toInt = n := by
  have := Int32.toInt_ofNat_of_lt (n := n) (by omega); simpa using this
theorem o_cl {n : Nat} (h : n < 2147483648) : (Int32.ofNat n).toNatClampNeg = n := by
  simp [Int32.toNatClampNeg, o_int h]
theorem o_nn {n : Nat} (h : n < 2147483648) : ¬ Int32.ofNat n < 0 := by
  rw [Int32.lt_iff_toInt_lt, o_int h]; show ¬ (n : Int) < 0; omega
theorem o_lt {i n : Nat} (hi : i < n) (h : n < 2147483648) : Int32.ofNat i < Int32.ofNat n := by
  rw [Int32.lt_iff_toInt_lt, o_int h, o_int (by omega)]; omega
theorem o_nlt {i n : Nat} (hi : n ≤ i) (h : i < 2147483648) : ¬ Int32.ofNat i < Int32.ofNat n := by
  rw [Int32.lt_iff_toInt_lt, o_int h, o_int (by omega)]; omega
theorem o_add {i : Nat} : Int32.ofNat i + (1 : Int32) = Int32.ofNat (i + 1) := by
  rw [Int32.ofNat_add]; rfl
theorem o_two {i : Nat} (h : 2 * i < 2147483648) : Int32.ofNat i <<< ((1 : Int32) &&& 31) = Int32.ofNat (2 * i) := by
  apply Int32.toInt_inj.mp
  have e := c_ishl (Int32.ofNat i) 1 1 (by decide)
  have r := rng32 (Int32.ofNat i <<< ((1 : Int32) &&& 31))
  rw [o_int (by omega)] at e
  rw [o_int h]
  omega
theorem o_half {i : Nat} (h : 2 * i < 2147483648) : Int32.ofNat (2 * i) >>> ((1 : Int32) &&& 31) = Int32.ofNat i := by
  apply Int32.toInt_inj.mp
  have e := c_ishr (Int32.ofNat (2 * i)) 1 1 (by decide)
  rw [o_int h] at e
  rw [o_int (by omega), e]
  omega
theorem o_zero (N : Int32) : N >>> ((0 : Int32) &&& 31) = N := by
  apply Int32.toInt_inj.mp
  have e := c_ishr N 0 0 (by decide)
  rw [e]; simp
theorem o_i2c {c : Int32} (h1 : ¬ c < 0) (h2 : ¬ 65535 < c) : c.toUInt32.toUInt16.toUInt32.toInt32 = c := by
  apply Int32.toInt_inj.mp
  have e := c_i2c c
  rw [Int32.lt_iff_toInt_lt] at h1 h2
  have o1 : (0 : Int32).toInt = 0 := rfl
  have o2 : (65535 : Int32).toInt = 65535 := rfl
  omega
theorem o_nar {c : Int32} (h1 : ¬ c < 0) (h2 : ¬ 65535 < c) : nar .char c = c := o_i2c h1 h2
theorem o_lat {c : Int32} (h1 : ¬ c < 0) (h2 : ¬ 255 < c) : nar .char ((c.toInt8.toInt32 &&& (255 : Int32)).toUInt32.toUInt16.toUInt32.toInt32) = c := by
  have o1 : (0 : Int32).toInt = 0 := rfl
  have o2 : (255 : Int32).toInt = 255 := rfl
  have o3 : (65535 : Int32).toInt = 65535 := rfl
  rw [Int32.lt_iff_toInt_lt] at h1 h2
  have e : c.toInt8.toInt32 &&& (255 : Int32) = c := by
    apply Int32.toInt_inj.mp
    have e1 := c_mask c.toInt8.toInt32 255 8 (by decide) (by decide)
    have e2 := c_i2b c
    rw [e1]; omega
  rw [e, o_i2c, o_nar] <;> (rw [Int32.lt_iff_toInt_lt]; omega)
theorem o_u16 {c : Int32} (h1 : ¬ c < 0) (h2 : ¬ 65535 < c) : nar .char ((((c >>> ((0 : Int32) &&& 31)).toInt8.toInt32 &&& (255 : Int32)) <<< ((0 : Int32) &&& 31) ||| ((c >>> ((8 : Int32) &&& 31)).toInt8.toInt32 &&& (255 : Int32)) <<< ((8 : Int32) &&& 31)).toUInt32.toUInt16.toUInt32.toInt32) = c := by
  have o1 : (0 : Int32).toInt = 0 := rfl
  have o2 : (255 : Int32).toInt = 255 := rfl
  have o3 : (65535 : Int32).toInt = 65535 := rfl
  rw [Int32.lt_iff_toInt_lt] at h1 h2
  have a0 : c >>> ((0 : Int32) &&& 31) = c := o_zero c
  have a1 := c_ishr c 8 8 (by decide)
  rw [a0]
  generalize c >>> ((8 : Int32) &&& 31) = d at *
  have b1 := c_mask c.toInt8.toInt32 255 8 (by decide) (by decide)
  have b2 := c_i2b c
  have b3 := c_mask d.toInt8.toInt32 255 8 (by decide) (by decide)
  have b4 := c_i2b d
  generalize c.toInt8.toInt32 &&& (255 : Int32) = x at *
  generalize d.toInt8.toInt32 &&& (255 : Int32) = y at *
  have d1 := c_ishl x 0 0 (by decide)
  have d2 := c_ishl y 8 8 (by decide)
  have r1 := rng32 (x <<< ((0 : Int32) &&& 31))
  have r2 := rng32 (y <<< ((8 : Int32) &&& 31))
  generalize x <<< ((0 : Int32) &&& 31) = u at *
  generalize y <<< ((8 : Int32) &&& 31) = w at *
  have f := c_or' u w 8 (by decide) 256 rfl (by omega) (by omega) (by omega)
  have r3 := rng32 (u ||| w)
  have e : u ||| w = c := by
    apply Int32.toInt_inj.mp
    omega
  rw [e, o_i2c, o_nar] <;> (rw [Int32.lt_iff_toInt_lt]; omega)
theorem o_b8 (c : Int32) : c.toInt8.toInt32.toInt8.toInt32 = c.toInt8.toInt32 := by simp
theorem o_ltc {n : Nat} (h : n ≤ 4000) : Int32.ofNat n < (1073741823 : Int32) := by
  rw [Int32.lt_iff_toInt_lt, o_int (by omega)]; show (n : Int) < 1073741823; omega
theorem o_cfl {n : Nat} (h : 0 < n) (h2 : n ≤ 4000) : nar .byte ((((Int32.ofNat n - Int32.ofNat (2 * n)).toUInt32 >>> ((31 : Int32) &&& 31).toUInt32).toInt32).toInt8.toInt32) = 1 := by
  have e := c_isub (Int32.ofNat n) (Int32.ofNat (2 * n))
  rw [o_int (by omega), o_int (by omega)] at e
  have r := rng32 (Int32.ofNat n - Int32.ofNat (2 * n))
  have f := c_iushr (Int32.ofNat n - Int32.ofNat (2 * n)) 31 31 (by decide) (by decide)
  have g : ((Int32.ofNat n - Int32.ofNat (2 * n)).toUInt32 >>> ((31 : Int32) &&& 31).toUInt32).toInt32 = 1 := by
    apply Int32.toInt_inj.mp
    rw [f]; show _ = (1 : Int); omega
  rw [g]; rfl

def Sts (Z : State) (G1 : Int32) (G3 : Value) : Prop := Sta Z Z.heap "java/lang/String" "COMPACT_STRINGS" "Z" (.int G1) ∧ ¬ G1 = 0 ∧ Sta Z Z.heap "jdk/internal/util/Preconditions" "SIOOBE_FORMATTER" "Ljava/util/function/BiFunction;" G3 ∧ G3.isRef = true
theorem Sts.ref {Z : State} {G1 : Int32} {G3 : Value} (h : Sts Z G1 G3) : G3.isRef = true := h.2.2.2
def lo8 (c : Int32) : Value := .int c.toInt8.toInt32
def u16 (cs : List Int32) : List Value := cs.flatMap fun c => [.int (c >>> ((0 : Int32) &&& 31)).toInt8.toInt32, .int (c >>> ((8 : Int32) &&& 31)).toInt8.toInt32]
def Cod (cs : List Int32) (cd N : Int32) (vs : List Value) : Prop := (cd = 0 ∧ N = Int32.ofNat cs.length ∧ vs = cs.map lo8 ∧ ∀ c ∈ cs, ¬ (255 : Int32) < c)
/-- the String x holds the chars cs; its array is t -/
def OStr (Z : State) (h : Heap) (x t : Addr) (cs : List Int32) : Prop := ∃ (kb : ClassId) (cd N : Int32) (vs : List Value), Exa Z h x "java/lang/String" ∧ Fld Z h x "java/lang/String" "value" "[B" (.ref t) ∧ Fld Z h x "java/lang/String" "coder" "B" (.int cd) ∧ Arv Z h t kb .byte N vs (.int (0 : Int32)) ∧ Cod cs cd N vs ∧ (∀ c ∈ cs, ¬ c < 0 ∧ ¬ (65535 : Int32) < c) ∧ cs.length ≤ 4000
theorem OStr.exa {Z : State} {h : Heap} {x t : Addr} {cs : List Int32} (S : OStr Z h x t cs) : Exa Z h x "java/lang/String" := by obtain ⟨_, _, _, _, E, -⟩ := S; exact E
theorem OStr.fval {Z : State} {h : Heap} {x t : Addr} {cs : List Int32} (S : OStr Z h x t cs) : Fld Z h x "java/lang/String" "value" "[B" (.ref t) := by obtain ⟨_, _, _, _, _, F, -⟩ := S; exact F
theorem OStr.fcod {Z : State} {h : Heap} {x t : Addr} {cs : List Int32} (S : OStr Z h x t cs) : Fld Z h x "java/lang/String" "coder" "B" (.int 0) := by obtain ⟨_, _, _, _, _, _, C, _, ⟨rfl, -⟩, -⟩ := S; exact C
theorem OStr.lt {Z : State} {h : Heap} {x t : Addr} {cs : List Int32} (S : OStr Z h x t cs) : x < h.size := S.exa.lt
theorem OStr.ltv {Z : State} {h : Heap} {x t : Addr} {cs : List Int32} (S : OStr Z h x t cs) : t < h.size := by obtain ⟨_, _, _, _, _, _, _, V, -⟩ := S; exact V.lt
theorem OStr.keep {Z : State} {h h' : Heap} {ws : List Addr} {x t : Addr} {cs : List Int32} (S : OStr Z h x t cs) (K : Keep h h' ws) (h1 : x ∉ ws) (h2 : t ∉ ws) : OStr Z h' x t cs := by
  obtain ⟨kb, cd, N, vs, E, F, G, V, r⟩ := S; exact ⟨kb, cd, N, vs, E.keep K, F.keep K h1, G.keep K h1, V.keep K h2, r⟩
theorem own_lit {Z : State} {h : Heap} {a b : Addr} {kb : ClassId} {cs : List Int32} (E : Exa Z h a "java/lang/String") (F : Fld Z h a "java/lang/String" "value" "[B" (.ref b)) (C : Fld Z h a "java/lang/String" "coder" "B" (.int 0)) (V : Arv Z h b kb .byte (Int32.ofNat cs.length) (cs.map lo8) (.int 0)) (hb : ∀ c ∈ cs, ¬ c < 0 ∧ ¬ (255 : Int32) < c) (hl : cs.length ≤ 4000) : OStr Z h a b cs :=
  ⟨kb, 0, _, _, E, F, C, V, ⟨rfl, rfl, rfl, fun c hc => (hb c hc).2⟩, fun c hc => ⟨(hb c hc).1, fun q => (hb c hc).2 (Int32.lt_trans (by decide) q)⟩, hl⟩
theorem Fld.inj {Z : State} {h : Heap} {a : Addr} {C n d : String} {v w : Value} (F : Fld Z h a C n d v) (G : Fld Z h a C n d w) : v = w := by
  by_cases q : v = w
  · exact q
  · exact absurd rfl (F.ne G q)
theorem lo8_inj {c d : Int32} (h1 : ¬ c < 0) (h2 : ¬ (255 : Int32) < c) (h3 : ¬ d < 0) (h4 : ¬ (255 : Int32) < d) (e : c.toInt8.toInt32 = d.toInt8.toInt32) : c = d := by
  have a := c_i2b c; have b := c_i2b d
  rw [e] at a
  simp only [Int32.lt_iff_toInt_lt, Int32.reduceToInt] at h1 h2 h3 h4
  apply Int32.toInt_inj.mp; omega
theorem own_ext {cs ds : List Int32} (hl : cs.length = ds.length) (h : ∀ i, i < cs.length → cs.getD i 0 = ds.getD i 0) : cs = ds := by
  apply List.ext_getElem hl
  intro i h1 h2
  have q := h i h1
  simpa [List.getD_eq_getElem?_getD, h1, h2] using q
theorem own_getD {cs : List Int32} {i : Nat} (f : Int32 → Value) {d : Value} (h : i < cs.length) (hn : cs.length ≤ 4000) : (cs.map f).getD (Int32.ofNat i).toNatClampNeg d = f (cs.getD i 0) := by
  rw [o_cl (by omega)]; simp [List.getD_eq_getElem?_getD, h]
theorem own_mem {cs : List Int32} {i : Nat} (h : i < cs.length) : cs.getD i 0 ∈ cs := by simp [List.getD_eq_getElem?_getD, h]
theorem own_take {cs : List Int32} {i : Nat} (f : Int32 → Value) (h : i < cs.length) : (cs.take (i + 1)).map f = (cs.take i).map f ++ [f (cs.getD i 0)] := by
  rw [List.take_add_one, List.map_append]; congr 1; simp [List.getD_eq_getElem?_getD, h]
theorem own_all {P : Int32 → Prop} {cs : List Int32} {i : Nat} {ch : Int32} (h : i < cs.length) (hch : ch = cs.getD i 0) (hall : ∀ c ∈ cs.take i, P c) (hc : P ch) : ∀ c ∈ cs.take (i + 1), P c := by
  intro c hc2
  rw [List.take_add_one] at hc2
  rcases List.mem_append.mp hc2 with hc2 | hc2
  · exact hall c hc2
  · have : c = ch := by rw [hch]; simp [List.getD_eq_getElem?_getD, h] at hc2 ⊢; exact hc2
    rw [this]; exact hc
theorem own_tl {cs : List Int32} {i : Nat} (f : Int32 → Value) (h : i ≤ cs.length) : ((cs.take i).map f).length = i := by simp; omega
theorem Cod.cd8 {cs : List Int32} {cd N : Int32} {vs : List Value} (h : Cod cs cd N vs) : nar .byte cd = cd := by obtain ⟨rfl, -⟩ := h; rfl
theorem Cod.len {cs : List Int32} {cd N : Int32} {vs : List Value} (h : Cod cs cd N vs) (hl : cs.length ≤ 4000) : N >>> (cd &&& 31) = Int32.ofNat cs.length := by obtain ⟨rfl, rfl, -⟩ := h; exact o_zero _
theorem Cod.n0 {cs : List Int32} {cd N : Int32} {vs : List Value} (h : Cod cs cd N vs) (hl : cs.length ≤ 4000) : N = 0 ↔ cs.length = 0 := by
  have e : ∀ n : Nat, n < 2147483648 → (Int32.ofNat n = 0 ↔ n = 0) := fun n hn => by
    rw [← Int32.toInt_inj, o_int hn]; show ((n : Int) = 0) ↔ _; omega
  obtain ⟨-, rfl, -⟩ := h; exact e _ (by omega)

theorem lit_0 : (∀ c ∈ "".toList, c.toNat < 256) ∧ "".toList.map (fun c => Value.int (Jvm.Lit.byteI c.toNat.toUInt16)) = ([] : List Int32).map lo8 := ⟨by decide +kernel, by rfl⟩
theorem d_cod_0 : decode jdk_42_method_152_code 0 = .ok (.getstatic 38, 3) := by decide +kernel
theorem d_cod_3 : decode jdk_42_method_152_code 3 = .ok (.ifCond .eq 10, 3) := by decide +kernel
theorem d_cod_6 : decode jdk_42_method_152_code 6 = .ok (.aload_n 0, 1) := by decide +kernel
theorem d_cod_7 : decode jdk_42_method_152_code 7 = .ok (.getfield 15, 3) := by decide +kernel
theorem d_cod_10 : decode jdk_42_method_152_code 10 = .ok (.goto 4, 3) := by decide +kernel
theorem d_cod_14 : decode jdk_42_method_152_code 14 = .ok (.ireturn, 1) := by decide +kernel
abbrev rm_cod : Room := ({ frames := 0, cells := 0, slots := 0, locals := 0 } : Room)
def Q_cod (Z : State) (x : Addr) (cd : Int32) (h0 : Heap) (v : Option Value) (h : Heap) : Prop := v = some (.int cd) ∧ h = h0
set_option maxRecDepth 65536 in
set_option maxHeartbeats 40000000 in
theorem ct_cod (l : Launch) (Z : State) (a0 : Array Value) (hw : ∀ d ∈ tables_1, d.before a0 Z = true) (G1 : Int32) (G3 : Value) (OS : Sts Z G1 G3) (hEL : EW Z a0 EL) (hSA : ∀ a ∈ Bundle.stringAtoms, a.before a0 Z = true) (x : Addr) (cd : Int32) {h0 : Heap} (O : Ext Z.heap h0) (C0 : Fld Z h0 x "java/lang/String" "coder" "B" (.int cd)) (hcd : nar .byte cd = cd) : Ct l Z (⟨"java/lang/String", "coder", "()B"⟩ : MethodName) jdk_42_method_152_code 1 (some .byte) rm_cod #[(.ref x)] h0 (Q_cod Z x cd h0) := by
  refine Ct.of_body (Ls := #[.val (.ref x)]) (by decide +kernel) O (fun m => by first | rfl | (simp [entryFrame, mkF, argsToLocals, Value.category]; done) | (rcases ref_cases (Sts.ref OS) with rfl | ⟨r, rfl⟩ <;> rfl)) ?_
  intro p e s m below meth c T0 X0 e0
  subst e0
  refine E_getstatic X0 d_cod_0 (hw _ (List.mem_of_getElem? (i := 11) rfl)) Via.refl OS.1 (pc' := 3) rfl ?_
  intro T1 X2 e3
  rw [← e3] at C0
  refine E_ifF X2 d_cod_3 (XT.i0_eq_f OS.2.1) (pc' := 6) rfl ?_
  refine E_aloadN X2 d_cod_6 rfl rfl (pc' := 7) rfl ?_
  refine E_getfield X2 d_cod_7 (hw _ (List.mem_of_getElem? (i := 28) rfl)) Via.refl C0 (pc' := 10) rfl ?_
  intro T4 X5 e6
  rw [← e6] at C0
  refine E_goto X5 d_cod_10 (pc' := 14) (by decide) rfl ?_
  exact E_ireturnN X5 (t := .byte) d_cod_14 rfl (by simp) (by decide) (by decide) (⟨by rw [hcd], (e6.trans e3)⟩)
theorem d_slen_0 : decode jdk_42_method_54_code 0 = .ok (.aload_n 0, 1) := by decide +kernel
theorem d_slen_1 : decode jdk_42_method_54_code 1 = .ok (.getfield 9, 3) := by decide +kernel
theorem d_slen_4 : decode jdk_42_method_54_code 4 = .ok (.arraylength, 1) := by decide +kernel
theorem d_slen_5 : decode jdk_42_method_54_code 5 = .ok (.aload_n 0, 1) := by decide +kernel
theorem d_slen_6 : decode jdk_42_method_54_code 6 = .ok (.invokevirtual 335, 3) := by decide +kernel
theorem d_slen_9 : decode jdk_42_method_54_code 9 = .ok (.ishr, 1) := by decide +kernel
theorem d_slen_10 : decode jdk_42_method_54_code 10 = .ok (.ireturn, 1) := by decide +kernel
abbrev rm_slen : Room := ({ frames := 1, cells := 0, slots := 0, locals := 13 } : Room)
def Q_slen (Z : State) (x t : Addr) (cs : List Int32) (h0 : Heap) (v : Option Value) (h : Heap) : Prop := v = some (.int (Int32.ofNat cs.length)) ∧ h = h0
set_option maxRecDepth 65536 in
set_option maxHeartbeats 40000000 in
theorem ct_slen (l : Launch) (Z : State) (a0 : Array Value) (hw : ∀ d ∈ tables_1, d.before a0 Z = true) (G1 : Int32) (G3 : Value) (OS : Sts Z G1 G3) (hEL : EW Z a0 EL) (hSA : ∀ a ∈ Bundle.stringAtoms, a.before a0 Z = true) (x t : Addr) (cs : List Int32) {h0 : Heap} (O : Ext Z.heap h0) (S0 : OStr Z h0 x t cs) : Ct l Z (⟨"java/lang/String", "length", "()I"⟩ : MethodName) jdk_42_method_54_code 1 (some .int) rm_slen #[(.ref x)] h0 (Q_slen Z x t cs h0) := by
  refine Ct.of_body (Ls := #[.val (.ref x)]) (by decide +kernel) O (fun m => by first | rfl | (simp [entryFrame, mkF, argsToLocals, Value.category]; done) | (rcases ref_cases (Sts.ref OS) with rfl | ⟨r, rfl⟩ <;> rfl)) ?_
  intro p e s m below meth c T0 X0 e0
  subst e0
  obtain ⟨kb, cd, N, vs, E0, F0, C0, V0, hcod, hpc, hlen⟩ := S0
  refine E_aloadN X0 d_slen_0 rfl rfl (pc' := 1) rfl ?_
  refine E_getfield X0 d_slen_1 (hw _ (List.mem_of_getElem? (i := 27) rfl)) Via.refl F0 (pc' := 4) rfl ?_
  intro T1 X2 e3
  rw [← e3] at E0 F0 C0 V0
  refine E_arraylength X2 d_slen_4 V0 (pc' := 5) rfl ?_
  refine E_aloadN X2 d_slen_5 rfl rfl (pc' := 6) rfl ?_
  refine E_virtual X2 (rm := rm_cod) (a := x) (D := "java/lang/String") d_slen_6 (hw _ (List.mem_of_getElem? (i := 157) rfl)) (hw _ (List.mem_of_getElem? (i := 158) rfl)) (hw _ (List.mem_of_getElem? (i := 160) rfl)) (hw _ (List.mem_of_getElem? (i := 159) rfl)) (notFace_of_selects (args := #[]) (mvT X2.hZ (hw _ (List.mem_of_getElem? (i := 160) rfl)))) (by decide) E0 (hw _ (List.mem_of_getElem? (i := 1) rfl)) (hw _ (List.mem_of_getElem? (i := 161) rfl)) (argsL := []) (st := [(.int N)]) rfl (ct_cod l Z a0 hw G1 G3 OS hEL hSA x cd X2.old C0 hcod.cd8) (lenOf (pd_0) rfl) rfl (by decide) (by decide) (by decide) (Nat.le_of_ble_eq_true rfl)  (pc' := 9) rfl ?_
  intro T4 _ X5 hQ6
  obtain ⟨rfl, e7⟩ := hQ6
  rw [← e7] at E0 F0 C0 V0
  show Ends p e below s Z _ _ _ T4 (mkF m 9 #[.val (.ref x)] [(.int cd), (.int N)])
  refine E_ishr X5 (v := (Int32.ofNat cs.length)) d_slen_9 (hcod.len hlen) (pc' := 10) rfl ?_
  exact E_ireturnI X5 d_slen_10 rfl (by decide) (by decide) (⟨rfl, (e7.trans e3)⟩)
theorem d_compress5_0 : decode jdk_52_method_21_code 0 = .ok (.iconst 0, 1) := by decide +kernel
theorem d_compress5_1 : decode jdk_52_method_21_code 1 = .ok (.istore 5, 2) := by decide +kernel
theorem d_compress5_3 : decode jdk_52_method_21_code 3 = .ok (.iload 5, 2) := by decide +kernel
theorem d_compress5_5 : decode jdk_52_method_21_code 5 = .ok (.iload 4, 2) := by decide +kernel
theorem d_compress5_7 : decode jdk_52_method_21_code 7 = .ok (.if_icmp .ge 37, 3) := by decide +kernel
theorem d_compress5_10 : decode jdk_52_method_21_code 10 = .ok (.aload_n 0, 1) := by decide +kernel
theorem d_compress5_11 : decode jdk_52_method_21_code 11 = .ok (.iload_n 1, 1) := by decide +kernel
theorem d_compress5_12 : decode jdk_52_method_21_code 12 = .ok (.caload, 1) := by decide +kernel
theorem d_compress5_13 : decode jdk_52_method_21_code 13 = .ok (.istore 6, 2) := by decide +kernel
theorem d_compress5_15 : decode jdk_52_method_21_code 15 = .ok (.iload 6, 2) := by decide +kernel
theorem d_compress5_17 : decode jdk_52_method_21_code 17 = .ok (.sipush 255, 3) := by decide +kernel
theorem d_compress5_20 : decode jdk_52_method_21_code 20 = .ok (.if_icmp .le 6, 3) := by decide +kernel
theorem d_compress5_23 : decode jdk_52_method_21_code 23 = .ok (.iload 5, 2) := by decide +kernel
theorem d_compress5_25 : decode jdk_52_method_21_code 25 = .ok (.ireturn, 1) := by decide +kernel
theorem d_compress5_26 : decode jdk_52_method_21_code 26 = .ok (.aload_n 2, 1) := by decide +kernel
theorem d_compress5_27 : decode jdk_52_method_21_code 27 = .ok (.iload_n 3, 1) := by decide +kernel
theorem d_compress5_28 : decode jdk_52_method_21_code 28 = .ok (.iload 6, 2) := by decide +kernel
theorem d_compress5_30 : decode jdk_52_method_21_code 30 = .ok (.i2b, 1) := by decide +kernel
theorem d_compress5_31 : decode jdk_52_method_21_code 31 = .ok (.bastore, 1) := by decide +kernel
theorem d_compress5_32 : decode jdk_52_method_21_code 32 = .ok (.iinc 1 1, 3) := by decide +kernel
theorem d_compress5_35 : decode jdk_52_method_21_code 35 = .ok (.iinc 3 1, 3) := by decide +kernel
theorem d_compress5_38 : decode jdk_52_method_21_code 38 = .ok (.iinc 5 1, 3) := by decide +kernel
theorem d_compress5_41 : decode jdk_52_method_21_code 41 = .ok (.goto (-38), 3) := by decide +kernel
theorem d_compress5_44 : decode jdk_52_method_21_code 44 = .ok (.iload 4, 2) := by decide +kernel
theorem d_compress5_46 : decode jdk_52_method_21_code 46 = .ok (.ireturn, 1) := by decide +kernel
abbrev rm_compress5 : Room := ({ frames := 0, cells := 0, slots := 0, locals := 0 } : Room)
def Q_compress5 (Z : State) (b t : Addr) (kC kb : ClassId) (cs : List Int32) (dv : Value) (h0 : Heap) (v : Option Value) (h : Heap) : Prop := Keep h0 h [t] ∧ ((v = some (.int (Int32.ofNat cs.length)) ∧ (∀ c ∈ cs, ¬ (255 : Int32) < c) ∧ Arv Z h t kb .byte (Int32.ofNat cs.length) (cs.map lo8) (.int (0 : Int32))) ∨ (∃ j, j < cs.length ∧ v = some (.int (Int32.ofNat j)) ∧ (255 : Int32) < cs.getD j 0))
set_option maxRecDepth 65536 in
set_option maxHeartbeats 40000000 in
theorem lp_compress5 (l : Launch) (Z : State) (a0 : Array Value) (hw : ∀ d ∈ tables_1, d.before a0 Z = true) (G1 : Int32) (G3 : Value) (OS : Sts Z G1 G3) (hEL : EW Z a0 EL) (hSA : ∀ a ∈ Bundle.stringAtoms, a.before a0 Z = true) (b t : Addr) (kC kb : ClassId) (cs : List Int32) (dv : Value) {h0 : Heap} {p : Program} {e : Env} {s : State} {m : MethodId} {below : List Frame} {meth : Method} {c : Code} (k : Nat) : ∀ {T0 : State} (i : Nat) (o : Slot), Wk l Z rm_compress5 jdk_52_method_21_code 7 (some .int) "java/lang/StringUTF16" "compress" p e s m #[(.ref b), (.int (0 : Int32)), (.ref t), (.int (0 : Int32)), (.int (Int32.ofNat cs.length))] below meth c T0 0 0 → (i + k = cs.length) → (o = .unset ∨ ∃ w, o = .val w ∧ w.category = 1) → (cs.length ≤ 4000) → (Arv Z T0.heap b kC .char (Int32.ofNat cs.length) (cs.map Value.int) dv) → (Arv Z T0.heap t kb .byte (Int32.ofNat cs.length) ((cs.take i).map lo8) (.int (0 : Int32))) → (b ≠ t) → (Z.heap.size ≤ t) → (Keep h0 T0.heap [t]) → (∀ c ∈ cs.take i, ¬ (255 : Int32) < c) → Ends p e below s Z (Q_compress5 Z b t kC kb cs dv h0) rm_compress5.cells rm_compress5.slots T0 (mkF m 3 #[.val (.ref b), .val (.int (Int32.ofNat i)), .val (.ref t), .val (.int (Int32.ofNat i)), .val (.int (Int32.ofNat cs.length)), .val (.int (Int32.ofNat i)), o] []) := by
  induction k with
  | zero =>
    intro T0 i o X0 hi hone hlen V0 D0 hbt gt K00 hall
    have hik : i = cs.length := by omega
    subst hik
    rw [List.take_length] at hall
    rw [List.take_length] at D0
    refine E_iload X0 d_compress5_3 rfl (pc' := 5) rfl ?_
    refine E_iload X0 d_compress5_5 rfl (pc' := 7) rfl ?_
    refine E_icT X0 d_compress5_7 (XT.ii_ge_t (o_nlt (Nat.le_refl _) (by omega))) (pc' := 44) (by decide) rfl ?_
    refine E_iload X0 d_compress5_44 rfl (pc' := 46) rfl ?_
    exact E_ireturnI X0 d_compress5_46 rfl (by decide) (by decide) (⟨K00, Or.inl ⟨rfl, hall, D0⟩⟩)
  | succ k ih =>
    intro T0 i o X0 hi hone hlen V0 D0 hbt gt K00 hall
    have hlt : i < cs.length := by omega
    obtain ⟨ch, hch⟩ : ∃ c, c = cs.getD i 0 := ⟨_, rfl⟩
    refine E_iload X0 d_compress5_3 rfl (pc' := 5) rfl ?_
    refine E_iload X0 d_compress5_5 rfl (pc' := 7) rfl ?_
    refine E_icF X0 d_compress5_7 (XT.ii_ge_f (o_lt hlt (by omega))) (pc' := 10) rfl ?_
    refine E_aloadN X0 d_compress5_10 rfl rfl (pc' := 11) rfl ?_
    refine E_iloadN X0 d_compress5_11 rfl (pc' := 12) rfl ?_
    refine E_caload X0 (v := (.int ch)) d_compress5_12 V0 ⟨o_nn (by omega), o_lt hlt (by omega)⟩ (by rw [own_getD Value.int hlt hlen, hch]) (pc' := 13) rfl ?_
    refine E_istore X0 d_compress5_13 (l' := #[.val (.ref b), .val (.int (Int32.ofNat i)), .val (.ref t), .val (.int (Int32.ofNat i)), .val (.int (Int32.ofNat cs.length)), .val (.int (Int32.ofNat i)), .val (.int ch)]) (XS.store1 rfl hone rfl) (pc' := 15) rfl ?_
    refine E_iload X0 d_compress5_15 rfl (pc' := 17) rfl ?_
    refine E_sipush X0 (v := (255 : Int32)) d_compress5_17 rfl (pc' := 20) rfl ?_
    by_cases hc : (255 : Int32) < ch
    · skip
      refine E_icF X0 d_compress5_20 (XT.ii_le_f hc) (pc' := 23) rfl ?_
      refine E_iload X0 d_compress5_23 rfl (pc' := 25) rfl ?_
      exact E_ireturnI X0 d_compress5_25 rfl (by decide) (by decide) (⟨K00, Or.inr ⟨i, hlt, rfl, hch ▸ hc⟩⟩)
    · skip
      refine E_icT X0 d_compress5_20 (XT.ii_le_t hc) (pc' := 26) (by decide) rfl ?_
      refine E_aloadN X0 d_compress5_26 rfl rfl (pc' := 27) rfl ?_
      refine E_iloadN X0 d_compress5_27 rfl (pc' := 28) rfl ?_
      refine E_iload X0 d_compress5_28 rfl (pc' := 30) rfl ?_
      refine E_i2b X0 d_compress5_30 rfl (pc' := 31) rfl ?_
      refine E_bastoreA X0 (y := (ch).toInt8.toInt32) d_compress5_31 (o_b8 _) D0 ⟨o_nn (by omega), o_lt hlt (by omega)⟩ (by rw [o_cl (by omega), own_tl lo8 (by omega)]) gt (pc' := 32) rfl ?_
      intro T1 X2 K3 V4
      have KK5 := K00.trans K3 (allS (Or.inl (by simp)) (fun x q => nomatch q))
      have Arv_6 := V0.keep K3 (ninS hbt nin0)
      have V7 : Arv Z T1.heap t kb .byte (Int32.ofNat cs.length) ((cs.take i).map lo8 ++ [lo8 ch]) (.int (0 : Int32)) := V4
      refine E_iinc X2 (y := (Int32.ofNat (i + 1))) d_compress5_32 o_add rfl (l' := #[.val (.ref b), .val (.int (Int32.ofNat (i + 1))), .val (.ref t), .val (.int (Int32.ofNat i)), .val (.int (Int32.ofNat cs.length)), .val (.int (Int32.ofNat i)), .val (.int ch)]) rfl (pc' := 35) rfl ?_
      refine E_iinc X2 (y := (Int32.ofNat (i + 1))) d_compress5_35 o_add rfl (l' := #[.val (.ref b), .val (.int (Int32.ofNat (i + 1))), .val (.ref t), .val (.int (Int32.ofNat (i + 1))), .val (.int (Int32.ofNat cs.length)), .val (.int (Int32.ofNat i)), .val (.int ch)]) rfl (pc' := 38) rfl ?_
      refine E_iinc X2 (y := (Int32.ofNat (i + 1))) d_compress5_38 o_add rfl (l' := #[.val (.ref b), .val (.int (Int32.ofNat (i + 1))), .val (.ref t), .val (.int (Int32.ofNat (i + 1))), .val (.int (Int32.ofNat cs.length)), .val (.int (Int32.ofNat (i + 1))), .val (.int ch)]) rfl (pc' := 41) rfl ?_
      refine E_goto X2 d_compress5_41 (pc' := 3) (by decide) rfl ?_
      have hV2 : Arv Z T1.heap t kb .byte (Int32.ofNat cs.length) ((cs.take (i + 1)).map lo8) (.int (0 : Int32)) := by rw [own_take lo8 hlt, ← hch]; exact V7
      have hall2 := own_all hlt hch hall hc
      exact ih (i + 1) (.val (.int ch)) X2 (by omega) (Or.inr ⟨_, rfl, rfl⟩) hlen Arv_6 hV2 hbt gt KK5 hall2
set_option maxRecDepth 65536 in
set_option maxHeartbeats 40000000 in
theorem ct_compress5 (l : Launch) (Z : State) (a0 : Array Value) (hw : ∀ d ∈ tables_1, d.before a0 Z = true) (G1 : Int32) (G3 : Value) (OS : Sts Z G1 G3) (hEL : EW Z a0 EL) (hSA : ∀ a ∈ Bundle.stringAtoms, a.before a0 Z = true) (b t : Addr) (kC kb : ClassId) (cs : List Int32) (dv : Value) {h0 : Heap} (O : Ext Z.heap h0) (hlen : cs.length ≤ 4000) (V0 : Arv Z h0 b kC .char (Int32.ofNat cs.length) (cs.map Value.int) dv) (D0 : Arv Z h0 t kb .byte (Int32.ofNat cs.length) ([]) (.int (0 : Int32))) (hbt : b ≠ t) (gt : Z.heap.size ≤ t) : Ct l Z (⟨"java/lang/StringUTF16", "compress", "([CI[BII)I"⟩ : MethodName) jdk_52_method_21_code 7 (some .int) rm_compress5 #[(.ref b), (.int (0 : Int32)), (.ref t), (.int (0 : Int32)), (.int (Int32.ofNat cs.length))] h0 (Q_compress5 Z b t kC kb cs dv h0) := by
  refine Ct.of_body (Ls := #[.val (.ref b), .val (.int (0 : Int32)), .val (.ref t), .val (.int (0 : Int32)), .val (.int (Int32.ofNat cs.length)), .unset, .unset]) (by decide +kernel) O (fun m => by first | rfl | (simp [entryFrame, mkF, argsToLocals, Value.category]; done) | (rcases ref_cases (Sts.ref OS) with rfl | ⟨r, rfl⟩ <;> rfl)) ?_
  intro p e s m below meth c T0 X0 e0
  subst e0
  refine E_iconst X0 (v := (0 : Int32)) d_compress5_0 rfl (pc' := 1) rfl ?_
  refine E_istore X0 d_compress5_1 (l' := #[.val (.ref b), .val (.int (0 : Int32)), .val (.ref t), .val (.int (0 : Int32)), .val (.int (Int32.ofNat cs.length)), .val (.int (0 : Int32)), .unset]) rfl (pc' := 3) rfl ?_
  exact lp_compress5 l Z a0 hw G1 G3 OS hEL hSA b t kC kb cs dv cs.length 0 .unset X0 (by omega) (Or.inl rfl) hlen V0 D0 hbt gt (Keep.refl _ _) (fun c hc => by simp at hc)
theorem d_cfl_0 : decode jdk_52_method_15_code 0 = .ok (.iload_n 1, 1) := by decide +kernel
theorem d_cfl_1 : decode jdk_52_method_15_code 1 = .ok (.aload_n 0, 1) := by decide +kernel
theorem d_cfl_2 : decode jdk_52_method_15_code 2 = .ok (.arraylength, 1) := by decide +kernel
theorem d_cfl_3 : decode jdk_52_method_15_code 3 = .ok (.isub, 1) := by decide +kernel
theorem d_cfl_4 : decode jdk_52_method_15_code 4 = .ok (.bipush 31, 2) := by decide +kernel
theorem d_cfl_6 : decode jdk_52_method_15_code 6 = .ok (.iushr, 1) := by decide +kernel
theorem d_cfl_7 : decode jdk_52_method_15_code 7 = .ok (.i2b, 1) := by decide +kernel
theorem d_cfl_8 : decode jdk_52_method_15_code 8 = .ok (.ireturn, 1) := by decide +kernel
abbrev rm_cfl : Room := ({ frames := 0, cells := 0, slots := 0, locals := 0 } : Room)
def Q_cfl (Z : State) (t : Addr) (kb : ClassId) (N n z : Int32) (vs : List Value) (h0 : Heap) (v : Option Value) (h : Heap) : Prop := v = some (.int z) ∧ h = h0
set_option maxRecDepth 65536 in
set_option maxHeartbeats 40000000 in
theorem ct_cfl (l : Launch) (Z : State) (a0 : Array Value) (hw : ∀ d ∈ tables_1, d.before a0 Z = true) (G1 : Int32) (G3 : Value) (OS : Sts Z G1 G3) (hEL : EW Z a0 EL) (hSA : ∀ a ∈ Bundle.stringAtoms, a.before a0 Z = true) (t : Addr) (kb : ClassId) (N n z : Int32) (vs : List Value) {h0 : Heap} (O : Ext Z.heap h0) (V0 : Arv Z h0 t kb .byte N vs (.int (0 : Int32))) (hz : nar .byte ((((n - N).toUInt32 >>> ((31 : Int32) &&& 31).toUInt32).toInt32).toInt8.toInt32) = z) : Ct l Z (⟨"java/lang/StringUTF16", "coderFromArrayLen", "([BI)B"⟩ : MethodName) jdk_52_method_15_code 2 (some .byte) rm_cfl #[(.ref t), (.int n)] h0 (Q_cfl Z t kb N n z vs h0) := by
  refine Ct.of_body (Ls := #[.val (.ref t), .val (.int n)]) (by decide +kernel) O (fun m => by first | rfl | (simp [entryFrame, mkF, argsToLocals, Value.category]; done) | (rcases ref_cases (Sts.ref OS) with rfl | ⟨r, rfl⟩ <;> rfl)) ?_
  intro p e s m below meth c T0 X0 e0
  subst e0
  refine E_iloadN X0 d_cfl_0 rfl (pc' := 1) rfl ?_
  refine E_aloadN X0 d_cfl_1 rfl rfl (pc' := 2) rfl ?_
  refine E_arraylength X0 d_cfl_2 V0 (pc' := 3) rfl ?_
  refine E_isub X0 d_cfl_3 rfl (pc' := 4) rfl ?_
  refine E_bipush X0 (v := (31 : Int32)) d_cfl_4 rfl (pc' := 6) rfl ?_
  refine E_iushr X0 d_cfl_6 rfl (pc' := 7) rfl ?_
  refine E_i2b X0 d_cfl_7 rfl (pc' := 8) rfl ?_
  exact E_ireturnN X0 (t := .byte) d_cfl_8 rfl (by simp) (by decide) (by decide) (⟨by rw [hz], rfl⟩)
theorem d_compress3_0 : decode jdk_52_method_16_code 0 = .ok (.iload_n 2, 1) := by decide +kernel
theorem d_compress3_1 : decode jdk_52_method_16_code 1 = .ok (.newarray .byte, 2) := by decide +kernel
theorem d_compress3_3 : decode jdk_52_method_16_code 3 = .ok (.astore_n 3, 1) := by decide +kernel
theorem d_compress3_4 : decode jdk_52_method_16_code 4 = .ok (.aload_n 0, 1) := by decide +kernel
theorem d_compress3_5 : decode jdk_52_method_16_code 5 = .ok (.iload_n 1, 1) := by decide +kernel
theorem d_compress3_6 : decode jdk_52_method_16_code 6 = .ok (.aload_n 3, 1) := by decide +kernel
theorem d_compress3_7 : decode jdk_52_method_16_code 7 = .ok (.iconst 0, 1) := by decide +kernel
theorem d_compress3_8 : decode jdk_52_method_16_code 8 = .ok (.iload_n 2, 1) := by decide +kernel
theorem d_compress3_9 : decode jdk_52_method_16_code 9 = .ok (.invokestatic 115, 3) := by decide +kernel
theorem d_compress3_12 : decode jdk_52_method_16_code 12 = .ok (.istore 4, 2) := by decide +kernel
theorem d_compress3_14 : decode jdk_52_method_16_code 14 = .ok (.iload 4, 2) := by decide +kernel
theorem d_compress3_16 : decode jdk_52_method_16_code 16 = .ok (.iload_n 2, 1) := by decide +kernel
theorem d_compress3_17 : decode jdk_52_method_16_code 17 = .ok (.if_icmp .eq 40, 3) := by decide +kernel
theorem d_compress3_57 : decode jdk_52_method_16_code 57 = .ok (.aload_n 3, 1) := by decide +kernel
theorem d_compress3_58 : decode jdk_52_method_16_code 58 = .ok (.areturn, 1) := by decide +kernel
abbrev rm_compress3 : Room := ({ frames := 1, cells := 1, slots := 2, locals := 18 } : Room)
def Q_compress3 (Z : State) (b : Addr) (kC : ClassId) (cs : List Int32) (dv : Value) (h0 : Heap) (v : Option Value) (h : Heap) : Prop := ∃ t kb, v = some (.ref t) ∧ Keep h0 h [] ∧ h0.size ≤ t ∧ ((∀ c ∈ cs, ¬ (255 : Int32) < c) ∧ Arv Z h t kb .byte (Int32.ofNat cs.length) (cs.map lo8) (.int (0 : Int32)))
set_option maxRecDepth 65536 in
set_option maxHeartbeats 40000000 in
theorem ct_compress3 (l : Launch) (Z : State) (a0 : Array Value) (hw : ∀ d ∈ tables_1, d.before a0 Z = true) (G1 : Int32) (G3 : Value) (OS : Sts Z G1 G3) (hEL : EW Z a0 EL) (hSA : ∀ a ∈ Bundle.stringAtoms, a.before a0 Z = true) (b : Addr) (kC : ClassId) (cs : List Int32) (dv : Value) {h0 : Heap} (O : Ext Z.heap h0) (hmx : cs.length ≤ 2) (hmx4 : cs.length ≤ 4000) (hp : ∀ c ∈ cs, ¬ (255 : Int32) < c) (V0 : Arv Z h0 b kC .char (Int32.ofNat cs.length) (cs.map Value.int) dv) : Ct l Z (⟨"java/lang/StringUTF16", "compress", "([CII)[B"⟩ : MethodName) jdk_52_method_16_code 6 (some (.array .byte)) rm_compress3 #[(.ref b), (.int (0 : Int32)), (.int (Int32.ofNat cs.length))] h0 (Q_compress3 Z b kC cs dv h0) := by
  refine Ct.of_body (Ls := #[.val (.ref b), .val (.int (0 : Int32)), .val (.int (Int32.ofNat cs.length)), .unset, .unset, .unset]) (by decide +kernel) O (fun m => by first | rfl | (simp [entryFrame, mkF, argsToLocals, Value.category]; done) | (rcases ref_cases (Sts.ref OS) with rfl | ⟨r, rfl⟩ <;> rfl)) ?_
  intro p e s m below meth c T0 X0 e0
  subst e0
  have K00 := Keep.refl T0.heap []
  refine E_iloadN X0 d_compress3_0 rfl (pc' := 1) rfl ?_
  refine E_newarray X0 2 d_compress3_1 (hw _ (List.mem_of_getElem? (i := 3) rfl)) (o_nn (by omega)) (by rw [o_cl (by omega)]; exact hmx) (by decide) (by decide) (by decide) (pc' := 3) rfl ?_
  intro T1 b3 k7 X2 hb4 K5 V6
  have sz8 : T0.heap.size ≤ b3 := Nat.le_trans K00.1 (Nat.le_of_eq hb4.symm)
  have ne9 : b ≠ b3 := Nat.ne_of_lt (Nat.lt_of_lt_of_eq V0.lt hb4.symm)
  have KK10 := K00.trans K5 (fun x q => nomatch q)
  have Arv_11 := V0.keep K5 nin0
  have g12 : Z.heap.size ≤ b3 := Nat.le_trans X0.le (Nat.le_of_eq hb4.symm)
  have V13 : Arv Z T1.heap b3 k7 .byte (Int32.ofNat cs.length) [] (.int (0 : Int32)) := V6
  refine E_astoreN X2 d_compress3_3 rfl (l' := #[.val (.ref b), .val (.int (0 : Int32)), .val (.int (Int32.ofNat cs.length)), .val (.ref b3), .unset, .unset]) rfl (pc' := 4) rfl ?_
  refine E_aloadN X2 d_compress3_4 rfl rfl (pc' := 5) rfl ?_
  refine E_iloadN X2 d_compress3_5 rfl (pc' := 6) rfl ?_
  refine E_aloadN X2 d_compress3_6 rfl rfl (pc' := 7) rfl ?_
  refine E_iconst X2 (v := (0 : Int32)) d_compress3_7 rfl (pc' := 8) rfl ?_
  refine E_iloadN X2 d_compress3_8 rfl (pc' := 9) rfl ?_
  refine E_static X2 (rm := rm_compress5) d_compress3_9 (hw _ (List.mem_of_getElem? (i := 41) rfl)) (hw _ (List.mem_of_getElem? (i := 42) rfl)) (hw _ (List.mem_of_getElem? (i := 39) rfl)) (hw _ (List.mem_of_getElem? (i := 43) rfl)) (by decide) (argsL := [(.ref b), (.int (0 : Int32)), (.ref b3), (.int (0 : Int32)), (.int (Int32.ofNat cs.length))]) (st := []) rfl (ct_compress5 l Z a0 hw G1 G3 OS hEL hSA b b3 kC k7 cs dv X2.old hmx4 Arv_11 V13 ne9 g12) (lenOf (pd_1) rfl) rfl (by decide) (by decide) (by decide) (Nat.le_of_ble_eq_true rfl)  (pc' := 12) rfl ?_
  intro T14 _ X15 hQ16
  obtain ⟨K17, hor⟩ := hQ16
  have KK18 := KK10.trans K17 (allS (Or.inr sz8) (fun x q => nomatch q))
  have Arv_19 := Arv_11.keep K17 (ninS ne9 nin0)
  rcases hor with ⟨rfl, hall, VB⟩ | ⟨j, hj, rfl, hbig⟩
  · skip
    show Ends p e below s Z _ _ _ T14 (mkF m 12 #[.val (.ref b), .val (.int (0 : Int32)), .val (.int (Int32.ofNat cs.length)), .val (.ref b3), .unset, .unset] [(.int (Int32.ofNat cs.length))])
    refine E_istore X15 d_compress3_12 (l' := #[.val (.ref b), .val (.int (0 : Int32)), .val (.int (Int32.ofNat cs.length)), .val (.ref b3), .val (.int (Int32.ofNat cs.length)), .unset]) rfl (pc' := 14) rfl ?_
    refine E_iload X15 d_compress3_14 rfl (pc' := 16) rfl ?_
    refine E_iloadN X15 d_compress3_16 rfl (pc' := 17) rfl ?_
    refine E_icT X15 d_compress3_17 (XT.ii_eq_t rfl) (pc' := 57) (by decide) rfl ?_
    refine E_aloadN X15 d_compress3_57 rfl rfl (pc' := 58) rfl ?_
    exact E_areturn X15 (t := (.array .byte)) d_compress3_58 rfl rfl rfl rfl (by decide) (by decide) (⟨b3, k7, rfl, KK18, sz8, ⟨hall, VB⟩⟩)
  · skip
    exact absurd hbig (hp _ (own_mem hj))
theorem d_init4_0 : decode jdk_42_method_149_code 0 = .ok (.aload_n 0, 1) := by decide +kernel
theorem d_init4_1 : decode jdk_42_method_149_code 1 = .ok (.invokespecial 1, 3) := by decide +kernel
theorem d_init4_4 : decode jdk_42_method_149_code 4 = .ok (.iload_n 3, 1) := by decide +kernel
theorem d_init4_5 : decode jdk_42_method_149_code 5 = .ok (.ifCond .ne 22, 3) := by decide +kernel
theorem d_init4_27 : decode jdk_42_method_149_code 27 = .ok (.getstatic 38, 3) := by decide +kernel
theorem d_init4_30 : decode jdk_42_method_149_code 30 = .ok (.ifCond .eq 28, 3) := by decide +kernel
theorem d_init4_33 : decode jdk_42_method_149_code 33 = .ok (.aload_n 1, 1) := by decide +kernel
theorem d_init4_34 : decode jdk_42_method_149_code 34 = .ok (.iload_n 2, 1) := by decide +kernel
theorem d_init4_35 : decode jdk_42_method_149_code 35 = .ok (.iload_n 3, 1) := by decide +kernel
theorem d_init4_36 : decode jdk_42_method_149_code 36 = .ok (.invokestatic 177, 3) := by decide +kernel
theorem d_init4_39 : decode jdk_42_method_149_code 39 = .ok (.astore 5, 2) := by decide +kernel
theorem d_init4_41 : decode jdk_42_method_149_code 41 = .ok (.aload_n 0, 1) := by decide +kernel
theorem d_init4_42 : decode jdk_42_method_149_code 42 = .ok (.aload 5, 2) := by decide +kernel
theorem d_init4_44 : decode jdk_42_method_149_code 44 = .ok (.iload_n 3, 1) := by decide +kernel
theorem d_init4_45 : decode jdk_42_method_149_code 45 = .ok (.invokestatic 47, 3) := by decide +kernel
theorem d_init4_48 : decode jdk_42_method_149_code 48 = .ok (.putfield 15, 3) := by decide +kernel
theorem d_init4_51 : decode jdk_42_method_149_code 51 = .ok (.aload_n 0, 1) := by decide +kernel
theorem d_init4_52 : decode jdk_42_method_149_code 52 = .ok (.aload 5, 2) := by decide +kernel
theorem d_init4_54 : decode jdk_42_method_149_code 54 = .ok (.putfield 9, 3) := by decide +kernel
theorem d_init4_57 : decode jdk_42_method_149_code 57 = .ok (.return_, 1) := by decide +kernel
abbrev rm_init4 : Room := ({ frames := 2, cells := 1, slots := 2, locals := 35 } : Room)
def Q_init4 (Z : State) (x b : Addr) (kC : ClassId) (cs : List Int32) (dv v0 c0 : Value) (h0 : Heap) (v : Option Value) (h : Heap) : Prop := v = none ∧ Keep h0 h [x] ∧ ∃ t, h0.size ≤ t ∧ OStr Z h x t cs
set_option maxRecDepth 65536 in
set_option maxHeartbeats 40000000 in
theorem ct_init4 (l : Launch) (Z : State) (a0 : Array Value) (hw : ∀ d ∈ tables_1, d.before a0 Z = true) (G1 : Int32) (G3 : Value) (OS : Sts Z G1 G3) (hEL : EW Z a0 EL) (hSA : ∀ a ∈ Bundle.stringAtoms, a.before a0 Z = true) (x b : Addr) (kC : ClassId) (cs : List Int32) (dv v0 c0 : Value) {h0 : Heap} (O : Ext Z.heap h0) (h0l : 0 < cs.length) (hmx : cs.length ≤ 2) (hp : ∀ c ∈ cs, ¬ c < 0 ∧ ¬ (255 : Int32) < c) (E0 : Exa Z h0 x "java/lang/String") (F0 : Fld Z h0 x "java/lang/String" "value" "[B" v0) (C0 : Fld Z h0 x "java/lang/String" "coder" "B" c0) (gx : Z.heap.size ≤ x) (V0 : Arv Z h0 b kC .char (Int32.ofNat cs.length) (cs.map Value.int) dv) : Ct l Z (⟨"java/lang/String", "<init>", "([CIILjava/lang/Void;)V"⟩ : MethodName) jdk_42_method_149_code 6 none rm_init4 #[(.ref x), (.ref b), (.int (0 : Int32)), (.int (Int32.ofNat cs.length)), .null] h0 (Q_init4 Z x b kC cs dv v0 c0 h0) := by
  refine Ct.of_body (Ls := #[.val (.ref x), .val (.ref b), .val (.int (0 : Int32)), .val (.int (Int32.ofNat cs.length)), .val .null, .unset]) (by decide +kernel) O (fun m => by first | rfl | (simp [entryFrame, mkF, argsToLocals, Value.category]; done) | (rcases ref_cases (Sts.ref OS) with rfl | ⟨r, rfl⟩ <;> rfl)) ?_
  intro p e s m below meth c T0 X0 e0
  subst e0
  have hmx4 : cs.length ≤ 4000 := by omega
  have hxb : b ≠ x := fun q => by subst q; exact absurd rfl (ne_arr E0 (hw _ (List.mem_of_getElem? (i := 2) rfl)) (V0.choose_spec.1))
  have K00 := Keep.refl T0.heap [x]
  refine E_aloadN X0 d_init4_0 rfl rfl (pc' := 1) rfl ?_
  refine E_initO X0 d_init4_1 (hw _ (List.mem_of_getElem? (i := 24) rfl)) (hw _ (List.mem_of_getElem? (i := 25) rfl)) (hw _ (List.mem_of_getElem? (i := 26) rfl)) rfl (by decide) (Nat.le_of_ble_eq_true rfl) (pc' := 4) rfl ?_
  intro T1 X2 e3
  have KK4 := own_keq K00 e3
  rw [← e3] at E0 F0 C0 V0
  refine E_iloadN X2 d_init4_4 rfl (pc' := 5) rfl ?_
  refine E_ifT X2 d_init4_5 (XT.i0_ne_t (fun q => by have q2 := congrArg Int32.toInt q; rw [o_int (by omega)] at q2; have o1 : (0 : Int32).toInt = 0 := rfl; omega)) (pc' := 27) (by decide) rfl ?_
  refine E_getstatic X2 d_init4_27 (hw _ (List.mem_of_getElem? (i := 11) rfl)) Via.refl OS.1 (pc' := 30) rfl ?_
  intro T5 X6 e7
  have KK8 := own_keq KK4 e7
  rw [← e7] at E0 F0 C0 V0
  refine E_ifF X6 d_init4_30 (XT.i0_eq_f OS.2.1) (pc' := 33) rfl ?_
  refine E_aloadN X6 d_init4_33 rfl rfl (pc' := 34) rfl ?_
  refine E_iloadN X6 d_init4_34 rfl (pc' := 35) rfl ?_
  refine E_iloadN X6 d_init4_35 rfl (pc' := 36) rfl ?_
  refine E_static X6 (rm := rm_compress3) d_init4_36 (hw _ (List.mem_of_getElem? (i := 37) rfl)) (hw _ (List.mem_of_getElem? (i := 38) rfl)) (hw _ (List.mem_of_getElem? (i := 39) rfl)) (hw _ (List.mem_of_getElem? (i := 40) rfl)) (by decide) (argsL := [(.ref b), (.int (0 : Int32)), (.int (Int32.ofNat cs.length))]) (st := []) rfl (ct_compress3 l Z a0 hw G1 G3 OS hEL hSA b kC cs dv X6.old hmx hmx4 (fun c hc => (hp c hc).2) V0) (lenOf (pd_2) rfl) rfl (by decide) (by decide) (by decide) (Nat.le_of_ble_eq_true rfl)  (pc' := 39) rfl ?_
  intro T9 _ X10 hQ11
  obtain ⟨t, kb, rfl, K12, szt0, hVT⟩ := hQ11
  have hxt : t ≠ x := Ne.symm (Nat.ne_of_lt (Nat.lt_of_lt_of_le E0.lt szt0))
  have KK13 := KK8.trans K12 (fun x q => nomatch q)
  have Exa_14 := E0.keep K12
  have Fld_15 := F0.keep K12 nin0
  have Fld_16 := C0.keep K12 nin0
  have Arv_17 := V0.keep K12 nin0
  have szt : T0.heap.size ≤ t := Nat.le_trans KK8.1 szt0
  obtain ⟨hall, VT⟩ := hVT
  show Ends p e below s Z _ _ _ T9 (mkF m 39 #[.val (.ref x), .val (.ref b), .val (.int (0 : Int32)), .val (.int (Int32.ofNat cs.length)), .val .null, .unset] [(.ref t)])
  refine E_astore X10 d_init4_39 rfl (l' := #[.val (.ref x), .val (.ref b), .val (.int (0 : Int32)), .val (.int (Int32.ofNat cs.length)), .val .null, .val (.ref t)]) rfl (pc' := 41) rfl ?_
  refine E_aloadN X10 d_init4_41 rfl rfl (pc' := 42) rfl ?_
  refine E_aload X10 d_init4_42 rfl rfl (pc' := 44) rfl ?_
  refine E_iloadN X10 d_init4_44 rfl (pc' := 45) rfl ?_
  refine E_static X10 (rm := rm_cfl) d_init4_45 (hw _ (List.mem_of_getElem? (i := 44) rfl)) (hw _ (List.mem_of_getElem? (i := 45) rfl)) (hw _ (List.mem_of_getElem? (i := 39) rfl)) (hw _ (List.mem_of_getElem? (i := 46) rfl)) (by decide) (argsL := [(.ref t), (.int (Int32.ofNat cs.length))]) (st := [(.ref x)]) rfl (ct_cfl l Z a0 hw G1 G3 OS hEL hSA t kb (Int32.ofNat cs.length) (Int32.ofNat cs.length) 0 (cs.map lo8) X10.old VT (by rw [Int32.sub_self]; rfl)) (lenOf (pd_3) rfl) rfl (by decide) (by decide) (by decide) (Nat.le_of_ble_eq_true rfl)  (pc' := 48) rfl ?_
  intro T18 _ X19 hQ20
  obtain ⟨rfl, e21⟩ := hQ20
  have KK22 := own_keq KK13 e21
  rw [← e21] at Exa_14 Fld_15 Fld_16 Arv_17 VT
  show Ends p e below s Z _ _ _ T18 (mkF m 48 #[.val (.ref x), .val (.ref b), .val (.int (0 : Int32)), .val (.int (Int32.ofNat cs.length)), .val .null, .val (.ref t)] [(.int (0 : Int32)), (.ref x)])
  refine E_putfield X19 (ty := .byte) d_init4_48 (hw _ (List.mem_of_getElem? (i := 28) rfl)) Via.refl Fld_16 Exa_14 (Or.inr ⟨(hw _ (List.mem_of_getElem? (i := 5) rfl)), rfl, rfl⟩) (hw _ (List.mem_of_getElem? (i := 2) rfl)) (by decide) rfl rfl gx  (pc' := 51) rfl ?_
  intro T23 X24 W25
  have K26 := Keep.of_wr W25
  have KK27 := KK22.trans K26 (allS (Or.inl (by simp)) (fun x q => nomatch q))
  have Exa_28 := Exa_14.keep K26
  have Arv_29 := Arv_17.keep K26 (ninS hxb nin0)
  have Arv_30 := VT.keep K26 (ninS hxt nin0)
  have F31 := Fld_16.same W25
  have F32 := Fld_15.other W25 (Or.inr (slot_ne (Or.inr (hw _ (List.mem_of_getElem? (i := 4) rfl))) (Or.inr (hw _ (List.mem_of_getElem? (i := 5) rfl))) (by decide) (t := (.array .byte)) (t' := .byte) (by decide) (by decide)))
  refine E_aloadN X24 d_init4_51 rfl rfl (pc' := 52) rfl ?_
  refine E_aload X24 d_init4_52 rfl rfl (pc' := 54) rfl ?_
  refine E_putfield X24 (ty := (.array .byte)) d_init4_54 (hw _ (List.mem_of_getElem? (i := 27) rfl)) Via.refl F32 Exa_28 (Or.inr ⟨(hw _ (List.mem_of_getElem? (i := 4) rfl)), rfl, rfl⟩) (hw _ (List.mem_of_getElem? (i := 2) rfl)) (by decide) rfl rfl gx  (pc' := 57) rfl ?_
  intro T33 X34 W35
  have K36 := Keep.of_wr W35
  have KK37 := KK27.trans K36 (allS (Or.inl (by simp)) (fun x q => nomatch q))
  have Exa_38 := Exa_28.keep K36
  have Arv_39 := Arv_29.keep K36 (ninS hxb nin0)
  have Arv_40 := Arv_30.keep K36 (ninS hxt nin0)
  have F41 := F32.same W35
  have F42 := F31.other W35 (Or.inr (slot_ne (Or.inr (hw _ (List.mem_of_getElem? (i := 5) rfl))) (Or.inr (hw _ (List.mem_of_getElem? (i := 4) rfl))) (by decide) (t := .byte) (t' := (.array .byte)) (by decide) (by decide)))
  exact E_return X34 d_init4_57 rfl (by decide) (by decide) (⟨rfl, KK37, t, szt, kb, _, _, _, Exa_38, F41, F42, Arv_40, ⟨rfl, rfl, rfl, hall⟩, fun c hc => ⟨(hp c hc).1, fun q => (hp c hc).2 (Int32.lt_trans (by decide) q)⟩, hmx4⟩)
theorem d_sinit_0 : decode jdk_42_method_3_code 0 = .ok (.aload_n 0, 1) := by decide +kernel
theorem d_sinit_1 : decode jdk_42_method_3_code 1 = .ok (.aload_n 1, 1) := by decide +kernel
theorem d_sinit_2 : decode jdk_42_method_3_code 2 = .ok (.iconst 0, 1) := by decide +kernel
theorem d_sinit_3 : decode jdk_42_method_3_code 3 = .ok (.aload_n 1, 1) := by decide +kernel
theorem d_sinit_4 : decode jdk_42_method_3_code 4 = .ok (.arraylength, 1) := by decide +kernel
theorem d_sinit_5 : decode jdk_42_method_3_code 5 = .ok (.aconst_null, 1) := by decide +kernel
theorem d_sinit_6 : decode jdk_42_method_3_code 6 = .ok (.invokespecial 27, 3) := by decide +kernel
theorem d_sinit_9 : decode jdk_42_method_3_code 9 = .ok (.return_, 1) := by decide +kernel
abbrev rm_sinit : Room := ({ frames := 3, cells := 1, slots := 2, locals := 52 } : Room)
def Q_sinit (Z : State) (x b : Addr) (kC : ClassId) (cs : List Int32) (dv v0 c0 : Value) (h0 : Heap) (v : Option Value) (h : Heap) : Prop := v = none ∧ Keep h0 h [x] ∧ ∃ t, h0.size ≤ t ∧ OStr Z h x t cs
set_option maxRecDepth 65536 in
set_option maxHeartbeats 40000000 in
theorem ct_sinit (l : Launch) (Z : State) (a0 : Array Value) (hw : ∀ d ∈ tables_1, d.before a0 Z = true) (G1 : Int32) (G3 : Value) (OS : Sts Z G1 G3) (hEL : EW Z a0 EL) (hSA : ∀ a ∈ Bundle.stringAtoms, a.before a0 Z = true) (x b : Addr) (kC : ClassId) (cs : List Int32) (dv v0 c0 : Value) {h0 : Heap} (O : Ext Z.heap h0) (h0l : 0 < cs.length) (hmx : cs.length ≤ 2) (hp : ∀ c ∈ cs, ¬ c < 0 ∧ ¬ (255 : Int32) < c) (E0 : Exa Z h0 x "java/lang/String") (F0 : Fld Z h0 x "java/lang/String" "value" "[B" v0) (C0 : Fld Z h0 x "java/lang/String" "coder" "B" c0) (gx : Z.heap.size ≤ x) (V0 : Arv Z h0 b kC .char (Int32.ofNat cs.length) (cs.map Value.int) dv) : Ct l Z (⟨"java/lang/String", "<init>", "([C)V"⟩ : MethodName) jdk_42_method_3_code 2 none rm_sinit #[(.ref x), (.ref b)] h0 (Q_sinit Z x b kC cs dv v0 c0 h0) := by
  refine Ct.of_body (Ls := #[.val (.ref x), .val (.ref b)]) (by decide +kernel) O (fun m => by first | rfl | (simp [entryFrame, mkF, argsToLocals, Value.category]; done) | (rcases ref_cases (Sts.ref OS) with rfl | ⟨r, rfl⟩ <;> rfl)) ?_
  intro p e s m below meth c T0 X0 e0
  subst e0
  refine E_aloadN X0 d_sinit_0 rfl rfl (pc' := 1) rfl ?_
  refine E_aloadN X0 d_sinit_1 rfl rfl (pc' := 2) rfl ?_
  refine E_iconst X0 (v := (0 : Int32)) d_sinit_2 rfl (pc' := 3) rfl ?_
  refine E_aloadN X0 d_sinit_3 rfl rfl (pc' := 4) rfl ?_
  refine E_arraylength X0 d_sinit_4 V0 (pc' := 5) rfl ?_
  refine E_aconstNull X0 d_sinit_5 (pc' := 6) rfl ?_
  refine E_special X0 (rm := rm_init4) (a := x) d_sinit_6 rfl rfl (hw _ (List.mem_of_getElem? (i := 34) rfl)) (hw _ (List.mem_of_getElem? (i := 35) rfl)) (hw _ (List.mem_of_getElem? (i := 36) rfl)) (by decide) (hw _ (List.mem_of_getElem? (i := 1) rfl)) (argsL := [(.ref b), (.int (0 : Int32)), (.int (Int32.ofNat cs.length)), .null]) (st := []) rfl (ct_init4 l Z a0 hw G1 G3 OS hEL hSA x b kC cs dv v0 c0 X0.old h0l hmx hp E0 F0 C0 gx V0) (lenOf (pd_4) rfl) rfl (by decide) (by decide) (by decide) (Nat.le_of_ble_eq_true rfl)  (pc' := 9) rfl ?_
  intro T1 _ X2 hQ3
  obtain ⟨rfl, KF, t, szt, SF⟩ := hQ3
  show Ends p e below s Z _ _ _ T1 (mkF m 9 #[.val (.ref x), .val (.ref b)] [])
  exact E_return X2 d_sinit_9 rfl (by decide) (by decide) (⟨rfl, KF, t, szt, SF⟩)
theorem d_canenc_0 : decode jdk_43_method_3_code 0 = .ok (.iload_n 0, 1) := by decide +kernel
theorem d_canenc_1 : decode jdk_43_method_3_code 1 = .ok (.sipush 255, 3) := by decide +kernel
theorem d_canenc_4 : decode jdk_43_method_3_code 4 = .ok (.if_icmp .gt 7, 3) := by decide +kernel
theorem d_canenc_7 : decode jdk_43_method_3_code 7 = .ok (.iconst 1, 1) := by decide +kernel
theorem d_canenc_8 : decode jdk_43_method_3_code 8 = .ok (.goto 4, 3) := by decide +kernel
theorem d_canenc_12 : decode jdk_43_method_3_code 12 = .ok (.ireturn, 1) := by decide +kernel
abbrev rm_canenc : Room := ({ frames := 0, cells := 0, slots := 0, locals := 0 } : Room)
def Q_canenc (Z : State) (ch : Int32) (h0 : Heap) (v : Option Value) (h : Heap) : Prop := v = some (.int 1) ∧ h = h0
set_option maxRecDepth 65536 in
set_option maxHeartbeats 40000000 in
theorem ct_canenc (l : Launch) (Z : State) (a0 : Array Value) (hw : ∀ d ∈ tables_1, d.before a0 Z = true) (G1 : Int32) (G3 : Value) (OS : Sts Z G1 G3) (hEL : EW Z a0 EL) (hSA : ∀ a ∈ Bundle.stringAtoms, a.before a0 Z = true) (ch : Int32) {h0 : Heap} (O : Ext Z.heap h0) (hc : ¬ (255 : Int32) < ch) : Ct l Z (⟨"java/lang/StringLatin1", "canEncode", "(C)Z"⟩ : MethodName) jdk_43_method_3_code 1 (some .boolean) rm_canenc #[(.int ch)] h0 (Q_canenc Z ch h0) := by
  refine Ct.of_body (Ls := #[.val (.int ch)]) (by decide +kernel) O (fun m => by first | rfl | (simp [entryFrame, mkF, argsToLocals, Value.category]; done) | (rcases ref_cases (Sts.ref OS) with rfl | ⟨r, rfl⟩ <;> rfl)) ?_
  intro p e s m below meth c T0 X0 e0
  subst e0
  refine E_iloadN X0 d_canenc_0 rfl (pc' := 1) rfl ?_
  refine E_sipush X0 (v := (255 : Int32)) d_canenc_1 rfl (pc' := 4) rfl ?_
  refine E_icF X0 d_canenc_4 (XT.ii_gt_f hc) (pc' := 7) rfl ?_
  refine E_iconst X0 (v := (1 : Int32)) d_canenc_7 rfl (pc' := 8) rfl ?_
  refine E_goto X0 d_canenc_8 (pc' := 12) (by decide) rfl ?_
  exact E_ireturnN X0 (t := .boolean) d_canenc_12 rfl (by simp) (by decide) (by decide) (⟨rfl, rfl⟩)
theorem d_ltob_0 : decode jdk_43_method_46_code 0 = .ok (.iconst 1, 1) := by decide +kernel
theorem d_ltob_1 : decode jdk_43_method_46_code 1 = .ok (.newarray .byte, 2) := by decide +kernel
theorem d_ltob_3 : decode jdk_43_method_46_code 3 = .ok (.dup, 1) := by decide +kernel
theorem d_ltob_4 : decode jdk_43_method_46_code 4 = .ok (.iconst 0, 1) := by decide +kernel
theorem d_ltob_5 : decode jdk_43_method_46_code 5 = .ok (.iload_n 0, 1) := by decide +kernel
theorem d_ltob_6 : decode jdk_43_method_46_code 6 = .ok (.i2b, 1) := by decide +kernel
theorem d_ltob_7 : decode jdk_43_method_46_code 7 = .ok (.bastore, 1) := by decide +kernel
theorem d_ltob_8 : decode jdk_43_method_46_code 8 = .ok (.areturn, 1) := by decide +kernel
abbrev rm_ltob : Room := ({ frames := 0, cells := 1, slots := 1, locals := 0 } : Room)
def Q_ltob (Z : State) (ch : Int32) (h0 : Heap) (v : Option Value) (h : Heap) : Prop := ∃ t kb, v = some (.ref t) ∧ Keep h0 h [] ∧ h0.size ≤ t ∧ Arv Z h t kb .byte (1 : Int32) [lo8 ch] (.int (0 : Int32))
set_option maxRecDepth 65536 in
set_option maxHeartbeats 40000000 in
theorem ct_ltob (l : Launch) (Z : State) (a0 : Array Value) (hw : ∀ d ∈ tables_1, d.before a0 Z = true) (G1 : Int32) (G3 : Value) (OS : Sts Z G1 G3) (hEL : EW Z a0 EL) (hSA : ∀ a ∈ Bundle.stringAtoms, a.before a0 Z = true) (ch : Int32) {h0 : Heap} (O : Ext Z.heap h0)  : Ct l Z (⟨"java/lang/StringLatin1", "toBytes", "(C)[B"⟩ : MethodName) jdk_43_method_46_code 1 (some (.array .byte)) rm_ltob #[(.int ch)] h0 (Q_ltob Z ch h0) := by
  refine Ct.of_body (Ls := #[.val (.int ch)]) (by decide +kernel) O (fun m => by first | rfl | (simp [entryFrame, mkF, argsToLocals, Value.category]; done) | (rcases ref_cases (Sts.ref OS) with rfl | ⟨r, rfl⟩ <;> rfl)) ?_
  intro p e s m below meth c T0 X0 e0
  subst e0
  have K00 := Keep.refl T0.heap []
  refine E_iconst X0 (v := (1 : Int32)) d_ltob_0 rfl (pc' := 1) rfl ?_
  refine E_newarray X0 1 d_ltob_1 (hw _ (List.mem_of_getElem? (i := 3) rfl)) (by decide) (by decide) (by decide) (by decide) (by decide) (pc' := 3) rfl ?_
  intro T1 b3 k7 X2 hb4 K5 V6
  have sz8 : T0.heap.size ≤ b3 := Nat.le_trans K00.1 (Nat.le_of_eq hb4.symm)
  have KK9 := K00.trans K5 (fun x q => nomatch q)
  have g10 : Z.heap.size ≤ b3 := Nat.le_trans X0.le (Nat.le_of_eq hb4.symm)
  have V11 : Arv Z T1.heap b3 k7 .byte (1 : Int32) [(.int (0 : Int32))] (.int (0 : Int32)) := V6.pad (pad_rep [] (.int (0 : Int32)) 1)
  refine E_dup X2 d_ltob_3 rfl (pc' := 4) rfl ?_
  refine E_iconst X2 (v := (0 : Int32)) d_ltob_4 rfl (pc' := 5) rfl ?_
  refine E_iloadN X2 d_ltob_5 rfl (pc' := 6) rfl ?_
  refine E_i2b X2 d_ltob_6 rfl (pc' := 7) rfl ?_
  refine E_bastore X2 0 (y := (ch).toInt8.toInt32) d_ltob_7 (o_b8 _) V11 ⟨by decide, by decide⟩ rfl (Nat.le_of_ble_eq_true rfl) g10 (pc' := 8) rfl ?_
  intro T12 X13 K14 V15
  have KK16 := KK9.trans K14 (allS (Or.inr sz8) (fun x q => nomatch q))
  have V17 : Arv Z T12.heap b3 k7 .byte (1 : Int32) [(.int (ch).toInt8.toInt32)] (.int (0 : Int32)) := V15
  exact E_areturn X13 (t := (.array .byte)) d_ltob_8 rfl rfl rfl rfl (by decide) (by decide) (⟨b3, k7, rfl, KK16, sz8, V17⟩)
theorem d_init2_0 : decode jdk_42_method_151_code 0 = .ok (.aload_n 0, 1) := by decide +kernel
theorem d_init2_1 : decode jdk_42_method_151_code 1 = .ok (.invokespecial 1, 3) := by decide +kernel
theorem d_init2_4 : decode jdk_42_method_151_code 4 = .ok (.aload_n 0, 1) := by decide +kernel
theorem d_init2_5 : decode jdk_42_method_151_code 5 = .ok (.aload_n 1, 1) := by decide +kernel
theorem d_init2_6 : decode jdk_42_method_151_code 6 = .ok (.putfield 9, 3) := by decide +kernel
theorem d_init2_9 : decode jdk_42_method_151_code 9 = .ok (.aload_n 0, 1) := by decide +kernel
theorem d_init2_10 : decode jdk_42_method_151_code 10 = .ok (.iload_n 2, 1) := by decide +kernel
theorem d_init2_11 : decode jdk_42_method_151_code 11 = .ok (.putfield 15, 3) := by decide +kernel
theorem d_init2_14 : decode jdk_42_method_151_code 14 = .ok (.return_, 1) := by decide +kernel
abbrev rm_init2 : Room := ({ frames := 1, cells := 0, slots := 0, locals := 12 } : Room)
def Q_init2 (Z : State) (x t : Addr) (v0 c0 : Value) (h0 : Heap) (v : Option Value) (h : Heap) : Prop := v = none ∧ Keep h0 h [x] ∧ Fld Z h x "java/lang/String" "value" "[B" (.ref t) ∧ Fld Z h x "java/lang/String" "coder" "B" (.int 0)
set_option maxRecDepth 65536 in
set_option maxHeartbeats 40000000 in
theorem ct_init2 (l : Launch) (Z : State) (a0 : Array Value) (hw : ∀ d ∈ tables_1, d.before a0 Z = true) (G1 : Int32) (G3 : Value) (OS : Sts Z G1 G3) (hEL : EW Z a0 EL) (hSA : ∀ a ∈ Bundle.stringAtoms, a.before a0 Z = true) (x t : Addr) (v0 c0 : Value) {h0 : Heap} (O : Ext Z.heap h0) (E0 : Exa Z h0 x "java/lang/String") (F0 : Fld Z h0 x "java/lang/String" "value" "[B" v0) (C0 : Fld Z h0 x "java/lang/String" "coder" "B" c0) (gx : Z.heap.size ≤ x) : Ct l Z (⟨"java/lang/String", "<init>", "([BB)V"⟩ : MethodName) jdk_42_method_151_code 3 none rm_init2 #[(.ref x), (.ref t), (.int (0 : Int32))] h0 (Q_init2 Z x t v0 c0 h0) := by
  refine Ct.of_body (Ls := #[.val (.ref x), .val (.ref t), .val (.int (0 : Int32))]) (by decide +kernel) O (fun m => by first | rfl | (simp [entryFrame, mkF, argsToLocals, Value.category]; done) | (rcases ref_cases (Sts.ref OS) with rfl | ⟨r, rfl⟩ <;> rfl)) ?_
  intro p e s m below meth c T0 X0 e0
  subst e0
  have K00 := Keep.refl T0.heap [x]
  refine E_aloadN X0 d_init2_0 rfl rfl (pc' := 1) rfl ?_
  refine E_initO X0 d_init2_1 (hw _ (List.mem_of_getElem? (i := 24) rfl)) (hw _ (List.mem_of_getElem? (i := 25) rfl)) (hw _ (List.mem_of_getElem? (i := 26) rfl)) rfl (by decide) (Nat.le_of_ble_eq_true rfl) (pc' := 4) rfl ?_
  intro T1 X2 e3
  have KK4 := own_keq K00 e3
  rw [← e3] at E0 F0 C0
  refine E_aloadN X2 d_init2_4 rfl rfl (pc' := 5) rfl ?_
  refine E_aloadN X2 d_init2_5 rfl rfl (pc' := 6) rfl ?_
  refine E_putfield X2 (ty := (.array .byte)) d_init2_6 (hw _ (List.mem_of_getElem? (i := 27) rfl)) Via.refl F0 E0 (Or.inr ⟨(hw _ (List.mem_of_getElem? (i := 4) rfl)), rfl, rfl⟩) (hw _ (List.mem_of_getElem? (i := 2) rfl)) (by decide) rfl rfl gx  (pc' := 9) rfl ?_
  intro T5 X6 W7
  have K8 := Keep.of_wr W7
  have KK9 := KK4.trans K8 (allS (Or.inl (by simp)) (fun x q => nomatch q))
  have Exa_10 := E0.keep K8
  have F11 := F0.same W7
  have F12 := C0.other W7 (Or.inr (slot_ne (Or.inr (hw _ (List.mem_of_getElem? (i := 5) rfl))) (Or.inr (hw _ (List.mem_of_getElem? (i := 4) rfl))) (by decide) (t := .byte) (t' := (.array .byte)) (by decide) (by decide)))
  refine E_aloadN X6 d_init2_9 rfl rfl (pc' := 10) rfl ?_
  refine E_iloadN X6 d_init2_10 rfl (pc' := 11) rfl ?_
  refine E_putfield X6 (ty := .byte) d_init2_11 (hw _ (List.mem_of_getElem? (i := 28) rfl)) Via.refl F12 Exa_10 (Or.inr ⟨(hw _ (List.mem_of_getElem? (i := 5) rfl)), rfl, rfl⟩) (hw _ (List.mem_of_getElem? (i := 2) rfl)) (by decide) rfl rfl gx  (pc' := 14) rfl ?_
  intro T13 X14 W15
  have K16 := Keep.of_wr W15
  have KK17 := KK9.trans K16 (allS (Or.inl (by simp)) (fun x q => nomatch q))
  have Exa_18 := Exa_10.keep K16
  have F19 := F12.same W15
  have F20 := F11.other W15 (Or.inr (slot_ne (Or.inr (hw _ (List.mem_of_getElem? (i := 4) rfl))) (Or.inr (hw _ (List.mem_of_getElem? (i := 5) rfl))) (by decide) (t := (.array .byte)) (t' := .byte) (by decide) (by decide)))
  exact E_return X14 d_init2_14 rfl (by decide) (by decide) (⟨rfl, KK17, F20, F19⟩)
theorem d_valof_0 : decode jdk_42_method_139_code 0 = .ok (.getstatic 38, 3) := by decide +kernel
theorem d_valof_3 : decode jdk_42_method_139_code 3 = .ok (.ifCond .eq 23, 3) := by decide +kernel
theorem d_valof_6 : decode jdk_42_method_139_code 6 = .ok (.iload_n 0, 1) := by decide +kernel
theorem d_valof_7 : decode jdk_42_method_139_code 7 = .ok (.invokestatic 1015, 3) := by decide +kernel
theorem d_valof_10 : decode jdk_42_method_139_code 10 = .ok (.ifCond .eq 16, 3) := by decide +kernel
theorem d_valof_13 : decode jdk_42_method_139_code 13 = .ok (.new 10, 3) := by decide +kernel
theorem d_valof_16 : decode jdk_42_method_139_code 16 = .ok (.dup, 1) := by decide +kernel
theorem d_valof_17 : decode jdk_42_method_139_code 17 = .ok (.iload_n 0, 1) := by decide +kernel
theorem d_valof_18 : decode jdk_42_method_139_code 18 = .ok (.invokestatic 1018, 3) := by decide +kernel
theorem d_valof_21 : decode jdk_42_method_139_code 21 = .ok (.iconst 0, 1) := by decide +kernel
theorem d_valof_22 : decode jdk_42_method_139_code 22 = .ok (.invokespecial 209, 3) := by decide +kernel
theorem d_valof_25 : decode jdk_42_method_139_code 25 = .ok (.areturn, 1) := by decide +kernel
abbrev rm_valof : Room := ({ frames := 2, cells := 2, slots := 5, locals := 27 } : Room)
def Q_valof (Z : State) (ch : Int32) (h0 : Heap) (v : Option Value) (h : Heap) : Prop := ∃ x t, v = some (.ref x) ∧ Keep h0 h [] ∧ h0.size ≤ x ∧ h0.size ≤ t ∧ OStr Z h x t [ch]
set_option maxRecDepth 65536 in
set_option maxHeartbeats 40000000 in
theorem ct_valof (l : Launch) (Z : State) (a0 : Array Value) (hw : ∀ d ∈ tables_1, d.before a0 Z = true) (G1 : Int32) (G3 : Value) (OS : Sts Z G1 G3) (hEL : EW Z a0 EL) (hSA : ∀ a ∈ Bundle.stringAtoms, a.before a0 Z = true) (ch : Int32) {h0 : Heap} (O : Ext Z.heap h0) (h1 : ¬ ch < 0) (h2 : ¬ (255 : Int32) < ch) : Ct l Z (⟨"java/lang/String", "valueOf", "(C)Ljava/lang/String;"⟩ : MethodName) jdk_42_method_139_code 1 (some (.object "java/lang/String")) rm_valof #[(.int ch)] h0 (Q_valof Z ch h0) := by
  refine Ct.of_body (Ls := #[.val (.int ch)]) (by decide +kernel) O (fun m => by first | rfl | (simp [entryFrame, mkF, argsToLocals, Value.category]; done) | (rcases ref_cases (Sts.ref OS) with rfl | ⟨r, rfl⟩ <;> rfl)) ?_
  intro p e s m below meth c T0 X0 e0
  subst e0
  have K00 := Keep.refl T0.heap []
  refine E_getstatic X0 d_valof_0 (hw _ (List.mem_of_getElem? (i := 11) rfl)) Via.refl OS.1 (pc' := 3) rfl ?_
  intro T1 X2 e3
  have KK4 := own_keq K00 e3
  refine E_ifF X2 d_valof_3 (XT.i0_eq_f OS.2.1) (pc' := 6) rfl ?_
  refine E_iloadN X2 d_valof_6 rfl (pc' := 7) rfl ?_
  refine E_static X2 (rm := rm_canenc) d_valof_7 (hw _ (List.mem_of_getElem? (i := 12) rfl)) (hw _ (List.mem_of_getElem? (i := 13) rfl)) (hw _ (List.mem_of_getElem? (i := 14) rfl)) (hw _ (List.mem_of_getElem? (i := 15) rfl)) (by decide) (argsL := [(.int ch)]) (st := []) rfl (ct_canenc l Z a0 hw G1 G3 OS hEL hSA ch X2.old h2) (lenOf (pd_5) rfl) rfl (by decide) (by decide) (by decide) (Nat.le_of_ble_eq_true rfl)  (pc' := 10) rfl ?_
  intro T5 _ X6 hQ7
  obtain ⟨rfl, e8⟩ := hQ7
  have KK9 := own_keq KK4 e8
  show Ends p e below s Z _ _ _ T5 (mkF m 10 #[.val (.int ch)] [(.int (1 : Int32))])
  refine E_ifF X6 d_valof_10 (XT.i0_eq_f (by decide)) (pc' := 13) rfl ?_
  refine E_new X6 d_valof_13 (hw _ (List.mem_of_getElem? (i := 16) rfl)) (hw _ (List.mem_of_getElem? (i := 2) rfl)) (hw _ (List.mem_of_getElem? (i := 1) rfl)) (by decide) (by decide) (pc' := 16) rfl ?_
  intro T10 b12 X11 hb13 K14 E15 D16
  have sz17 : T0.heap.size ≤ b12 := Nat.le_trans KK9.1 (Nat.le_of_eq hb13.symm)
  have KK18 := KK9.trans K14 (fun x q => nomatch q)
  have g19 : Z.heap.size ≤ b12 := Nat.le_trans X6.le (Nat.le_of_eq hb13.symm)
  have F20 : Fld Z T10.heap b12 "java/lang/String" "value" "[B" .null := D16 (Or.inr (hw _ (List.mem_of_getElem? (i := 4) rfl))) (ty := (.array .byte)) (by decide)
  have F21 : Fld Z T10.heap b12 "java/lang/String" "coder" "B" (.int (0 : Int32)) := D16 (Or.inr (hw _ (List.mem_of_getElem? (i := 5) rfl))) (ty := .byte) (by decide)
  refine E_dup X11 d_valof_16 rfl (pc' := 17) rfl ?_
  refine E_iloadN X11 d_valof_17 rfl (pc' := 18) rfl ?_
  refine E_static X11 (rm := rm_ltob) d_valof_18 (hw _ (List.mem_of_getElem? (i := 17) rfl)) (hw _ (List.mem_of_getElem? (i := 18) rfl)) (hw _ (List.mem_of_getElem? (i := 14) rfl)) (hw _ (List.mem_of_getElem? (i := 19) rfl)) (by decide) (argsL := [(.int ch)]) (st := [(.ref b12), (.ref b12)]) rfl (ct_ltob l Z a0 hw G1 G3 OS hEL hSA ch X11.old) (lenOf (pd_6) rfl) rfl (by decide) (by decide) (by decide) (Nat.le_of_ble_eq_true rfl)  (pc' := 21) rfl ?_
  intro T22 _ X23 hQ24
  obtain ⟨t, kb, rfl, K25, s26, VT27⟩ := hQ24
  have ne28 : t ≠ b12 := Ne.symm (Nat.ne_of_lt (Nat.lt_of_lt_of_le E15.lt s26))
  have KK29 := KK18.trans K25 (fun x q => nomatch q)
  have Exa_30 := E15.keep K25
  have Fld_31 := F20.keep K25 nin0
  have Fld_32 := F21.keep K25 nin0
  have szt : T0.heap.size ≤ t := Nat.le_trans KK18.1 s26
  show Ends p e below s Z _ _ _ T22 (mkF m 21 #[.val (.int ch)] [(.ref t), (.ref b12), (.ref b12)])
  refine E_iconst X23 (v := (0 : Int32)) d_valof_21 rfl (pc' := 22) rfl ?_
  refine E_special X23 (rm := rm_init2) (a := b12) d_valof_22 rfl rfl (hw _ (List.mem_of_getElem? (i := 20) rfl)) (hw _ (List.mem_of_getElem? (i := 21) rfl)) (hw _ (List.mem_of_getElem? (i := 23) rfl)) (by decide) (hw _ (List.mem_of_getElem? (i := 1) rfl)) (argsL := [(.ref t), (.int (0 : Int32))]) (st := [(.ref b12)]) rfl (ct_init2 l Z a0 hw G1 G3 OS hEL hSA b12 t .null (.int (0 : Int32)) X23.old Exa_30 Fld_31 Fld_32 g19) (lenOf (pd_7) rfl) rfl (by decide) (by decide) (by decide) (Nat.le_of_ble_eq_true rfl)  (pc' := 25) rfl ?_
  intro T33 _ X34 hQ35
  obtain ⟨rfl, K36, FV, FC⟩ := hQ35
  have KK37 := KK29.trans K36 (allS (Or.inr sz17) (fun x q => nomatch q))
  have Exa_38 := Exa_30.keep K36
  have Arv_39 := VT27.keep K36 (ninS ne28 nin0)
  show Ends p e below s Z _ _ _ T33 (mkF m 25 #[.val (.int ch)] [(.ref b12)])
  exact E_areturn X34 (t := (.object "java/lang/String")) d_valof_25 rfl rfl rfl rfl (by decide) (by decide) (⟨b12, t, rfl, KK37, sz17, szt, kb, _, _, _, Exa_38, FV, FC, Arv_39, ⟨rfl, rfl, rfl, fun c hc => by simp at hc; rw [hc]; exact h2⟩, (fun c hc => by simp at hc; rw [hc]; exact ⟨h1, fun q => h2 (Int32.lt_trans (by decide) q)⟩), by simp⟩)
theorem allN {P : Int32 → Prop} : ∀ c ∈ ([] : List Int32), P c := fun _ q => nomatch q
theorem allC {P : Int32 → Prop} {a : Int32} {r : List Int32} (h : P a) (t : ∀ c ∈ r, P c) : ∀ c ∈ a :: r, P c := fun c q => (List.mem_cons.mp q).elim (fun u => u ▸ h) (t c)
theorem c8_ok (x : Int32) : ¬ (x &&& (255 : Int32)).toUInt32.toUInt16.toUInt32.toInt32 < 0 ∧ ¬ (255 : Int32) < (x &&& (255 : Int32)).toUInt32.toUInt16.toUInt32.toInt32 := by
  have e := c_mask x 255 8 (by decide) (by decide)
  rw [i2c_mask]
  simp only [Int32.lt_iff_toInt_lt, Int32.reduceToInt]; omega
theorem c8_nar {c : Int32} (h : ¬ c < 0 ∧ ¬ (255 : Int32) < c) : nar .char c = c := o_nar h.1 fun q => h.2 (Int32.lt_trans (by decide) q)
theorem o_ne {i n : Nat} (hi : i < 1000000) (hn : n < 1000000) (h : ¬ i = n) : ¬ Int32.ofNat i = Int32.ofNat n := fun q => h (by have e := congrArg Int32.toInt q; rw [o_int (by omega), o_int (by omega)] at e; omega)
theorem own_three (x : Int32) : ∃ z, (x &&& (2147483647 : Int32)) % (3 : Int32) = z ∧ (z = 0 ∨ z = 1 ∨ z = 2) := by
  have e1 := c_and x (2147483647 : Int32) (by decide)
  have e2 := (c_irem (x &&& (2147483647 : Int32)) (3 : Int32) 3 rfl).1 e1.1
  refine ⟨_, rfl, ?_⟩
  simp only [← Int32.toInt_inj, Int32.reduceToInt]; omega
theorem d_seqs_0 : decode jdk_42_method_66_code 0 = .ok (.aload_n 0, 1) := by decide +kernel
theorem d_seqs_1 : decode jdk_42_method_66_code 1 = .ok (.aload_n 1, 1) := by decide +kernel
theorem d_seqs_2 : decode jdk_42_method_66_code 2 = .ok (.if_acmp .ne 5, 3) := by decide +kernel
theorem d_seqs_5 : decode jdk_42_method_66_code 5 = .ok (.iconst 1, 1) := by decide +kernel
theorem d_seqs_6 : decode jdk_42_method_66_code 6 = .ok (.ireturn, 1) := by decide +kernel
abbrev rm_seqs : Room := ({ frames := 0, cells := 0, slots := 0, locals := 0 } : Room)
def Q_seqs (Z : State) (x : Addr) (h0 : Heap) (v : Option Value) (h : Heap) : Prop := v = some (.int 1) ∧ h = h0
set_option maxRecDepth 65536 in
set_option maxHeartbeats 40000000 in
theorem ct_seqs (l : Launch) (Z : State) (a0 : Array Value) (hw : ∀ d ∈ tables_1, d.before a0 Z = true) (G1 : Int32) (G3 : Value) (OS : Sts Z G1 G3) (hEL : EW Z a0 EL) (hSA : ∀ a ∈ Bundle.stringAtoms, a.before a0 Z = true) (x : Addr) {h0 : Heap} (O : Ext Z.heap h0)  : Ct l Z (⟨"java/lang/String", "equals", "(Ljava/lang/Object;)Z"⟩ : MethodName) jdk_42_method_66_code 3 (some .boolean) rm_seqs #[(.ref x), (.ref x)] h0 (Q_seqs Z x h0) := by
  refine Ct.of_body (Ls := #[.val (.ref x), .val (.ref x), .unset]) (by decide +kernel) O (fun m => by first | rfl | (simp [entryFrame, mkF, argsToLocals, Value.category]; done) | (rcases ref_cases (Sts.ref OS) with rfl | ⟨r, rfl⟩ <;> rfl)) ?_
  intro p e s m below meth c T0 X0 e0
  subst e0
  refine E_aloadN X0 d_seqs_0 rfl rfl (pc' := 1) rfl ?_
  refine E_aloadN X0 d_seqs_1 rfl rfl (pc' := 2) rfl ?_
  refine E_acmp X0 d_seqs_2 rfl rfl true (decide_eq_true rfl) (pc' := 5) (by decide) rfl ?_
  refine E_iconst X0 (v := (1 : Int32)) d_seqs_5 rfl (pc' := 6) rfl ?_
  exact E_ireturnN X0 (t := .boolean) d_seqs_6 rfl (by simp) (by decide) (by decide) (⟨rfl, rfl⟩)
theorem d_acinit_0 : decode jdk_22_method_1_code 0 = .ok (.aload_n 0, 1) := by decide +kernel
theorem d_acinit_1 : decode jdk_22_method_1_code 1 = .ok (.invokespecial 1, 3) := by decide +kernel
theorem d_acinit_4 : decode jdk_22_method_1_code 4 = .ok (.return_, 1) := by decide +kernel
abbrev rm_acinit : Room := ({ frames := 1, cells := 0, slots := 0, locals := 12 } : Room)
def Q_acinit (Z : State) (x : Addr) (h0 : Heap) (v : Option Value) (h : Heap) : Prop := v = none ∧ h = h0
set_option maxRecDepth 65536 in
set_option maxHeartbeats 40000000 in
theorem ct_acinit (l : Launch) (Z : State) (a0 : Array Value) (hw : ∀ d ∈ tables_1, d.before a0 Z = true) (G1 : Int32) (G3 : Value) (OS : Sts Z G1 G3) (hEL : EW Z a0 EL) (hSA : ∀ a ∈ Bundle.stringAtoms, a.before a0 Z = true) (x : Addr) {h0 : Heap} (O : Ext Z.heap h0)  : Ct l Z (⟨"java/util/AbstractCollection", "<init>", "()V"⟩ : MethodName) jdk_22_method_1_code 1 none rm_acinit #[(.ref x)] h0 (Q_acinit Z x h0) := by
  refine Ct.of_body (Ls := #[.val (.ref x)]) (by decide +kernel) O (fun m => by first | rfl | (simp [entryFrame, mkF, argsToLocals, Value.category]; done) | (rcases ref_cases (Sts.ref OS) with rfl | ⟨r, rfl⟩ <;> rfl)) ?_
  intro p e s m below meth c T0 X0 e0
  subst e0
  refine E_aloadN X0 d_acinit_0 rfl rfl (pc' := 1) rfl ?_
  refine E_initO X0 d_acinit_1 (hw _ (List.mem_of_getElem? (i := 65) rfl)) (hw _ (List.mem_of_getElem? (i := 25) rfl)) (hw _ (List.mem_of_getElem? (i := 26) rfl)) rfl (by decide) (Nat.le_of_ble_eq_true rfl) (pc' := 4) rfl ?_
  intro T1 X2 e3
  exact E_return X2 d_acinit_4 rfl (by decide) (by decide) (⟨rfl, e3⟩)
theorem d_alinit_0 : decode jdk_39_method_1_code 0 = .ok (.aload_n 0, 1) := by decide +kernel
theorem d_alinit_1 : decode jdk_39_method_1_code 1 = .ok (.invokespecial 1, 3) := by decide +kernel
theorem d_alinit_4 : decode jdk_39_method_1_code 4 = .ok (.aload_n 0, 1) := by decide +kernel
theorem d_alinit_5 : decode jdk_39_method_1_code 5 = .ok (.iconst 0, 1) := by decide +kernel
theorem d_alinit_6 : decode jdk_39_method_1_code 6 = .ok (.putfield 7, 3) := by decide +kernel
theorem d_alinit_9 : decode jdk_39_method_1_code 9 = .ok (.return_, 1) := by decide +kernel
abbrev rm_alinit : Room := ({ frames := 2, cells := 0, slots := 0, locals := 24 } : Room)
def Q_alinit (Z : State) (x : Addr) (h0 : Heap) (v : Option Value) (h : Heap) : Prop := v = none ∧ Keep h0 h [x] ∧ Fld Z h x "java/util/ArrayList" "elementData" "[Ljava/lang/Object;" .null ∧ Fld Z h x "java/util/ArrayList" "size" "I" (.int (0 : Int32)) ∧ Fld Z h x "java/util/AbstractList" "modCount" "I" (.int (0 : Int32))
set_option maxRecDepth 65536 in
set_option maxHeartbeats 40000000 in
theorem ct_alinit (l : Launch) (Z : State) (a0 : Array Value) (hw : ∀ d ∈ tables_1, d.before a0 Z = true) (G1 : Int32) (G3 : Value) (OS : Sts Z G1 G3) (hEL : EW Z a0 EL) (hSA : ∀ a ∈ Bundle.stringAtoms, a.before a0 Z = true) (x : Addr) {h0 : Heap} (O : Ext Z.heap h0) (E0 : Exa Z h0 x "java/util/ArrayList") (F1 : Fld Z h0 x "java/util/ArrayList" "elementData" "[Ljava/lang/Object;" .null) (F2 : Fld Z h0 x "java/util/ArrayList" "size" "I" (.int (0 : Int32))) (F3 : Fld Z h0 x "java/util/AbstractList" "modCount" "I" (.int (0 : Int32))) (gx : Z.heap.size ≤ x) : Ct l Z (⟨"java/util/AbstractList", "<init>", "()V"⟩ : MethodName) jdk_39_method_1_code 1 none rm_alinit #[(.ref x)] h0 (Q_alinit Z x h0) := by
  refine Ct.of_body (Ls := #[.val (.ref x)]) (by decide +kernel) O (fun m => by first | rfl | (simp [entryFrame, mkF, argsToLocals, Value.category]; done) | (rcases ref_cases (Sts.ref OS) with rfl | ⟨r, rfl⟩ <;> rfl)) ?_
  intro p e s m below meth c T0 X0 e0
  subst e0
  have K00 := Keep.refl T0.heap [x]
  refine E_aloadN X0 d_alinit_0 rfl rfl (pc' := 1) rfl ?_
  refine E_special X0 (rm := rm_acinit) (a := x) d_alinit_1 rfl rfl (hw _ (List.mem_of_getElem? (i := 59) rfl)) (hw _ (List.mem_of_getElem? (i := 60) rfl)) (hw _ (List.mem_of_getElem? (i := 64) rfl)) (by decide) (hw _ (List.mem_of_getElem? (i := 63) rfl)) (argsL := []) (st := []) rfl (ct_acinit l Z a0 hw G1 G3 OS hEL hSA x X0.old) (lenOf (pd_8) rfl) rfl (by decide) (by decide) (by decide) (Nat.le_of_ble_eq_true rfl)  (pc' := 4) rfl ?_
  intro T1 _ X2 hQ3
  obtain ⟨rfl, e4⟩ := hQ3
  have KK5 := own_keq K00 e4
  rw [← e4] at E0 F1 F2 F3
  show Ends p e below s Z _ _ _ T1 (mkF m 4 #[.val (.ref x)] [])
  refine E_aloadN X2 d_alinit_4 rfl rfl (pc' := 5) rfl ?_
  refine E_iconst X2 (v := (0 : Int32)) d_alinit_5 rfl (pc' := 6) rfl ?_
  refine E_putfield X2 (ty := .int) d_alinit_6 (hw _ (List.mem_of_getElem? (i := 66) rfl)) Via.refl F3 E0 (Or.inl (hw _ (List.mem_of_getElem? (i := 67) rfl))) (hw _ (List.mem_of_getElem? (i := 48) rfl)) (by decide) rfl rfl gx  (pc' := 9) rfl ?_
  intro T6 X7 W8
  have K9 := Keep.of_wr W8
  have KK10 := KK5.trans K9 (allS (Or.inl (by simp)) (fun x q => nomatch q))
  have Exa_11 := E0.keep K9
  have F12 := F3.same W8
  have F13 := F1.other W8 (Or.inr (slot_ne (Or.inl (hw _ (List.mem_of_getElem? (i := 70) rfl))) (Or.inl (hw _ (List.mem_of_getElem? (i := 67) rfl))) (by decide) (t := (.array (.object "java/lang/Object"))) (t' := .int) (by decide) (by decide)))
  have F14 := F2.other W8 (Or.inr (slot_ne (Or.inl (hw _ (List.mem_of_getElem? (i := 79) rfl))) (Or.inl (hw _ (List.mem_of_getElem? (i := 67) rfl))) (by decide) (t := .int) (t' := .int) (by decide) (by decide)))
  exact E_return X7 d_alinit_9 rfl (by decide) (by decide) (⟨rfl, KK10, F13, F14, F12⟩)
theorem d_arinit_0 : decode jdk_38_method_2_code 0 = .ok (.aload_n 0, 1) := by decide +kernel
theorem d_arinit_1 : decode jdk_38_method_2_code 1 = .ok (.invokespecial 1, 3) := by decide +kernel
theorem d_arinit_4 : decode jdk_38_method_2_code 4 = .ok (.aload_n 0, 1) := by decide +kernel
theorem d_arinit_5 : decode jdk_38_method_2_code 5 = .ok (.getstatic 39, 3) := by decide +kernel
theorem d_arinit_8 : decode jdk_38_method_2_code 8 = .ok (.putfield 9, 3) := by decide +kernel
theorem d_arinit_11 : decode jdk_38_method_2_code 11 = .ok (.return_, 1) := by decide +kernel
abbrev rm_arinit : Room := ({ frames := 3, cells := 0, slots := 0, locals := 36 } : Room)
def Q_arinit (Z : State) (x dc : Addr) (h0 : Heap) (v : Option Value) (h : Heap) : Prop := v = none ∧ Keep h0 h [x] ∧ Fld Z h x "java/util/ArrayList" "elementData" "[Ljava/lang/Object;" (.ref dc) ∧ Fld Z h x "java/util/ArrayList" "size" "I" (.int (0 : Int32)) ∧ Fld Z h x "java/util/AbstractList" "modCount" "I" (.int (0 : Int32))
set_option maxRecDepth 65536 in
set_option maxHeartbeats 40000000 in
theorem ct_arinit (l : Launch) (Z : State) (a0 : Array Value) (hw : ∀ d ∈ tables_1, d.before a0 Z = true) (G1 : Int32) (G3 : Value) (OS : Sts Z G1 G3) (hEL : EW Z a0 EL) (hSA : ∀ a ∈ Bundle.stringAtoms, a.before a0 Z = true) (x dc : Addr) {h0 : Heap} (O : Ext Z.heap h0) (SD : Sta Z Z.heap "java/util/ArrayList" "DEFAULTCAPACITY_EMPTY_ELEMENTDATA" "[Ljava/lang/Object;" (.ref dc)) (E0 : Exa Z h0 x "java/util/ArrayList") (F1 : Fld Z h0 x "java/util/ArrayList" "elementData" "[Ljava/lang/Object;" .null) (F2 : Fld Z h0 x "java/util/ArrayList" "size" "I" (.int (0 : Int32))) (F3 : Fld Z h0 x "java/util/AbstractList" "modCount" "I" (.int (0 : Int32))) (gx : Z.heap.size ≤ x) : Ct l Z (⟨"java/util/ArrayList", "<init>", "()V"⟩ : MethodName) jdk_38_method_2_code 1 none rm_arinit #[(.ref x)] h0 (Q_arinit Z x dc h0) := by
  refine Ct.of_body (Ls := #[.val (.ref x)]) (by decide +kernel) O (fun m => by first | rfl | (simp [entryFrame, mkF, argsToLocals, Value.category]; done) | (rcases ref_cases (Sts.ref OS) with rfl | ⟨r, rfl⟩ <;> rfl)) ?_
  intro p e s m below meth c T0 X0 e0
  subst e0
  have K00 := Keep.refl T0.heap [x]
  refine E_aloadN X0 d_arinit_0 rfl rfl (pc' := 1) rfl ?_
  refine E_special X0 (rm := rm_alinit) (a := x) d_arinit_1 rfl rfl (hw _ (List.mem_of_getElem? (i := 53) rfl)) (hw _ (List.mem_of_getElem? (i := 54) rfl)) (hw _ (List.mem_of_getElem? (i := 58) rfl)) (by decide) (hw _ (List.mem_of_getElem? (i := 57) rfl)) (argsL := []) (st := []) rfl (ct_alinit l Z a0 hw G1 G3 OS hEL hSA x X0.old E0 F1 F2 F3 gx) (lenOf (pd_8) rfl) rfl (by decide) (by decide) (by decide) (Nat.le_of_ble_eq_true rfl)  (pc' := 4) rfl ?_
  intro T1 _ X2 hQ3
  obtain ⟨rfl, K4, G5, G6, G7⟩ := hQ3
  have KK8 := K00.trans K4 (allS (Or.inl (by simp)) (fun x q => nomatch q))
  have Exa_9 := E0.keep K4
  show Ends p e below s Z _ _ _ T1 (mkF m 4 #[.val (.ref x)] [])
  refine E_aloadN X2 d_arinit_4 rfl rfl (pc' := 5) rfl ?_
  refine E_getstatic X2 d_arinit_5 (hw _ (List.mem_of_getElem? (i := 68) rfl)) Via.refl SD (pc' := 8) rfl ?_
  intro T10 X11 e12
  have KK13 := own_keq KK8 e12
  rw [← e12] at Exa_9 G5 G6 G7
  refine E_putfield X11 (ty := (.array (.object "java/lang/Object"))) d_arinit_8 (hw _ (List.mem_of_getElem? (i := 69) rfl)) Via.refl G5 Exa_9 (Or.inl (hw _ (List.mem_of_getElem? (i := 70) rfl))) (hw _ (List.mem_of_getElem? (i := 48) rfl)) (by decide) rfl rfl gx  (pc' := 11) rfl ?_
  intro T14 X15 W16
  have K17 := Keep.of_wr W16
  have KK18 := KK13.trans K17 (allS (Or.inl (by simp)) (fun x q => nomatch q))
  have Exa_19 := Exa_9.keep K17
  have F20 := G5.same W16
  have F21 := G6.other W16 (Or.inr (slot_ne (Or.inl (hw _ (List.mem_of_getElem? (i := 79) rfl))) (Or.inl (hw _ (List.mem_of_getElem? (i := 70) rfl))) (by decide) (t := .int) (t' := (.array (.object "java/lang/Object"))) (by decide) (by decide)))
  have F22 := G7.other W16 (Or.inr (slot_ne (Or.inl (hw _ (List.mem_of_getElem? (i := 67) rfl))) (Or.inl (hw _ (List.mem_of_getElem? (i := 70) rfl))) (by decide) (t := .int) (t' := (.array (.object "java/lang/Object"))) (by decide) (by decide)))
  exact E_return X15 d_arinit_11 rfl (by decide) (by decide) (⟨rfl, KK18, F20, F21, F22⟩)
theorem d_max_0 : decode jdk_29_method_65_code 0 = .ok (.iload_n 0, 1) := by decide +kernel
theorem d_max_1 : decode jdk_29_method_65_code 1 = .ok (.iload_n 1, 1) := by decide +kernel
theorem d_max_2 : decode jdk_29_method_65_code 2 = .ok (.if_icmp .lt 7, 3) := by decide +kernel
theorem d_max_5 : decode jdk_29_method_65_code 5 = .ok (.iload_n 0, 1) := by decide +kernel
theorem d_max_6 : decode jdk_29_method_65_code 6 = .ok (.goto 4, 3) := by decide +kernel
theorem d_max_10 : decode jdk_29_method_65_code 10 = .ok (.ireturn, 1) := by decide +kernel
abbrev rm_max : Room := ({ frames := 0, cells := 0, slots := 0, locals := 0 } : Room)
def Q_max (Z : State) (q : Int32) (h0 : Heap) (v : Option Value) (h : Heap) : Prop := v = some (.int 10) ∧ h = h0
set_option maxRecDepth 65536 in
set_option maxHeartbeats 40000000 in
theorem ct_max (l : Launch) (Z : State) (a0 : Array Value) (hw : ∀ d ∈ tables_1, d.before a0 Z = true) (G1 : Int32) (G3 : Value) (OS : Sts Z G1 G3) (hEL : EW Z a0 EL) (hSA : ∀ a ∈ Bundle.stringAtoms, a.before a0 Z = true) (q : Int32) {h0 : Heap} (O : Ext Z.heap h0)  : Ct l Z (⟨"java/lang/Math", "max", "(II)I"⟩ : MethodName) jdk_29_method_65_code 2 (some .int) rm_max #[(.int (10 : Int32)), (.int (1 : Int32))] h0 (Q_max Z q h0) := by
  refine Ct.of_body (Ls := #[.val (.int (10 : Int32)), .val (.int (1 : Int32))]) (by decide +kernel) O (fun m => by first | rfl | (simp [entryFrame, mkF, argsToLocals, Value.category]; done) | (rcases ref_cases (Sts.ref OS) with rfl | ⟨r, rfl⟩ <;> rfl)) ?_
  intro p e s m below meth c T0 X0 e0
  subst e0
  refine E_iloadN X0 d_max_0 rfl (pc' := 1) rfl ?_
  refine E_iloadN X0 d_max_1 rfl (pc' := 2) rfl ?_
  refine E_icF X0 d_max_2 (XT.ii_lt_f (by decide)) (pc' := 5) rfl ?_
  refine E_iloadN X0 d_max_5 rfl (pc' := 6) rfl ?_
  refine E_goto X0 d_max_6 (pc' := 10) (by decide) rfl ?_
  exact E_ireturnI X0 d_max_10 rfl (by decide) (by decide) (⟨rfl, rfl⟩)
theorem d_grow1_0 : decode jdk_38_method_6_code 0 = .ok (.aload_n 0, 1) := by decide +kernel
theorem d_grow1_1 : decode jdk_38_method_6_code 1 = .ok (.getfield 9, 3) := by decide +kernel
theorem d_grow1_4 : decode jdk_38_method_6_code 4 = .ok (.arraylength, 1) := by decide +kernel
theorem d_grow1_5 : decode jdk_38_method_6_code 5 = .ok (.istore_n 2, 1) := by decide +kernel
theorem d_grow1_6 : decode jdk_38_method_6_code 6 = .ok (.iload_n 2, 1) := by decide +kernel
theorem d_grow1_7 : decode jdk_38_method_6_code 7 = .ok (.ifCond .gt 13, 3) := by decide +kernel
theorem d_grow1_10 : decode jdk_38_method_6_code 10 = .ok (.aload_n 0, 1) := by decide +kernel
theorem d_grow1_11 : decode jdk_38_method_6_code 11 = .ok (.getfield 9, 3) := by decide +kernel
theorem d_grow1_14 : decode jdk_38_method_6_code 14 = .ok (.getstatic 39, 3) := by decide +kernel
theorem d_grow1_17 : decode jdk_38_method_6_code 17 = .ok (.if_acmp .eq 28, 3) := by decide +kernel
theorem d_grow1_45 : decode jdk_38_method_6_code 45 = .ok (.aload_n 0, 1) := by decide +kernel
theorem d_grow1_46 : decode jdk_38_method_6_code 46 = .ok (.bipush 10, 2) := by decide +kernel
theorem d_grow1_48 : decode jdk_38_method_6_code 48 = .ok (.iload_n 1, 1) := by decide +kernel
theorem d_grow1_49 : decode jdk_38_method_6_code 49 = .ok (.invokestatic 79, 3) := by decide +kernel
theorem d_grow1_52 : decode jdk_38_method_6_code 52 = .ok (.anewarray 7, 3) := by decide +kernel
theorem d_grow1_55 : decode jdk_38_method_6_code 55 = .ok (.dup_x1, 1) := by decide +kernel
theorem d_grow1_56 : decode jdk_38_method_6_code 56 = .ok (.putfield 9, 3) := by decide +kernel
theorem d_grow1_59 : decode jdk_38_method_6_code 59 = .ok (.areturn, 1) := by decide +kernel
abbrev rm_grow1 : Room := ({ frames := 1, cells := 1, slots := 10, locals := 14 } : Room)
def Q_grow1 (Z : State) (x dc : Addr) (kd : ClassId) (mc : Int32) (h0 : Heap) (v : Option Value) (h : Heap) : Prop := ∃ d kA, v = some (.ref d) ∧ Keep h0 h [x] ∧ h0.size ≤ d ∧ Arv Z h d kA (.object "java/lang/Object") (10 : Int32) [] .null ∧ Ovr Z kA "java/lang/Object" ∧ Fld Z h x "java/util/ArrayList" "elementData" "[Ljava/lang/Object;" (.ref d) ∧ Fld Z h x "java/util/ArrayList" "size" "I" (.int (0 : Int32)) ∧ Fld Z h x "java/util/AbstractList" "modCount" "I" (.int mc)
set_option maxRecDepth 65536 in
set_option maxHeartbeats 40000000 in
theorem ct_grow1 (l : Launch) (Z : State) (a0 : Array Value) (hw : ∀ d ∈ tables_1, d.before a0 Z = true) (G1 : Int32) (G3 : Value) (OS : Sts Z G1 G3) (hEL : EW Z a0 EL) (hSA : ∀ a ∈ Bundle.stringAtoms, a.before a0 Z = true) (x dc : Addr) (kd : ClassId) (mc : Int32) {h0 : Heap} (O : Ext Z.heap h0) (SD : Sta Z Z.heap "java/util/ArrayList" "DEFAULTCAPACITY_EMPTY_ELEMENTDATA" "[Ljava/lang/Object;" (.ref dc)) (VD : Arv Z Z.heap dc kd (.object "java/lang/Object") (0 : Int32) [] .null) (E0 : Exa Z h0 x "java/util/ArrayList") (F1 : Fld Z h0 x "java/util/ArrayList" "elementData" "[Ljava/lang/Object;" (.ref dc)) (F2 : Fld Z h0 x "java/util/ArrayList" "size" "I" (.int (0 : Int32))) (F3 : Fld Z h0 x "java/util/AbstractList" "modCount" "I" (.int mc)) (gx : Z.heap.size ≤ x) : Ct l Z (⟨"java/util/ArrayList", "grow", "(I)[Ljava/lang/Object;"⟩ : MethodName) jdk_38_method_6_code 4 (some (.array (.object "java/lang/Object"))) rm_grow1 #[(.ref x), (.int (1 : Int32))] h0 (Q_grow1 Z x dc kd mc h0) := by
  refine Ct.of_body (Ls := #[.val (.ref x), .val (.int (1 : Int32)), .unset, .unset]) (by decide +kernel) O (fun m => by first | rfl | (simp [entryFrame, mkF, argsToLocals, Value.category]; done) | (rcases ref_cases (Sts.ref OS) with rfl | ⟨r, rfl⟩ <;> rfl)) ?_
  intro p e s m below meth c T0 X0 e0
  subst e0
  have K00 := Keep.refl T0.heap [x]
  have VD0 := VD.ext O
  have nd : dc ≠ x := Nat.ne_of_lt (Nat.lt_of_lt_of_le VD.lt gx)
  refine E_aloadN X0 d_grow1_0 rfl rfl (pc' := 1) rfl ?_
  refine E_getfield X0 d_grow1_1 (hw _ (List.mem_of_getElem? (i := 69) rfl)) Via.refl F1 (pc' := 4) rfl ?_
  intro T1 X2 e3
  have KK4 := own_keq K00 e3
  rw [← e3] at E0 F1 F2 F3 VD0
  refine E_arraylength X2 d_grow1_4 VD0 (pc' := 5) rfl ?_
  refine E_istoreN X2 d_grow1_5 (l' := #[.val (.ref x), .val (.int (1 : Int32)), .val (.int (0 : Int32)), .unset]) rfl (pc' := 6) rfl ?_
  refine E_iloadN X2 d_grow1_6 rfl (pc' := 7) rfl ?_
  refine E_ifF X2 d_grow1_7 (XT.i0_gt_f (by decide)) (pc' := 10) rfl ?_
  refine E_aloadN X2 d_grow1_10 rfl rfl (pc' := 11) rfl ?_
  refine E_getfield X2 d_grow1_11 (hw _ (List.mem_of_getElem? (i := 69) rfl)) Via.refl F1 (pc' := 14) rfl ?_
  intro T5 X6 e7
  have KK8 := own_keq KK4 e7
  rw [← e7] at E0 F1 F2 F3 VD0
  refine E_getstatic X6 d_grow1_14 (hw _ (List.mem_of_getElem? (i := 68) rfl)) Via.refl SD (pc' := 17) rfl ?_
  intro T9 X10 e11
  have KK12 := own_keq KK8 e11
  rw [← e11] at E0 F1 F2 F3 VD0
  refine E_acmp X10 d_grow1_17 rfl rfl true (decide_eq_true rfl) (pc' := 45) (by decide) rfl ?_
  refine E_aloadN X10 d_grow1_45 rfl rfl (pc' := 46) rfl ?_
  refine E_bipush X10 (v := (10 : Int32)) d_grow1_46 rfl (pc' := 48) rfl ?_
  refine E_iloadN X10 d_grow1_48 rfl (pc' := 49) rfl ?_
  refine E_static X10 (rm := rm_max) d_grow1_49 (hw _ (List.mem_of_getElem? (i := 95) rfl)) (hw _ (List.mem_of_getElem? (i := 96) rfl)) (hw _ (List.mem_of_getElem? (i := 97) rfl)) (hw _ (List.mem_of_getElem? (i := 98) rfl)) (by decide) (argsL := [(.int (10 : Int32)), (.int (1 : Int32))]) (st := [(.ref x)]) rfl (ct_max l Z a0 hw G1 G3 OS hEL hSA 0 X10.old) (lenOf (pd_9) rfl) rfl (by decide) (by decide) (by decide) (Nat.le_of_ble_eq_true rfl)  (pc' := 52) rfl ?_
  intro T13 _ X14 hQ15
  obtain ⟨rfl, e16⟩ := hQ15
  have KK17 := own_keq KK12 e16
  rw [← e16] at E0 F1 F2 F3 VD0
  show Ends p e below s Z _ _ _ T13 (mkF m 52 #[.val (.ref x), .val (.int (1 : Int32)), .val (.int (0 : Int32)), .unset] [(.int (10 : Int32)), (.ref x)])
  refine E_anewarray X14 10 d_grow1_52 (hw _ (List.mem_of_getElem? (i := 99) rfl)) (hw _ (List.mem_of_getElem? (i := 100) rfl)) (by decide) (by decide) (by decide) (by decide) (by decide) (pc' := 55) rfl ?_
  intro T18 b20 k24 X19 hb21 K22 V23 Ov25
  have sz26 : T0.heap.size ≤ b20 := Nat.le_trans KK17.1 (Nat.le_of_eq hb21.symm)
  have ne27 : x ≠ b20 := Nat.ne_of_lt (Nat.lt_of_lt_of_eq E0.lt hb21.symm)
  have ne28 : dc ≠ b20 := Nat.ne_of_lt (Nat.lt_of_lt_of_eq VD0.lt hb21.symm)
  have KK29 := KK17.trans K22 (fun x q => nomatch q)
  have Exa_30 := E0.keep K22
  have Fld_31 := F1.keep K22 nin0
  have Fld_32 := F2.keep K22 nin0
  have Fld_33 := F3.keep K22 nin0
  have Arv_34 := VD0.keep K22 nin0
  have g35 : Z.heap.size ≤ b20 := Nat.le_trans X14.le (Nat.le_of_eq hb21.symm)
  refine E_dupx1 X19 d_grow1_55 rfl rfl (pc' := 56) rfl ?_
  refine E_putfield X19 (ty := (.array (.object "java/lang/Object"))) d_grow1_56 (hw _ (List.mem_of_getElem? (i := 69) rfl)) Via.refl Fld_31 Exa_30 (Or.inl (hw _ (List.mem_of_getElem? (i := 70) rfl))) (hw _ (List.mem_of_getElem? (i := 48) rfl)) (by decide) rfl rfl gx  (pc' := 59) rfl ?_
  intro T36 X37 W38
  have K39 := Keep.of_wr W38
  have KK40 := KK29.trans K39 (allS (Or.inl (by simp)) (fun x q => nomatch q))
  have Exa_41 := Exa_30.keep K39
  have Arv_42 := Arv_34.keep K39 (ninS nd nin0)
  have Arv_43 := V23.keep K39 (ninS (Ne.symm ne27) nin0)
  have F44 := Fld_31.same W38
  have F45 := Fld_32.other W38 (Or.inr (slot_ne (Or.inl (hw _ (List.mem_of_getElem? (i := 79) rfl))) (Or.inl (hw _ (List.mem_of_getElem? (i := 70) rfl))) (by decide) (t := .int) (t' := (.array (.object "java/lang/Object"))) (by decide) (by decide)))
  have F46 := Fld_33.other W38 (Or.inr (slot_ne (Or.inl (hw _ (List.mem_of_getElem? (i := 67) rfl))) (Or.inl (hw _ (List.mem_of_getElem? (i := 70) rfl))) (by decide) (t := .int) (t' := (.array (.object "java/lang/Object"))) (by decide) (by decide)))
  exact E_areturn X37 (t := (.array (.object "java/lang/Object"))) d_grow1_59 rfl rfl rfl rfl (by decide) (by decide) (⟨b20, k24, rfl, KK40, sz26, Arv_43, Ov25, F44, F45, F46⟩)
theorem d_grow0_0 : decode jdk_38_method_7_code 0 = .ok (.aload_n 0, 1) := by decide +kernel
theorem d_grow0_1 : decode jdk_38_method_7_code 1 = .ok (.aload_n 0, 1) := by decide +kernel
theorem d_grow0_2 : decode jdk_38_method_7_code 2 = .ok (.getfield 48, 3) := by decide +kernel
theorem d_grow0_5 : decode jdk_38_method_7_code 5 = .ok (.iconst 1, 1) := by decide +kernel
theorem d_grow0_6 : decode jdk_38_method_7_code 6 = .ok (.iadd, 1) := by decide +kernel
theorem d_grow0_7 : decode jdk_38_method_7_code 7 = .ok (.invokevirtual 69, 3) := by decide +kernel
theorem d_grow0_10 : decode jdk_38_method_7_code 10 = .ok (.areturn, 1) := by decide +kernel
abbrev rm_grow0 : Room := ({ frames := 2, cells := 1, slots := 10, locals := 29 } : Room)
def Q_grow0 (Z : State) (x dc : Addr) (kd : ClassId) (mc : Int32) (h0 : Heap) (v : Option Value) (h : Heap) : Prop := ∃ d kA, v = some (.ref d) ∧ Keep h0 h [x] ∧ h0.size ≤ d ∧ Arv Z h d kA (.object "java/lang/Object") (10 : Int32) [] .null ∧ Ovr Z kA "java/lang/Object" ∧ Fld Z h x "java/util/ArrayList" "elementData" "[Ljava/lang/Object;" (.ref d) ∧ Fld Z h x "java/util/ArrayList" "size" "I" (.int (0 : Int32)) ∧ Fld Z h x "java/util/AbstractList" "modCount" "I" (.int mc)
set_option maxRecDepth 65536 in
set_option maxHeartbeats 40000000 in
theorem ct_grow0 (l : Launch) (Z : State) (a0 : Array Value) (hw : ∀ d ∈ tables_1, d.before a0 Z = true) (G1 : Int32) (G3 : Value) (OS : Sts Z G1 G3) (hEL : EW Z a0 EL) (hSA : ∀ a ∈ Bundle.stringAtoms, a.before a0 Z = true) (x dc : Addr) (kd : ClassId) (mc : Int32) {h0 : Heap} (O : Ext Z.heap h0) (SD : Sta Z Z.heap "java/util/ArrayList" "DEFAULTCAPACITY_EMPTY_ELEMENTDATA" "[Ljava/lang/Object;" (.ref dc)) (VD : Arv Z Z.heap dc kd (.object "java/lang/Object") (0 : Int32) [] .null) (E0 : Exa Z h0 x "java/util/ArrayList") (F1 : Fld Z h0 x "java/util/ArrayList" "elementData" "[Ljava/lang/Object;" (.ref dc)) (F2 : Fld Z h0 x "java/util/ArrayList" "size" "I" (.int (0 : Int32))) (F3 : Fld Z h0 x "java/util/AbstractList" "modCount" "I" (.int mc)) (gx : Z.heap.size ≤ x) : Ct l Z (⟨"java/util/ArrayList", "grow", "()[Ljava/lang/Object;"⟩ : MethodName) jdk_38_method_7_code 1 (some (.array (.object "java/lang/Object"))) rm_grow0 #[(.ref x)] h0 (Q_grow0 Z x dc kd mc h0) := by
  refine Ct.of_body (Ls := #[.val (.ref x)]) (by decide +kernel) O (fun m => by first | rfl | (simp [entryFrame, mkF, argsToLocals, Value.category]; done) | (rcases ref_cases (Sts.ref OS) with rfl | ⟨r, rfl⟩ <;> rfl)) ?_
  intro p e s m below meth c T0 X0 e0
  subst e0
  have K00 := Keep.refl T0.heap [x]
  have VD0 := VD.ext O
  have nd : dc ≠ x := Nat.ne_of_lt (Nat.lt_of_lt_of_le VD.lt gx)
  refine E_aloadN X0 d_grow0_0 rfl rfl (pc' := 1) rfl ?_
  refine E_aloadN X0 d_grow0_1 rfl rfl (pc' := 2) rfl ?_
  refine E_getfield X0 d_grow0_2 (hw _ (List.mem_of_getElem? (i := 78) rfl)) Via.refl F2 (pc' := 5) rfl ?_
  intro T1 X2 e3
  have KK4 := own_keq K00 e3
  rw [← e3] at E0 F1 F2 F3 VD0
  refine E_iconst X2 (v := (1 : Int32)) d_grow0_5 rfl (pc' := 6) rfl ?_
  refine E_iadd X2 (v := (1 : Int32)) d_grow0_6 (by decide) (pc' := 7) rfl ?_
  refine E_private X2 (rm := rm_grow1) (a := x) (D := "java/util/ArrayList") d_grow0_7 (hw _ (List.mem_of_getElem? (i := 90) rfl)) (hw _ (List.mem_of_getElem? (i := 91) rfl)) (hw _ (List.mem_of_getElem? (i := 93) rfl)) (hw _ (List.mem_of_getElem? (i := 92) rfl)) (hw _ (List.mem_of_getElem? (i := 94) rfl)) (by decide) E0 (hw _ (List.mem_of_getElem? (i := 49) rfl)) (argsL := [(.int (1 : Int32))]) (st := []) rfl (ct_grow1 l Z a0 hw G1 G3 OS hEL hSA x dc kd mc X2.old SD VD E0 F1 F2 F3 gx) (lenOf (pd_10) rfl) rfl (by decide) (by decide) (by decide) (Nat.le_of_ble_eq_true rfl)  (pc' := 10) rfl ?_
  intro T5 _ X6 hQ7
  obtain ⟨d, kA, rfl, K11, sz10, V8, Ov9, G12, G13, G14⟩ := hQ7
  have ne15 : x ≠ d := Nat.ne_of_lt (Nat.lt_of_lt_of_le E0.lt sz10)
  have ne16 : dc ≠ d := Nat.ne_of_lt (Nat.lt_of_lt_of_le VD0.lt sz10)
  have sz17 : T0.heap.size ≤ d := Nat.le_trans KK4.1 sz10
  have g18 : Z.heap.size ≤ d := Nat.le_trans X2.le sz10
  have KK19 := KK4.trans K11 (allS (Or.inl (by simp)) (fun x q => nomatch q))
  have Exa_20 := E0.keep K11
  have Arv_21 := VD0.keep K11 (ninS nd nin0)
  show Ends p e below s Z _ _ _ T5 (mkF m 10 #[.val (.ref x)] [(.ref d)])
  exact E_areturn X6 (t := (.array (.object "java/lang/Object"))) d_grow0_10 rfl rfl rfl rfl (by decide) (by decide) (⟨d, kA, rfl, KK19, sz17, V8, Ov9, G12, G13, G14⟩)
theorem d_add3g_0 : decode jdk_38_method_24_code 0 = .ok (.iload_n 3, 1) := by decide +kernel
theorem d_add3g_1 : decode jdk_38_method_24_code 1 = .ok (.aload_n 2, 1) := by decide +kernel
theorem d_add3g_2 : decode jdk_38_method_24_code 2 = .ok (.arraylength, 1) := by decide +kernel
theorem d_add3g_3 : decode jdk_38_method_24_code 3 = .ok (.if_icmp .ne 8, 3) := by decide +kernel
theorem d_add3g_6 : decode jdk_38_method_24_code 6 = .ok (.aload_n 0, 1) := by decide +kernel
theorem d_add3g_7 : decode jdk_38_method_24_code 7 = .ok (.invokevirtual 129, 3) := by decide +kernel
theorem d_add3g_10 : decode jdk_38_method_24_code 10 = .ok (.astore_n 2, 1) := by decide +kernel
theorem d_add3g_11 : decode jdk_38_method_24_code 11 = .ok (.aload_n 2, 1) := by decide +kernel
theorem d_add3g_12 : decode jdk_38_method_24_code 12 = .ok (.iload_n 3, 1) := by decide +kernel
theorem d_add3g_13 : decode jdk_38_method_24_code 13 = .ok (.aload_n 1, 1) := by decide +kernel
theorem d_add3g_14 : decode jdk_38_method_24_code 14 = .ok (.aastore, 1) := by decide +kernel
theorem d_add3g_15 : decode jdk_38_method_24_code 15 = .ok (.aload_n 0, 1) := by decide +kernel
theorem d_add3g_16 : decode jdk_38_method_24_code 16 = .ok (.iload_n 3, 1) := by decide +kernel
theorem d_add3g_17 : decode jdk_38_method_24_code 17 = .ok (.iconst 1, 1) := by decide +kernel
theorem d_add3g_18 : decode jdk_38_method_24_code 18 = .ok (.iadd, 1) := by decide +kernel
theorem d_add3g_19 : decode jdk_38_method_24_code 19 = .ok (.putfield 48, 3) := by decide +kernel
theorem d_add3g_22 : decode jdk_38_method_24_code 22 = .ok (.return_, 1) := by decide +kernel
abbrev rm_add3g : Room := ({ frames := 3, cells := 1, slots := 10, locals := 41 } : Room)
def Q_add3g (Z : State) (x ee dc : Addr) (kd : ClassId) (mc : Int32) (h0 : Heap) (v : Option Value) (h : Heap) : Prop := ∃ d kA, v = none ∧ Keep h0 h [x] ∧ h0.size ≤ d ∧ Arv Z h d kA (.object "java/lang/Object") (10 : Int32) [.ref ee] .null ∧ Ovr Z kA "java/lang/Object" ∧ Fld Z h x "java/util/ArrayList" "elementData" "[Ljava/lang/Object;" (.ref d) ∧ Fld Z h x "java/util/ArrayList" "size" "I" (.int (1 : Int32)) ∧ Fld Z h x "java/util/AbstractList" "modCount" "I" (.int mc)
set_option maxRecDepth 65536 in
set_option maxHeartbeats 40000000 in
theorem ct_add3g (l : Launch) (Z : State) (a0 : Array Value) (hw : ∀ d ∈ tables_1, d.before a0 Z = true) (G1 : Int32) (G3 : Value) (OS : Sts Z G1 G3) (hEL : EW Z a0 EL) (hSA : ∀ a ∈ Bundle.stringAtoms, a.before a0 Z = true) (x ee dc : Addr) (kd : ClassId) (mc : Int32) {h0 : Heap} (O : Ext Z.heap h0) (SD : Sta Z Z.heap "java/util/ArrayList" "DEFAULTCAPACITY_EMPTY_ELEMENTDATA" "[Ljava/lang/Object;" (.ref dc)) (VD : Arv Z Z.heap dc kd (.object "java/lang/Object") (0 : Int32) [] .null) (E0 : Exa Z h0 x "java/util/ArrayList") (F1 : Fld Z h0 x "java/util/ArrayList" "elementData" "[Ljava/lang/Object;" (.ref dc)) (F2 : Fld Z h0 x "java/util/ArrayList" "size" "I" (.int (0 : Int32))) (F3 : Fld Z h0 x "java/util/AbstractList" "modCount" "I" (.int mc)) (gx : Z.heap.size ≤ x) (Ee : Exa Z h0 ee "java/lang/String") : Ct l Z (⟨"java/util/ArrayList", "add", "(Ljava/lang/Object;[Ljava/lang/Object;I)V"⟩ : MethodName) jdk_38_method_24_code 4 none rm_add3g #[(.ref x), (.ref ee), (.ref dc), (.int (0 : Int32))] h0 (Q_add3g Z x ee dc kd mc h0) := by
  refine Ct.of_body (Ls := #[.val (.ref x), .val (.ref ee), .val (.ref dc), .val (.int (0 : Int32))]) (by decide +kernel) O (fun m => by first | rfl | (simp [entryFrame, mkF, argsToLocals, Value.category]; done) | (rcases ref_cases (Sts.ref OS) with rfl | ⟨r, rfl⟩ <;> rfl)) ?_
  intro p e s m below meth c T0 X0 e0
  subst e0
  have K00 := Keep.refl T0.heap [x]
  have VD0 := VD.ext O
  have nd : dc ≠ x := Nat.ne_of_lt (Nat.lt_of_lt_of_le VD.lt gx)
  refine E_iloadN X0 d_add3g_0 rfl (pc' := 1) rfl ?_
  refine E_aloadN X0 d_add3g_1 rfl rfl (pc' := 2) rfl ?_
  refine E_arraylength X0 d_add3g_2 VD0 (pc' := 3) rfl ?_
  refine E_icF X0 d_add3g_3 (XT.ii_ne_f (by decide)) (pc' := 6) rfl ?_
  refine E_aloadN X0 d_add3g_6 rfl rfl (pc' := 7) rfl ?_
  refine E_private X0 (rm := rm_grow0) (a := x) (D := "java/util/ArrayList") d_add3g_7 (hw _ (List.mem_of_getElem? (i := 85) rfl)) (hw _ (List.mem_of_getElem? (i := 86) rfl)) (hw _ (List.mem_of_getElem? (i := 88) rfl)) (hw _ (List.mem_of_getElem? (i := 87) rfl)) (hw _ (List.mem_of_getElem? (i := 89) rfl)) (by decide) E0 (hw _ (List.mem_of_getElem? (i := 49) rfl)) (argsL := []) (st := []) rfl (ct_grow0 l Z a0 hw G1 G3 OS hEL hSA x dc kd mc X0.old SD VD E0 F1 F2 F3 gx) (lenOf (pd_11) rfl) rfl (by decide) (by decide) (by decide) (Nat.le_of_ble_eq_true rfl)  (pc' := 10) rfl ?_
  intro T1 _ X2 hQ3
  obtain ⟨d, kA, rfl, K7, sz6, V4, Ov5, G8, G9, G10⟩ := hQ3
  have ne11 : x ≠ d := Nat.ne_of_lt (Nat.lt_of_lt_of_le E0.lt sz6)
  have ne12 : dc ≠ d := Nat.ne_of_lt (Nat.lt_of_lt_of_le VD0.lt sz6)
  have ne13 : ee ≠ d := Nat.ne_of_lt (Nat.lt_of_lt_of_le Ee.lt sz6)
  have sz14 : T0.heap.size ≤ d := Nat.le_trans K00.1 sz6
  have g15 : Z.heap.size ≤ d := Nat.le_trans X0.le sz6
  have KK16 := K00.trans K7 (allS (Or.inl (by simp)) (fun x q => nomatch q))
  have Exa_17 := E0.keep K7
  have Arv_18 := VD0.keep K7 (ninS nd nin0)
  have Exa_19 := Ee.keep K7
  show Ends p e below s Z _ _ _ T1 (mkF m 10 #[.val (.ref x), .val (.ref ee), .val (.ref dc), .val (.int (0 : Int32))] [(.ref d)])
  refine E_astoreN X2 d_add3g_10 rfl (l' := #[.val (.ref x), .val (.ref ee), .val (.ref d), .val (.int (0 : Int32))]) rfl (pc' := 11) rfl ?_
  refine E_aloadN X2 d_add3g_11 rfl rfl (pc' := 12) rfl ?_
  refine E_iloadN X2 d_add3g_12 rfl (pc' := 13) rfl ?_
  refine E_aloadN X2 d_add3g_13 rfl rfl (pc' := 14) rfl ?_
  refine E_aastoreA X2 d_add3g_14 V4 Ov5 (Ins.of_exa Exa_19 (hw _ (List.mem_of_getElem? (i := 101) rfl))) ⟨by decide, by decide⟩ rfl g15 (pc' := 15) rfl ?_
  intro T20 X21 K22 V23
  have KK24 := KK16.trans K22 (allS (Or.inr sz14) (fun x q => nomatch q))
  have Exa_25 := Exa_17.keep K22
  have Arv_26 := Arv_18.keep K22 (ninS ne12 nin0)
  have Exa_27 := Exa_19.keep K22
  have Fld_28 := G8.keep K22 (ninS ne11 nin0)
  have Fld_29 := G9.keep K22 (ninS ne11 nin0)
  have Fld_30 := G10.keep K22 (ninS ne11 nin0)
  have V31 : Arv Z T20.heap d kA (.object "java/lang/Object") (10 : Int32) [.ref ee] .null := V23
  refine E_aloadN X21 d_add3g_15 rfl rfl (pc' := 16) rfl ?_
  refine E_iloadN X21 d_add3g_16 rfl (pc' := 17) rfl ?_
  refine E_iconst X21 (v := (1 : Int32)) d_add3g_17 rfl (pc' := 18) rfl ?_
  refine E_iadd X21 (v := (1 : Int32)) d_add3g_18 (by decide) (pc' := 19) rfl ?_
  refine E_putfield X21 (ty := .int) d_add3g_19 (hw _ (List.mem_of_getElem? (i := 78) rfl)) Via.refl Fld_29 Exa_25 (Or.inl (hw _ (List.mem_of_getElem? (i := 79) rfl))) (hw _ (List.mem_of_getElem? (i := 48) rfl)) (by decide) rfl rfl gx  (pc' := 22) rfl ?_
  intro T32 X33 W34
  have K35 := Keep.of_wr W34
  have KK36 := KK24.trans K35 (allS (Or.inl (by simp)) (fun x q => nomatch q))
  have Exa_37 := Exa_25.keep K35
  have Arv_38 := Arv_26.keep K35 (ninS nd nin0)
  have Exa_39 := Exa_27.keep K35
  have Arv_40 := V31.keep K35 (ninS (Ne.symm ne11) nin0)
  have F41 := Fld_29.same W34
  have F42 := Fld_28.other W34 (Or.inr (slot_ne (Or.inl (hw _ (List.mem_of_getElem? (i := 70) rfl))) (Or.inl (hw _ (List.mem_of_getElem? (i := 79) rfl))) (by decide) (t := (.array (.object "java/lang/Object"))) (t' := .int) (by decide) (by decide)))
  have F43 := Fld_30.other W34 (Or.inr (slot_ne (Or.inl (hw _ (List.mem_of_getElem? (i := 67) rfl))) (Or.inl (hw _ (List.mem_of_getElem? (i := 79) rfl))) (by decide) (t := .int) (t' := .int) (by decide) (by decide)))
  exact E_return X33 d_add3g_22 rfl (by decide) (by decide) (⟨d, kA, rfl, KK36, sz14, Arv_40, Ov5, F42, F41, F43⟩)
theorem d_addg_0 : decode jdk_38_method_25_code 0 = .ok (.aload_n 0, 1) := by decide +kernel
theorem d_addg_1 : decode jdk_38_method_25_code 1 = .ok (.dup, 1) := by decide +kernel
theorem d_addg_2 : decode jdk_38_method_25_code 2 = .ok (.getfield 63, 3) := by decide +kernel
theorem d_addg_5 : decode jdk_38_method_25_code 5 = .ok (.iconst 1, 1) := by decide +kernel
theorem d_addg_6 : decode jdk_38_method_25_code 6 = .ok (.iadd, 1) := by decide +kernel
theorem d_addg_7 : decode jdk_38_method_25_code 7 = .ok (.putfield 63, 3) := by decide +kernel
theorem d_addg_10 : decode jdk_38_method_25_code 10 = .ok (.aload_n 0, 1) := by decide +kernel
theorem d_addg_11 : decode jdk_38_method_25_code 11 = .ok (.aload_n 1, 1) := by decide +kernel
theorem d_addg_12 : decode jdk_38_method_25_code 12 = .ok (.aload_n 0, 1) := by decide +kernel
theorem d_addg_13 : decode jdk_38_method_25_code 13 = .ok (.getfield 9, 3) := by decide +kernel
theorem d_addg_16 : decode jdk_38_method_25_code 16 = .ok (.aload_n 0, 1) := by decide +kernel
theorem d_addg_17 : decode jdk_38_method_25_code 17 = .ok (.getfield 48, 3) := by decide +kernel
theorem d_addg_20 : decode jdk_38_method_25_code 20 = .ok (.invokevirtual 131, 3) := by decide +kernel
theorem d_addg_23 : decode jdk_38_method_25_code 23 = .ok (.iconst 1, 1) := by decide +kernel
theorem d_addg_24 : decode jdk_38_method_25_code 24 = .ok (.ireturn, 1) := by decide +kernel
abbrev rm_addg : Room := ({ frames := 4, cells := 1, slots := 10, locals := 56 } : Room)
def Q_addg (Z : State) (x ee dc : Addr) (kd : ClassId) (mc : Int32) (h0 : Heap) (v : Option Value) (h : Heap) : Prop := ∃ d kA, v = some (.int 1) ∧ Keep h0 h [x] ∧ h0.size ≤ d ∧ Arv Z h d kA (.object "java/lang/Object") (10 : Int32) [.ref ee] .null ∧ Ovr Z kA "java/lang/Object" ∧ Fld Z h x "java/util/ArrayList" "elementData" "[Ljava/lang/Object;" (.ref d) ∧ Fld Z h x "java/util/ArrayList" "size" "I" (.int (1 : Int32)) ∧ Fld Z h x "java/util/AbstractList" "modCount" "I" (.int (mc + 1))
set_option maxRecDepth 65536 in
set_option maxHeartbeats 40000000 in
theorem ct_addg (l : Launch) (Z : State) (a0 : Array Value) (hw : ∀ d ∈ tables_1, d.before a0 Z = true) (G1 : Int32) (G3 : Value) (OS : Sts Z G1 G3) (hEL : EW Z a0 EL) (hSA : ∀ a ∈ Bundle.stringAtoms, a.before a0 Z = true) (x ee dc : Addr) (kd : ClassId) (mc : Int32) {h0 : Heap} (O : Ext Z.heap h0) (SD : Sta Z Z.heap "java/util/ArrayList" "DEFAULTCAPACITY_EMPTY_ELEMENTDATA" "[Ljava/lang/Object;" (.ref dc)) (VD : Arv Z Z.heap dc kd (.object "java/lang/Object") (0 : Int32) [] .null) (E0 : Exa Z h0 x "java/util/ArrayList") (F1 : Fld Z h0 x "java/util/ArrayList" "elementData" "[Ljava/lang/Object;" (.ref dc)) (F2 : Fld Z h0 x "java/util/ArrayList" "size" "I" (.int (0 : Int32))) (F3 : Fld Z h0 x "java/util/AbstractList" "modCount" "I" (.int mc)) (gx : Z.heap.size ≤ x) (Ee : Exa Z h0 ee "java/lang/String") : Ct l Z (⟨"java/util/ArrayList", "add", "(Ljava/lang/Object;)Z"⟩ : MethodName) jdk_38_method_25_code 2 (some .boolean) rm_addg #[(.ref x), (.ref ee)] h0 (Q_addg Z x ee dc kd mc h0) := by
  refine Ct.of_body (Ls := #[.val (.ref x), .val (.ref ee)]) (by decide +kernel) O (fun m => by first | rfl | (simp [entryFrame, mkF, argsToLocals, Value.category]; done) | (rcases ref_cases (Sts.ref OS) with rfl | ⟨r, rfl⟩ <;> rfl)) ?_
  intro p e s m below meth c T0 X0 e0
  subst e0
  have K00 := Keep.refl T0.heap [x]
  have VD0 := VD.ext O
  have nd : dc ≠ x := Nat.ne_of_lt (Nat.lt_of_lt_of_le VD.lt gx)
  refine E_aloadN X0 d_addg_0 rfl rfl (pc' := 1) rfl ?_
  refine E_dup X0 d_addg_1 rfl (pc' := 2) rfl ?_
  refine E_getfield X0 d_addg_2 (hw _ (List.mem_of_getElem? (i := 76) rfl)) (Via.of (hw _ (List.mem_of_getElem? (i := 77) rfl))) F3 (pc' := 5) rfl ?_
  intro T1 X2 e3
  have KK4 := own_keq K00 e3
  rw [← e3] at E0 F1 F2 F3 VD0 Ee
  refine E_iconst X2 (v := (1 : Int32)) d_addg_5 rfl (pc' := 6) rfl ?_
  refine E_iadd X2 d_addg_6 rfl (pc' := 7) rfl ?_
  refine E_putfield X2 (ty := .int) d_addg_7 (hw _ (List.mem_of_getElem? (i := 76) rfl)) (Via.of (hw _ (List.mem_of_getElem? (i := 77) rfl))) F3 E0 (Or.inl (hw _ (List.mem_of_getElem? (i := 67) rfl))) (hw _ (List.mem_of_getElem? (i := 48) rfl)) (by decide) rfl rfl gx  (pc' := 10) rfl ?_
  intro T5 X6 W7
  have K8 := Keep.of_wr W7
  have KK9 := KK4.trans K8 (allS (Or.inl (by simp)) (fun x q => nomatch q))
  have Exa_10 := E0.keep K8
  have Arv_11 := VD0.keep K8 (ninS nd nin0)
  have Exa_12 := Ee.keep K8
  have F13 := F3.same W7
  have F14 := F1.other W7 (Or.inr (slot_ne (Or.inl (hw _ (List.mem_of_getElem? (i := 70) rfl))) (Or.inl (hw _ (List.mem_of_getElem? (i := 67) rfl))) (by decide) (t := (.array (.object "java/lang/Object"))) (t' := .int) (by decide) (by decide)))
  have F15 := F2.other W7 (Or.inr (slot_ne (Or.inl (hw _ (List.mem_of_getElem? (i := 79) rfl))) (Or.inl (hw _ (List.mem_of_getElem? (i := 67) rfl))) (by decide) (t := .int) (t' := .int) (by decide) (by decide)))
  refine E_aloadN X6 d_addg_10 rfl rfl (pc' := 11) rfl ?_
  refine E_aloadN X6 d_addg_11 rfl rfl (pc' := 12) rfl ?_
  refine E_aloadN X6 d_addg_12 rfl rfl (pc' := 13) rfl ?_
  refine E_getfield X6 d_addg_13 (hw _ (List.mem_of_getElem? (i := 69) rfl)) Via.refl F14 (pc' := 16) rfl ?_
  intro T16 X17 e18
  have KK19 := own_keq KK9 e18
  rw [← e18] at Exa_10 Arv_11 Exa_12 F13 F14 F15
  refine E_aloadN X17 d_addg_16 rfl rfl (pc' := 17) rfl ?_
  refine E_getfield X17 d_addg_17 (hw _ (List.mem_of_getElem? (i := 78) rfl)) Via.refl F15 (pc' := 20) rfl ?_
  intro T20 X21 e22
  have KK23 := own_keq KK19 e22
  rw [← e22] at Exa_10 Arv_11 Exa_12 F13 F14 F15
  refine E_private X21 (rm := rm_add3g) (a := x) (D := "java/util/ArrayList") d_addg_20 (hw _ (List.mem_of_getElem? (i := 80) rfl)) (hw _ (List.mem_of_getElem? (i := 81) rfl)) (hw _ (List.mem_of_getElem? (i := 83) rfl)) (hw _ (List.mem_of_getElem? (i := 82) rfl)) (hw _ (List.mem_of_getElem? (i := 84) rfl)) (by decide) Exa_10 (hw _ (List.mem_of_getElem? (i := 49) rfl)) (argsL := [(.ref ee), (.ref dc), (.int (0 : Int32))]) (st := []) rfl (ct_add3g l Z a0 hw G1 G3 OS hEL hSA x ee dc kd (mc + 1) X21.old SD VD Exa_10 F14 F15 F13 gx Exa_12) (lenOf (pd_12) rfl) rfl (by decide) (by decide) (by decide) (Nat.le_of_ble_eq_true rfl)  (pc' := 23) rfl ?_
  intro T24 _ X25 hQ26
  obtain ⟨d, kA, rfl, K30, sz29, V27, Ov28, G31, G32, G33⟩ := hQ26
  have ne34 : x ≠ d := Nat.ne_of_lt (Nat.lt_of_lt_of_le Exa_10.lt sz29)
  have ne35 : dc ≠ d := Nat.ne_of_lt (Nat.lt_of_lt_of_le Arv_11.lt sz29)
  have ne36 : ee ≠ d := Nat.ne_of_lt (Nat.lt_of_lt_of_le Exa_12.lt sz29)
  have sz37 : T0.heap.size ≤ d := Nat.le_trans KK23.1 sz29
  have g38 : Z.heap.size ≤ d := Nat.le_trans X21.le sz29
  have KK39 := KK23.trans K30 (allS (Or.inl (by simp)) (fun x q => nomatch q))
  have Exa_40 := Exa_10.keep K30
  have Arv_41 := Arv_11.keep K30 (ninS nd nin0)
  have Exa_42 := Exa_12.keep K30
  show Ends p e below s Z _ _ _ T24 (mkF m 23 #[.val (.ref x), .val (.ref ee)] [])
  refine E_iconst X25 (v := (1 : Int32)) d_addg_23 rfl (pc' := 24) rfl ?_
  exact E_ireturnN X25 (t := .boolean) d_addg_24 rfl (by simp) (by decide) (by decide) (⟨d, kA, rfl, KK39, sz37, V27, Ov28, G31, G32, G33⟩)
theorem d_add3n_0 : decode jdk_38_method_24_code 0 = .ok (.iload_n 3, 1) := by decide +kernel
theorem d_add3n_1 : decode jdk_38_method_24_code 1 = .ok (.aload_n 2, 1) := by decide +kernel
theorem d_add3n_2 : decode jdk_38_method_24_code 2 = .ok (.arraylength, 1) := by decide +kernel
theorem d_add3n_3 : decode jdk_38_method_24_code 3 = .ok (.if_icmp .ne 8, 3) := by decide +kernel
theorem d_add3n_11 : decode jdk_38_method_24_code 11 = .ok (.aload_n 2, 1) := by decide +kernel
theorem d_add3n_12 : decode jdk_38_method_24_code 12 = .ok (.iload_n 3, 1) := by decide +kernel
theorem d_add3n_13 : decode jdk_38_method_24_code 13 = .ok (.aload_n 1, 1) := by decide +kernel
theorem d_add3n_14 : decode jdk_38_method_24_code 14 = .ok (.aastore, 1) := by decide +kernel
theorem d_add3n_15 : decode jdk_38_method_24_code 15 = .ok (.aload_n 0, 1) := by decide +kernel
theorem d_add3n_16 : decode jdk_38_method_24_code 16 = .ok (.iload_n 3, 1) := by decide +kernel
theorem d_add3n_17 : decode jdk_38_method_24_code 17 = .ok (.iconst 1, 1) := by decide +kernel
theorem d_add3n_18 : decode jdk_38_method_24_code 18 = .ok (.iadd, 1) := by decide +kernel
theorem d_add3n_19 : decode jdk_38_method_24_code 19 = .ok (.putfield 48, 3) := by decide +kernel
theorem d_add3n_22 : decode jdk_38_method_24_code 22 = .ok (.return_, 1) := by decide +kernel
abbrev rm_add3n : Room := ({ frames := 0, cells := 0, slots := 0, locals := 0 } : Room)
def Q_add3n (Z : State) (x ee d : Addr) (kA : ClassId) (mc : Int32) (n : Nat) (vs : List Value) (h0 : Heap) (v : Option Value) (h : Heap) : Prop := v = none ∧ Keep h0 h [d, x] ∧ Arv Z h d kA (.object "java/lang/Object") (10 : Int32) (vs ++ [.ref ee]) .null ∧ Fld Z h x "java/util/ArrayList" "elementData" "[Ljava/lang/Object;" (.ref d) ∧ Fld Z h x "java/util/ArrayList" "size" "I" (.int (Int32.ofNat (n + 1))) ∧ Fld Z h x "java/util/AbstractList" "modCount" "I" (.int mc)
set_option maxRecDepth 65536 in
set_option maxHeartbeats 40000000 in
theorem ct_add3n (l : Launch) (Z : State) (a0 : Array Value) (hw : ∀ d ∈ tables_1, d.before a0 Z = true) (G1 : Int32) (G3 : Value) (OS : Sts Z G1 G3) (hEL : EW Z a0 EL) (hSA : ∀ a ∈ Bundle.stringAtoms, a.before a0 Z = true) (x ee d : Addr) (kA : ClassId) (mc : Int32) (n : Nat) (vs : List Value) {h0 : Heap} (O : Ext Z.heap h0) (hn : vs.length = n) (h10 : n < 10) (gd : Z.heap.size ≤ d) (hxd : x ≠ d) (V0 : Arv Z h0 d kA (.object "java/lang/Object") (10 : Int32) vs .null) (Ov : Ovr Z kA "java/lang/Object") (E0 : Exa Z h0 x "java/util/ArrayList") (F1 : Fld Z h0 x "java/util/ArrayList" "elementData" "[Ljava/lang/Object;" (.ref d)) (F2 : Fld Z h0 x "java/util/ArrayList" "size" "I" (.int (Int32.ofNat n))) (F3 : Fld Z h0 x "java/util/AbstractList" "modCount" "I" (.int mc)) (gx : Z.heap.size ≤ x) (Ee : Exa Z h0 ee "java/lang/String") : Ct l Z (⟨"java/util/ArrayList", "add", "(Ljava/lang/Object;[Ljava/lang/Object;I)V"⟩ : MethodName) jdk_38_method_24_code 4 none rm_add3n #[(.ref x), (.ref ee), (.ref d), (.int (Int32.ofNat n))] h0 (Q_add3n Z x ee d kA mc n vs h0) := by
  refine Ct.of_body (Ls := #[.val (.ref x), .val (.ref ee), .val (.ref d), .val (.int (Int32.ofNat n))]) (by decide +kernel) O (fun m => by first | rfl | (simp [entryFrame, mkF, argsToLocals, Value.category]; done) | (rcases ref_cases (Sts.ref OS) with rfl | ⟨r, rfl⟩ <;> rfl)) ?_
  intro p e s m below meth c T0 X0 e0
  subst e0
  have K00 := Keep.refl T0.heap [d, x]
  refine E_iloadN X0 d_add3n_0 rfl (pc' := 1) rfl ?_
  refine E_aloadN X0 d_add3n_1 rfl rfl (pc' := 2) rfl ?_
  refine E_arraylength X0 d_add3n_2 V0 (pc' := 3) rfl ?_
  refine E_icT X0 d_add3n_3 (XT.ii_ne_t (o_ne (n := 10) (by omega) (by decide) (by omega))) (pc' := 11) (by decide) rfl ?_
  refine E_aloadN X0 d_add3n_11 rfl rfl (pc' := 12) rfl ?_
  refine E_iloadN X0 d_add3n_12 rfl (pc' := 13) rfl ?_
  refine E_aloadN X0 d_add3n_13 rfl rfl (pc' := 14) rfl ?_
  refine E_aastoreA X0 d_add3n_14 V0 Ov (Ins.of_exa Ee (hw _ (List.mem_of_getElem? (i := 101) rfl))) ⟨o_nn (by omega), o_lt (n := 10) h10 (by decide)⟩ (by rw [o_cl (by omega), hn]) gd (pc' := 15) rfl ?_
  intro T1 X2 K3 V4
  have KK5 := K00.trans K3 (allS (Or.inl (by simp)) (fun x q => nomatch q))
  have Exa_6 := E0.keep K3
  have Fld_7 := F1.keep K3 (ninS hxd nin0)
  have Fld_8 := F2.keep K3 (ninS hxd nin0)
  have Fld_9 := F3.keep K3 (ninS hxd nin0)
  have Exa_10 := Ee.keep K3
  have V11 : Arv Z T1.heap d kA (.object "java/lang/Object") (10 : Int32) (vs ++ [.ref ee]) .null := V4
  refine E_aloadN X2 d_add3n_15 rfl rfl (pc' := 16) rfl ?_
  refine E_iloadN X2 d_add3n_16 rfl (pc' := 17) rfl ?_
  refine E_iconst X2 (v := (1 : Int32)) d_add3n_17 rfl (pc' := 18) rfl ?_
  refine E_iadd X2 (v := (Int32.ofNat (n + 1))) d_add3n_18 o_add (pc' := 19) rfl ?_
  refine E_putfield X2 (ty := .int) d_add3n_19 (hw _ (List.mem_of_getElem? (i := 78) rfl)) Via.refl Fld_8 Exa_6 (Or.inl (hw _ (List.mem_of_getElem? (i := 79) rfl))) (hw _ (List.mem_of_getElem? (i := 48) rfl)) (by decide) rfl rfl gx  (pc' := 22) rfl ?_
  intro T12 X13 W14
  have K15 := Keep.of_wr W14
  have KK16 := KK5.trans K15 (allS (Or.inl (by simp)) (fun x q => nomatch q))
  have Exa_17 := Exa_6.keep K15
  have Exa_18 := Exa_10.keep K15
  have Arv_19 := V11.keep K15 (ninS (Ne.symm hxd) nin0)
  have F20 := Fld_8.same W14
  have F21 := Fld_7.other W14 (Or.inr (slot_ne (Or.inl (hw _ (List.mem_of_getElem? (i := 70) rfl))) (Or.inl (hw _ (List.mem_of_getElem? (i := 79) rfl))) (by decide) (t := (.array (.object "java/lang/Object"))) (t' := .int) (by decide) (by decide)))
  have F22 := Fld_9.other W14 (Or.inr (slot_ne (Or.inl (hw _ (List.mem_of_getElem? (i := 67) rfl))) (Or.inl (hw _ (List.mem_of_getElem? (i := 79) rfl))) (by decide) (t := .int) (t' := .int) (by decide) (by decide)))
  exact E_return X13 d_add3n_22 rfl (by decide) (by decide) (⟨rfl, KK16, Arv_19, F21, F20, F22⟩)
theorem d_addn_0 : decode jdk_38_method_25_code 0 = .ok (.aload_n 0, 1) := by decide +kernel
theorem d_addn_1 : decode jdk_38_method_25_code 1 = .ok (.dup, 1) := by decide +kernel
theorem d_addn_2 : decode jdk_38_method_25_code 2 = .ok (.getfield 63, 3) := by decide +kernel
theorem d_addn_5 : decode jdk_38_method_25_code 5 = .ok (.iconst 1, 1) := by decide +kernel
theorem d_addn_6 : decode jdk_38_method_25_code 6 = .ok (.iadd, 1) := by decide +kernel
theorem d_addn_7 : decode jdk_38_method_25_code 7 = .ok (.putfield 63, 3) := by decide +kernel
theorem d_addn_10 : decode jdk_38_method_25_code 10 = .ok (.aload_n 0, 1) := by decide +kernel
theorem d_addn_11 : decode jdk_38_method_25_code 11 = .ok (.aload_n 1, 1) := by decide +kernel
theorem d_addn_12 : decode jdk_38_method_25_code 12 = .ok (.aload_n 0, 1) := by decide +kernel
theorem d_addn_13 : decode jdk_38_method_25_code 13 = .ok (.getfield 9, 3) := by decide +kernel
theorem d_addn_16 : decode jdk_38_method_25_code 16 = .ok (.aload_n 0, 1) := by decide +kernel
theorem d_addn_17 : decode jdk_38_method_25_code 17 = .ok (.getfield 48, 3) := by decide +kernel
theorem d_addn_20 : decode jdk_38_method_25_code 20 = .ok (.invokevirtual 131, 3) := by decide +kernel
theorem d_addn_23 : decode jdk_38_method_25_code 23 = .ok (.iconst 1, 1) := by decide +kernel
theorem d_addn_24 : decode jdk_38_method_25_code 24 = .ok (.ireturn, 1) := by decide +kernel
abbrev rm_addn : Room := ({ frames := 1, cells := 0, slots := 0, locals := 15 } : Room)
def Q_addn (Z : State) (x ee d : Addr) (kA : ClassId) (mc : Int32) (n : Nat) (vs : List Value) (h0 : Heap) (v : Option Value) (h : Heap) : Prop := v = some (.int 1) ∧ Keep h0 h [d, x] ∧ Arv Z h d kA (.object "java/lang/Object") (10 : Int32) (vs ++ [.ref ee]) .null ∧ Fld Z h x "java/util/ArrayList" "elementData" "[Ljava/lang/Object;" (.ref d) ∧ Fld Z h x "java/util/ArrayList" "size" "I" (.int (Int32.ofNat (n + 1))) ∧ Fld Z h x "java/util/AbstractList" "modCount" "I" (.int (mc + 1))
set_option maxRecDepth 65536 in
set_option maxHeartbeats 40000000 in
theorem ct_addn (l : Launch) (Z : State) (a0 : Array Value) (hw : ∀ d ∈ tables_1, d.before a0 Z = true) (G1 : Int32) (G3 : Value) (OS : Sts Z G1 G3) (hEL : EW Z a0 EL) (hSA : ∀ a ∈ Bundle.stringAtoms, a.before a0 Z = true) (x ee d : Addr) (kA : ClassId) (mc : Int32) (n : Nat) (vs : List Value) {h0 : Heap} (O : Ext Z.heap h0) (hn : vs.length = n) (h10 : n < 10) (gd : Z.heap.size ≤ d) (hxd : x ≠ d) (V0 : Arv Z h0 d kA (.object "java/lang/Object") (10 : Int32) vs .null) (Ov : Ovr Z kA "java/lang/Object") (E0 : Exa Z h0 x "java/util/ArrayList") (F1 : Fld Z h0 x "java/util/ArrayList" "elementData" "[Ljava/lang/Object;" (.ref d)) (F2 : Fld Z h0 x "java/util/ArrayList" "size" "I" (.int (Int32.ofNat n))) (F3 : Fld Z h0 x "java/util/AbstractList" "modCount" "I" (.int mc)) (gx : Z.heap.size ≤ x) (Ee : Exa Z h0 ee "java/lang/String") : Ct l Z (⟨"java/util/ArrayList", "add", "(Ljava/lang/Object;)Z"⟩ : MethodName) jdk_38_method_25_code 2 (some .boolean) rm_addn #[(.ref x), (.ref ee)] h0 (Q_addn Z x ee d kA mc n vs h0) := by
  refine Ct.of_body (Ls := #[.val (.ref x), .val (.ref ee)]) (by decide +kernel) O (fun m => by first | rfl | (simp [entryFrame, mkF, argsToLocals, Value.category]; done) | (rcases ref_cases (Sts.ref OS) with rfl | ⟨r, rfl⟩ <;> rfl)) ?_
  intro p e s m below meth c T0 X0 e0
  subst e0
  have K00 := Keep.refl T0.heap [d, x]
  refine E_aloadN X0 d_addn_0 rfl rfl (pc' := 1) rfl ?_
  refine E_dup X0 d_addn_1 rfl (pc' := 2) rfl ?_
  refine E_getfield X0 d_addn_2 (hw _ (List.mem_of_getElem? (i := 76) rfl)) (Via.of (hw _ (List.mem_of_getElem? (i := 77) rfl))) F3 (pc' := 5) rfl ?_
  intro T1 X2 e3
  have KK4 := own_keq K00 e3
  rw [← e3] at E0 F1 F2 F3 V0 Ee
  refine E_iconst X2 (v := (1 : Int32)) d_addn_5 rfl (pc' := 6) rfl ?_
  refine E_iadd X2 d_addn_6 rfl (pc' := 7) rfl ?_
  refine E_putfield X2 (ty := .int) d_addn_7 (hw _ (List.mem_of_getElem? (i := 76) rfl)) (Via.of (hw _ (List.mem_of_getElem? (i := 77) rfl))) F3 E0 (Or.inl (hw _ (List.mem_of_getElem? (i := 67) rfl))) (hw _ (List.mem_of_getElem? (i := 48) rfl)) (by decide) rfl rfl gx  (pc' := 10) rfl ?_
  intro T5 X6 W7
  have K8 := Keep.of_wr W7
  have KK9 := KK4.trans K8 (allS (Or.inl (by simp)) (fun x q => nomatch q))
  have Exa_10 := E0.keep K8
  have Arv_11 := V0.keep K8 (ninS (Ne.symm hxd) nin0)
  have Exa_12 := Ee.keep K8
  have F13 := F3.same W7
  have F14 := F1.other W7 (Or.inr (slot_ne (Or.inl (hw _ (List.mem_of_getElem? (i := 70) rfl))) (Or.inl (hw _ (List.mem_of_getElem? (i := 67) rfl))) (by decide) (t := (.array (.object "java/lang/Object"))) (t' := .int) (by decide) (by decide)))
  have F15 := F2.other W7 (Or.inr (slot_ne (Or.inl (hw _ (List.mem_of_getElem? (i := 79) rfl))) (Or.inl (hw _ (List.mem_of_getElem? (i := 67) rfl))) (by decide) (t := .int) (t' := .int) (by decide) (by decide)))
  refine E_aloadN X6 d_addn_10 rfl rfl (pc' := 11) rfl ?_
  refine E_aloadN X6 d_addn_11 rfl rfl (pc' := 12) rfl ?_
  refine E_aloadN X6 d_addn_12 rfl rfl (pc' := 13) rfl ?_
  refine E_getfield X6 d_addn_13 (hw _ (List.mem_of_getElem? (i := 69) rfl)) Via.refl F14 (pc' := 16) rfl ?_
  intro T16 X17 e18
  have KK19 := own_keq KK9 e18
  rw [← e18] at Exa_10 Arv_11 Exa_12 F13 F14 F15
  refine E_aloadN X17 d_addn_16 rfl rfl (pc' := 17) rfl ?_
  refine E_getfield X17 d_addn_17 (hw _ (List.mem_of_getElem? (i := 78) rfl)) Via.refl F15 (pc' := 20) rfl ?_
  intro T20 X21 e22
  have KK23 := own_keq KK19 e22
  rw [← e22] at Exa_10 Arv_11 Exa_12 F13 F14 F15
  refine E_private X21 (rm := rm_add3n) (a := x) (D := "java/util/ArrayList") d_addn_20 (hw _ (List.mem_of_getElem? (i := 80) rfl)) (hw _ (List.mem_of_getElem? (i := 81) rfl)) (hw _ (List.mem_of_getElem? (i := 83) rfl)) (hw _ (List.mem_of_getElem? (i := 82) rfl)) (hw _ (List.mem_of_getElem? (i := 84) rfl)) (by decide) Exa_10 (hw _ (List.mem_of_getElem? (i := 49) rfl)) (argsL := [(.ref ee), (.ref d), (.int (Int32.ofNat n))]) (st := []) rfl (ct_add3n l Z a0 hw G1 G3 OS hEL hSA x ee d kA (mc + 1) n vs X21.old hn h10 gd hxd Arv_11 Ov Exa_10 F14 F15 F13 gx Exa_12) (lenOf (pd_12) rfl) rfl (by decide) (by decide) (by decide) (Nat.le_of_ble_eq_true rfl)  (pc' := 23) rfl ?_
  intro T24 _ X25 hQ26
  obtain ⟨rfl, K28, V27, G29, G30, G31⟩ := hQ26
  have KK32 := KK23.trans K28 (allS (Or.inl (by simp)) (allS (Or.inl (by simp)) (fun x q => nomatch q)))
  have Exa_33 := Exa_10.keep K28
  have Exa_34 := Exa_12.keep K28
  show Ends p e below s Z _ _ _ T24 (mkF m 23 #[.val (.ref x), .val (.ref ee)] [])
  refine E_iconst X25 (v := (1 : Int32)) d_addn_23 rfl (pc' := 24) rfl ?_
  exact E_ireturnN X25 (t := .boolean) d_addn_24 rfl (by simp) (by decide) (by decide) (⟨rfl, KK32, V27, G29, G30, G31⟩)
theorem d_pcn_0 : decode jdk_41_method_11_code 0 = .ok (.iload_n 0, 1) := by decide +kernel
theorem d_pcn_1 : decode jdk_41_method_11_code 1 = .ok (.ifCond .lt 8, 3) := by decide +kernel
theorem d_pcn_4 : decode jdk_41_method_11_code 4 = .ok (.iload_n 0, 1) := by decide +kernel
theorem d_pcn_5 : decode jdk_41_method_11_code 5 = .ok (.iload_n 1, 1) := by decide +kernel
theorem d_pcn_6 : decode jdk_41_method_11_code 6 = .ok (.if_icmp .lt 10, 3) := by decide +kernel
theorem d_pcn_16 : decode jdk_41_method_11_code 16 = .ok (.iload_n 0, 1) := by decide +kernel
theorem d_pcn_17 : decode jdk_41_method_11_code 17 = .ok (.ireturn, 1) := by decide +kernel
abbrev rm_pcn : Room := ({ frames := 0, cells := 0, slots := 0, locals := 0 } : Room)
def Q_pcn (Z : State) (i n : Int32) (h0 : Heap) (v : Option Value) (h : Heap) : Prop := v = some (.int i) ∧ h = h0
set_option maxRecDepth 65536 in
set_option maxHeartbeats 40000000 in
theorem ct_pcn (l : Launch) (Z : State) (a0 : Array Value) (hw : ∀ d ∈ tables_1, d.before a0 Z = true) (G1 : Int32) (G3 : Value) (OS : Sts Z G1 G3) (hEL : EW Z a0 EL) (hSA : ∀ a ∈ Bundle.stringAtoms, a.before a0 Z = true) (i n : Int32) {h0 : Heap} (O : Ext Z.heap h0) (h1 : ¬ i < 0) (h2 : i < n) : Ct l Z (⟨"jdk/internal/util/Preconditions", "checkIndex", "(IILjava/util/function/BiFunction;)I"⟩ : MethodName) jdk_41_method_11_code 3 (some .int) rm_pcn #[(.int i), (.int n), .null] h0 (Q_pcn Z i n h0) := by
  refine Ct.of_body (Ls := #[.val (.int i), .val (.int n), .val .null]) (by decide +kernel) O (fun m => by first | rfl | (simp [entryFrame, mkF, argsToLocals, Value.category]; done) | (rcases ref_cases (Sts.ref OS) with rfl | ⟨r, rfl⟩ <;> rfl)) ?_
  intro p e s m below meth c T0 X0 e0
  subst e0
  refine E_iloadN X0 d_pcn_0 rfl (pc' := 1) rfl ?_
  refine E_ifF X0 d_pcn_1 (XT.i0_lt_f h1) (pc' := 4) rfl ?_
  refine E_iloadN X0 d_pcn_4 rfl (pc' := 5) rfl ?_
  refine E_iloadN X0 d_pcn_5 rfl (pc' := 6) rfl ?_
  refine E_icT X0 d_pcn_6 (XT.ii_lt_t h2) (pc' := 16) (by decide) rfl ?_
  refine E_iloadN X0 d_pcn_16 rfl (pc' := 17) rfl ?_
  exact E_ireturnI X0 d_pcn_17 rfl (by decide) (by decide) (⟨rfl, rfl⟩)
theorem d_ocn_0 : decode jdk_31_method_17_code 0 = .ok (.iload_n 0, 1) := by decide +kernel
theorem d_ocn_1 : decode jdk_31_method_17_code 1 = .ok (.iload_n 1, 1) := by decide +kernel
theorem d_ocn_2 : decode jdk_31_method_17_code 2 = .ok (.aconst_null, 1) := by decide +kernel
theorem d_ocn_3 : decode jdk_31_method_17_code 3 = .ok (.invokestatic 105, 3) := by decide +kernel
theorem d_ocn_6 : decode jdk_31_method_17_code 6 = .ok (.ireturn, 1) := by decide +kernel
abbrev rm_ocn : Room := ({ frames := 1, cells := 0, slots := 0, locals := 14 } : Room)
def Q_ocn (Z : State) (i n : Int32) (h0 : Heap) (v : Option Value) (h : Heap) : Prop := v = some (.int i) ∧ h = h0
set_option maxRecDepth 65536 in
set_option maxHeartbeats 40000000 in
theorem ct_ocn (l : Launch) (Z : State) (a0 : Array Value) (hw : ∀ d ∈ tables_1, d.before a0 Z = true) (G1 : Int32) (G3 : Value) (OS : Sts Z G1 G3) (hEL : EW Z a0 EL) (hSA : ∀ a ∈ Bundle.stringAtoms, a.before a0 Z = true) (i n : Int32) {h0 : Heap} (O : Ext Z.heap h0) (h1 : ¬ i < 0) (h2 : i < n) : Ct l Z (⟨"java/util/Objects", "checkIndex", "(II)I"⟩ : MethodName) jdk_31_method_17_code 2 (some .int) rm_ocn #[(.int i), (.int n)] h0 (Q_ocn Z i n h0) := by
  refine Ct.of_body (Ls := #[.val (.int i), .val (.int n)]) (by decide +kernel) O (fun m => by first | rfl | (simp [entryFrame, mkF, argsToLocals, Value.category]; done) | (rcases ref_cases (Sts.ref OS) with rfl | ⟨r, rfl⟩ <;> rfl)) ?_
  intro p e s m below meth c T0 X0 e0
  subst e0
  refine E_iloadN X0 d_ocn_0 rfl (pc' := 1) rfl ?_
  refine E_iloadN X0 d_ocn_1 rfl (pc' := 2) rfl ?_
  refine E_aconstNull X0 d_ocn_2 (pc' := 3) rfl ?_
  refine E_static X0 (rm := rm_pcn) d_ocn_3 (hw _ (List.mem_of_getElem? (i := 137) rfl)) (hw _ (List.mem_of_getElem? (i := 138) rfl)) (hw _ (List.mem_of_getElem? (i := 139) rfl)) (hw _ (List.mem_of_getElem? (i := 140) rfl)) (by decide) (argsL := [(.int i), (.int n), .null]) (st := []) rfl (ct_pcn l Z a0 hw G1 G3 OS hEL hSA i n X0.old h1 h2) (lenOf (pd_13) rfl) rfl (by decide) (by decide) (by decide) (Nat.le_of_ble_eq_true rfl)  (pc' := 6) rfl ?_
  intro T1 _ X2 hQ3
  obtain ⟨rfl, e4⟩ := hQ3
  show Ends p e below s Z _ _ _ T1 (mkF m 6 #[.val (.int i), .val (.int n)] [(.int i)])
  exact E_ireturnI X2 d_ocn_6 rfl (by decide) (by decide) (⟨rfl, e4⟩)
theorem d_eld_0 : decode jdk_38_method_18_code 0 = .ok (.aload_n 0, 1) := by decide +kernel
theorem d_eld_1 : decode jdk_38_method_18_code 1 = .ok (.getfield 9, 3) := by decide +kernel
theorem d_eld_4 : decode jdk_38_method_18_code 4 = .ok (.iload_n 1, 1) := by decide +kernel
theorem d_eld_5 : decode jdk_38_method_18_code 5 = .ok (.aaload, 1) := by decide +kernel
theorem d_eld_6 : decode jdk_38_method_18_code 6 = .ok (.areturn, 1) := by decide +kernel
abbrev rm_eld : Room := ({ frames := 0, cells := 0, slots := 0, locals := 0 } : Room)
def Q_eld (Z : State) (x d y : Addr) (kA : ClassId) (i n : Nat) (vs : List Value) (h0 : Heap) (v : Option Value) (h : Heap) : Prop := v = some (.ref y) ∧ h = h0
set_option maxRecDepth 65536 in
set_option maxHeartbeats 40000000 in
theorem ct_eld (l : Launch) (Z : State) (a0 : Array Value) (hw : ∀ d ∈ tables_1, d.before a0 Z = true) (G1 : Int32) (G3 : Value) (OS : Sts Z G1 G3) (hEL : EW Z a0 EL) (hSA : ∀ a ∈ Bundle.stringAtoms, a.before a0 Z = true) (x d y : Addr) (kA : ClassId) (i n : Nat) (vs : List Value) {h0 : Heap} (O : Ext Z.heap h0) (hi : i < n) (h10 : n ≤ 10) (hy : vs.getD (Int32.ofNat i).toNatClampNeg .null = .ref y) (E0 : Exa Z h0 x "java/util/ArrayList") (F1 : Fld Z h0 x "java/util/ArrayList" "elementData" "[Ljava/lang/Object;" (.ref d)) (F2 : Fld Z h0 x "java/util/ArrayList" "size" "I" (.int (Int32.ofNat n))) (V0 : Arv Z h0 d kA (.object "java/lang/Object") (10 : Int32) vs .null) : Ct l Z (⟨"java/util/ArrayList", "elementData", "(I)Ljava/lang/Object;"⟩ : MethodName) jdk_38_method_18_code 2 (some (.object "java/lang/Object")) rm_eld #[(.ref x), (.int (Int32.ofNat i))] h0 (Q_eld Z x d y kA i n vs h0) := by
  refine Ct.of_body (Ls := #[.val (.ref x), .val (.int (Int32.ofNat i))]) (by decide +kernel) O (fun m => by first | rfl | (simp [entryFrame, mkF, argsToLocals, Value.category]; done) | (rcases ref_cases (Sts.ref OS) with rfl | ⟨r, rfl⟩ <;> rfl)) ?_
  intro p e s m below meth c T0 X0 e0
  subst e0
  refine E_aloadN X0 d_eld_0 rfl rfl (pc' := 1) rfl ?_
  refine E_getfield X0 d_eld_1 (hw _ (List.mem_of_getElem? (i := 69) rfl)) Via.refl F1 (pc' := 4) rfl ?_
  intro T1 X2 e3
  rw [← e3] at E0 F1 F2 V0
  refine E_iloadN X2 d_eld_4 rfl (pc' := 5) rfl ?_
  refine E_aaload X2 (v := (.ref y)) d_eld_5 V0 rfl ⟨o_nn (by omega), o_lt (n := 10) (by omega) (by decide)⟩ hy (pc' := 6) rfl ?_
  exact E_areturn X2 (t := (.object "java/lang/Object")) d_eld_6 rfl rfl rfl rfl (by decide) (by decide) (⟨rfl, e3⟩)
theorem d_aget_0 : decode jdk_38_method_20_code 0 = .ok (.iload_n 1, 1) := by decide +kernel
theorem d_aget_1 : decode jdk_38_method_20_code 1 = .ok (.aload_n 0, 1) := by decide +kernel
theorem d_aget_2 : decode jdk_38_method_20_code 2 = .ok (.getfield 48, 3) := by decide +kernel
theorem d_aget_5 : decode jdk_38_method_20_code 5 = .ok (.invokestatic 118, 3) := by decide +kernel
theorem d_aget_8 : decode jdk_38_method_20_code 8 = .ok (.pop, 1) := by decide +kernel
theorem d_aget_9 : decode jdk_38_method_20_code 9 = .ok (.aload_n 0, 1) := by decide +kernel
theorem d_aget_10 : decode jdk_38_method_20_code 10 = .ok (.iload_n 1, 1) := by decide +kernel
theorem d_aget_11 : decode jdk_38_method_20_code 11 = .ok (.invokevirtual 123, 3) := by decide +kernel
theorem d_aget_14 : decode jdk_38_method_20_code 14 = .ok (.areturn, 1) := by decide +kernel
abbrev rm_aget : Room := ({ frames := 2, cells := 0, slots := 0, locals := 27 } : Room)
def Q_aget (Z : State) (x d y : Addr) (kA : ClassId) (i n : Nat) (vs : List Value) (h0 : Heap) (v : Option Value) (h : Heap) : Prop := v = some (.ref y) ∧ h = h0
set_option maxRecDepth 65536 in
set_option maxHeartbeats 40000000 in
theorem ct_aget (l : Launch) (Z : State) (a0 : Array Value) (hw : ∀ d ∈ tables_1, d.before a0 Z = true) (G1 : Int32) (G3 : Value) (OS : Sts Z G1 G3) (hEL : EW Z a0 EL) (hSA : ∀ a ∈ Bundle.stringAtoms, a.before a0 Z = true) (x d y : Addr) (kA : ClassId) (i n : Nat) (vs : List Value) {h0 : Heap} (O : Ext Z.heap h0) (hi : i < n) (h10 : n ≤ 10) (hy : vs.getD (Int32.ofNat i).toNatClampNeg .null = .ref y) (E0 : Exa Z h0 x "java/util/ArrayList") (F1 : Fld Z h0 x "java/util/ArrayList" "elementData" "[Ljava/lang/Object;" (.ref d)) (F2 : Fld Z h0 x "java/util/ArrayList" "size" "I" (.int (Int32.ofNat n))) (V0 : Arv Z h0 d kA (.object "java/lang/Object") (10 : Int32) vs .null) : Ct l Z (⟨"java/util/ArrayList", "get", "(I)Ljava/lang/Object;"⟩ : MethodName) jdk_38_method_20_code 2 (some (.object "java/lang/Object")) rm_aget #[(.ref x), (.int (Int32.ofNat i))] h0 (Q_aget Z x d y kA i n vs h0) := by
  refine Ct.of_body (Ls := #[.val (.ref x), .val (.int (Int32.ofNat i))]) (by decide +kernel) O (fun m => by first | rfl | (simp [entryFrame, mkF, argsToLocals, Value.category]; done) | (rcases ref_cases (Sts.ref OS) with rfl | ⟨r, rfl⟩ <;> rfl)) ?_
  intro p e s m below meth c T0 X0 e0
  subst e0
  refine E_iloadN X0 d_aget_0 rfl (pc' := 1) rfl ?_
  refine E_aloadN X0 d_aget_1 rfl rfl (pc' := 2) rfl ?_
  refine E_getfield X0 d_aget_2 (hw _ (List.mem_of_getElem? (i := 78) rfl)) Via.refl F2 (pc' := 5) rfl ?_
  intro T1 X2 e3
  rw [← e3] at E0 F1 F2 V0
  refine E_static X2 (rm := rm_ocn) d_aget_5 (hw _ (List.mem_of_getElem? (i := 133) rfl)) (hw _ (List.mem_of_getElem? (i := 134) rfl)) (hw _ (List.mem_of_getElem? (i := 135) rfl)) (hw _ (List.mem_of_getElem? (i := 136) rfl)) (by decide) (argsL := [(.int (Int32.ofNat i)), (.int (Int32.ofNat n))]) (st := []) rfl (ct_ocn l Z a0 hw G1 G3 OS hEL hSA (Int32.ofNat i) (Int32.ofNat n) X2.old (o_nn (by omega)) (o_lt hi (by omega))) (lenOf (pd_9) rfl) rfl (by decide) (by decide) (by decide) (Nat.le_of_ble_eq_true rfl)  (pc' := 8) rfl ?_
  intro T4 _ X5 hQ6
  obtain ⟨rfl, e7⟩ := hQ6
  rw [← e7] at E0 F1 F2 V0
  show Ends p e below s Z _ _ _ T4 (mkF m 8 #[.val (.ref x), .val (.int (Int32.ofNat i))] [(.int (Int32.ofNat i))])
  refine E_pop X5 d_aget_8 rfl (pc' := 9) rfl ?_
  refine E_aloadN X5 d_aget_9 rfl rfl (pc' := 10) rfl ?_
  refine E_iloadN X5 d_aget_10 rfl (pc' := 11) rfl ?_
  refine E_virtual X5 (rm := rm_eld) (a := x) (D := "java/util/ArrayList") d_aget_11 (hw _ (List.mem_of_getElem? (i := 141) rfl)) (hw _ (List.mem_of_getElem? (i := 142) rfl)) (hw _ (List.mem_of_getElem? (i := 144) rfl)) (hw _ (List.mem_of_getElem? (i := 143) rfl)) (notFace_of_selects (args := #[]) (mvT X5.hZ (hw _ (List.mem_of_getElem? (i := 144) rfl)))) (by decide) E0 (hw _ (List.mem_of_getElem? (i := 49) rfl)) (hw _ (List.mem_of_getElem? (i := 145) rfl)) (argsL := [(.int (Int32.ofNat i))]) (st := []) rfl (ct_eld l Z a0 hw G1 G3 OS hEL hSA x d y kA i n vs X5.old hi h10 hy E0 F1 F2 V0) (lenOf (pd_14) rfl) rfl (by decide) (by decide) (by decide) (Nat.le_of_ble_eq_true rfl)  (pc' := 14) rfl ?_
  intro T8 _ X9 hQ10
  obtain ⟨rfl, e11⟩ := hQ10
  rw [← e11] at E0 F1 F2 V0
  show Ends p e below s Z _ _ _ T8 (mkF m 14 #[.val (.ref x), .val (.int (Int32.ofNat i))] [(.ref y)])
  exact E_areturn X9 (t := (.object "java/lang/Object")) d_aget_14 rfl rfl rfl rfl (by decide) (by decide) (⟨rfl, (e11.trans (e7.trans e3))⟩)
theorem d_recinit_0 : decode jdk_30_method_1_code 0 = .ok (.aload_n 0, 1) := by decide +kernel
theorem d_recinit_1 : decode jdk_30_method_1_code 1 = .ok (.invokespecial 1, 3) := by decide +kernel
theorem d_recinit_4 : decode jdk_30_method_1_code 4 = .ok (.return_, 1) := by decide +kernel
abbrev rm_recinit : Room := ({ frames := 1, cells := 0, slots := 0, locals := 12 } : Room)
def Q_recinit (Z : State) (x : Addr) (h0 : Heap) (v : Option Value) (h : Heap) : Prop := v = none ∧ h = h0
set_option maxRecDepth 65536 in
set_option maxHeartbeats 40000000 in
theorem ct_recinit (l : Launch) (Z : State) (a0 : Array Value) (hw : ∀ d ∈ tables_1, d.before a0 Z = true) (G1 : Int32) (G3 : Value) (OS : Sts Z G1 G3) (hEL : EW Z a0 EL) (hSA : ∀ a ∈ Bundle.stringAtoms, a.before a0 Z = true) (x : Addr) {h0 : Heap} (O : Ext Z.heap h0)  : Ct l Z (⟨"java/lang/Record", "<init>", "()V"⟩ : MethodName) jdk_30_method_1_code 1 none rm_recinit #[(.ref x)] h0 (Q_recinit Z x h0) := by
  refine Ct.of_body (Ls := #[.val (.ref x)]) (by decide +kernel) O (fun m => by first | rfl | (simp [entryFrame, mkF, argsToLocals, Value.category]; done) | (rcases ref_cases (Sts.ref OS) with rfl | ⟨r, rfl⟩ <;> rfl)) ?_
  intro p e s m below meth c T0 X0 e0
  subst e0
  refine E_aloadN X0 d_recinit_0 rfl rfl (pc' := 1) rfl ?_
  refine E_initO X0 d_recinit_1 (hw _ (List.mem_of_getElem? (i := 113) rfl)) (hw _ (List.mem_of_getElem? (i := 25) rfl)) (hw _ (List.mem_of_getElem? (i := 26) rfl)) rfl (by decide) (Nat.le_of_ble_eq_true rfl) (pc' := 4) rfl ?_
  intro T1 X2 e3
  exact E_return X2 d_recinit_4 rfl (by decide) (by decide) (⟨rfl, e3⟩)
theorem d_rinit_0 : decode prog_57_method_1_code 0 = .ok (.aload_n 0, 1) := by decide +kernel
theorem d_rinit_1 : decode prog_57_method_1_code 1 = .ok (.invokespecial 1, 3) := by decide +kernel
theorem d_rinit_4 : decode prog_57_method_1_code 4 = .ok (.aload_n 0, 1) := by decide +kernel
theorem d_rinit_5 : decode prog_57_method_1_code 5 = .ok (.iload_n 1, 1) := by decide +kernel
theorem d_rinit_6 : decode prog_57_method_1_code 6 = .ok (.putfield 7, 3) := by decide +kernel
theorem d_rinit_9 : decode prog_57_method_1_code 9 = .ok (.aload_n 0, 1) := by decide +kernel
theorem d_rinit_10 : decode prog_57_method_1_code 10 = .ok (.aload_n 2, 1) := by decide +kernel
theorem d_rinit_11 : decode prog_57_method_1_code 11 = .ok (.putfield 13, 3) := by decide +kernel
theorem d_rinit_14 : decode prog_57_method_1_code 14 = .ok (.return_, 1) := by decide +kernel
abbrev rm_rinit : Room := ({ frames := 2, cells := 0, slots := 0, locals := 24 } : Room)
def Q_rinit (Z : State) (r x : Addr) (ln : Int32) (h0 : Heap) (v : Option Value) (h : Heap) : Prop := v = none ∧ Keep h0 h [r] ∧ Fld Z h r "com/example/sakimono/sakimono/TextTable$Row" "fields" "Ljava/util/List;" (.ref x)
set_option maxRecDepth 65536 in
set_option maxHeartbeats 40000000 in
theorem ct_rinit (l : Launch) (Z : State) (a0 : Array Value) (hw : ∀ d ∈ tables_1, d.before a0 Z = true) (G1 : Int32) (G3 : Value) (OS : Sts Z G1 G3) (hEL : EW Z a0 EL) (hSA : ∀ a ∈ Bundle.stringAtoms, a.before a0 Z = true) (r x : Addr) (ln : Int32) {h0 : Heap} (O : Ext Z.heap h0) (E0 : Exa Z h0 r "com/example/sakimono/sakimono/TextTable$Row") (F1 : Fld Z h0 r "com/example/sakimono/sakimono/TextTable$Row" "line" "I" (.int (0 : Int32))) (F2 : Fld Z h0 r "com/example/sakimono/sakimono/TextTable$Row" "fields" "Ljava/util/List;" .null) (gr : Z.heap.size ≤ r) : Ct l Z (⟨"com/example/sakimono/sakimono/TextTable$Row", "<init>", "(ILjava/util/List;)V"⟩ : MethodName) prog_57_method_1_code 3 none rm_rinit #[(.ref r), (.int ln), (.ref x)] h0 (Q_rinit Z r x ln h0) := by
  refine Ct.of_body (Ls := #[.val (.ref r), .val (.int ln), .val (.ref x)]) (by decide +kernel) O (fun m => by first | rfl | (simp [entryFrame, mkF, argsToLocals, Value.category]; done) | (rcases ref_cases (Sts.ref OS) with rfl | ⟨r, rfl⟩ <;> rfl)) ?_
  intro p e s m below meth c T0 X0 e0
  subst e0
  have K00 := Keep.refl T0.heap [r]
  refine E_aloadN X0 d_rinit_0 rfl rfl (pc' := 1) rfl ?_
  refine E_special X0 (rm := rm_recinit) (a := r) d_rinit_1 rfl rfl (hw _ (List.mem_of_getElem? (i := 108) rfl)) (hw _ (List.mem_of_getElem? (i := 109) rfl)) (hw _ (List.mem_of_getElem? (i := 112) rfl)) (by decide) (hw _ (List.mem_of_getElem? (i := 111) rfl)) (argsL := []) (st := []) rfl (ct_recinit l Z a0 hw G1 G3 OS hEL hSA r X0.old) (lenOf (pd_8) rfl) rfl (by decide) (by decide) (by decide) (Nat.le_of_ble_eq_true rfl)  (pc' := 4) rfl ?_
  intro T1 _ X2 hQ3
  obtain ⟨rfl, e4⟩ := hQ3
  have KK5 := own_keq K00 e4
  rw [← e4] at E0 F1 F2
  show Ends p e below s Z _ _ _ T1 (mkF m 4 #[.val (.ref r), .val (.int ln), .val (.ref x)] [])
  refine E_aloadN X2 d_rinit_4 rfl rfl (pc' := 5) rfl ?_
  refine E_iloadN X2 d_rinit_5 rfl (pc' := 6) rfl ?_
  refine E_putfield X2 (ty := .int) d_rinit_6 (hw _ (List.mem_of_getElem? (i := 114) rfl)) Via.refl F1 E0 (Or.inr ⟨(hw _ (List.mem_of_getElem? (i := 115) rfl)), rfl, rfl⟩) (hw _ (List.mem_of_getElem? (i := 103) rfl)) (by decide) rfl rfl gr  (pc' := 9) rfl ?_
  intro T6 X7 W8
  have K9 := Keep.of_wr W8
  have KK10 := KK5.trans K9 (allS (Or.inl (by simp)) (fun x q => nomatch q))
  have Exa_11 := E0.keep K9
  have F12 := F1.same W8
  have F13 := F2.other W8 (Or.inr (slot_ne (Or.inr (hw _ (List.mem_of_getElem? (i := 117) rfl))) (Or.inr (hw _ (List.mem_of_getElem? (i := 115) rfl))) (by decide) (t := (.object "java/util/List")) (t' := .int) (by decide) (by decide)))
  refine E_aloadN X7 d_rinit_9 rfl rfl (pc' := 10) rfl ?_
  refine E_aloadN X7 d_rinit_10 rfl rfl (pc' := 11) rfl ?_
  refine E_putfield X7 (ty := (.object "java/util/List")) d_rinit_11 (hw _ (List.mem_of_getElem? (i := 116) rfl)) Via.refl F13 Exa_11 (Or.inr ⟨(hw _ (List.mem_of_getElem? (i := 117) rfl)), rfl, rfl⟩) (hw _ (List.mem_of_getElem? (i := 103) rfl)) (by decide) rfl rfl gr  (pc' := 14) rfl ?_
  intro T14 X15 W16
  have K17 := Keep.of_wr W16
  have KK18 := KK10.trans K17 (allS (Or.inl (by simp)) (fun x q => nomatch q))
  have Exa_19 := Exa_11.keep K17
  have F20 := F13.same W16
  have F21 := F12.other W16 (Or.inr (slot_ne (Or.inr (hw _ (List.mem_of_getElem? (i := 115) rfl))) (Or.inr (hw _ (List.mem_of_getElem? (i := 117) rfl))) (by decide) (t := .int) (t' := (.object "java/util/List")) (by decide) (by decide)))
  exact E_return X15 d_rinit_14 rfl (by decide) (by decide) (⟨rfl, KK18, F20⟩)
theorem d_rfield_0 : decode prog_57_method_2_code 0 = .ok (.aload_n 0, 1) := by decide +kernel
theorem d_rfield_1 : decode prog_57_method_2_code 1 = .ok (.getfield 13, 3) := by decide +kernel
theorem d_rfield_4 : decode prog_57_method_2_code 4 = .ok (.iload_n 1, 1) := by decide +kernel
theorem d_rfield_5 : decode prog_57_method_2_code 5 = .ok (.invokeinterface 17 2, 5) := by decide +kernel
theorem d_rfield_10 : decode prog_57_method_2_code 10 = .ok (.checkcast 23, 3) := by decide +kernel
theorem d_rfield_13 : decode prog_57_method_2_code 13 = .ok (.areturn, 1) := by decide +kernel
abbrev rm_rfield : Room := ({ frames := 3, cells := 0, slots := 0, locals := 40 } : Room)
def Q_rfield (Z : State) (r : Addr) (x d y : Addr) (kA : ClassId) (i n : Nat) (vs : List Value) (h0 : Heap) (v : Option Value) (h : Heap) : Prop := v = some (.ref y) ∧ h = h0
set_option maxRecDepth 65536 in
set_option maxHeartbeats 40000000 in
theorem ct_rfield (l : Launch) (Z : State) (a0 : Array Value) (hw : ∀ d ∈ tables_1, d.before a0 Z = true) (G1 : Int32) (G3 : Value) (OS : Sts Z G1 G3) (hEL : EW Z a0 EL) (hSA : ∀ a ∈ Bundle.stringAtoms, a.before a0 Z = true) (r : Addr) (x d y : Addr) (kA : ClassId) (i n : Nat) (vs : List Value) {h0 : Heap} (O : Ext Z.heap h0) (R2 : Fld Z h0 r "com/example/sakimono/sakimono/TextTable$Row" "fields" "Ljava/util/List;" (.ref x)) (Ey : Exa Z h0 y "java/lang/String") (hi : i < n) (h10 : n ≤ 10) (hy : vs.getD (Int32.ofNat i).toNatClampNeg .null = .ref y) (E0 : Exa Z h0 x "java/util/ArrayList") (F1 : Fld Z h0 x "java/util/ArrayList" "elementData" "[Ljava/lang/Object;" (.ref d)) (F2 : Fld Z h0 x "java/util/ArrayList" "size" "I" (.int (Int32.ofNat n))) (V0 : Arv Z h0 d kA (.object "java/lang/Object") (10 : Int32) vs .null) : Ct l Z (⟨"com/example/sakimono/sakimono/TextTable$Row", "field", "(I)Ljava/lang/String;"⟩ : MethodName) prog_57_method_2_code 2 (some (.object "java/lang/String")) rm_rfield #[(.ref r), (.int (Int32.ofNat i))] h0 (Q_rfield Z r x d y kA i n vs h0) := by
  refine Ct.of_body (Ls := #[.val (.ref r), .val (.int (Int32.ofNat i))]) (by decide +kernel) O (fun m => by first | rfl | (simp [entryFrame, mkF, argsToLocals, Value.category]; done) | (rcases ref_cases (Sts.ref OS) with rfl | ⟨r, rfl⟩ <;> rfl)) ?_
  intro p e s m below meth c T0 X0 e0
  subst e0
  refine E_aloadN X0 d_rfield_0 rfl rfl (pc' := 1) rfl ?_
  refine E_getfield X0 d_rfield_1 (hw _ (List.mem_of_getElem? (i := 116) rfl)) Via.refl R2 (pc' := 4) rfl ?_
  intro T1 X2 e3
  rw [← e3] at E0 F1 F2 V0 R2 Ey
  refine E_iloadN X2 d_rfield_4 rfl (pc' := 5) rfl ?_
  refine E_interface X2 (rm := rm_aget) (a := x) (D := "java/util/ArrayList") d_rfield_5 (hw _ (List.mem_of_getElem? (i := 124) rfl)) (hw _ (List.mem_of_getElem? (i := 125) rfl)) (hw _ (List.mem_of_getElem? (i := 127) rfl)) (hw _ (List.mem_of_getElem? (i := 128) rfl)) (hw _ (List.mem_of_getElem? (i := 126) rfl)) rfl (hw _ (List.mem_of_getElem? (i := 129) rfl)) (hw _ (List.mem_of_getElem? (i := 130) rfl)) (hw _ (List.mem_of_getElem? (i := 131) rfl)) (by decide) E0 (hw _ (List.mem_of_getElem? (i := 49) rfl)) (hw _ (List.mem_of_getElem? (i := 132) rfl)) (argsL := [(.int (Int32.ofNat i))]) (st := []) rfl (ct_aget l Z a0 hw G1 G3 OS hEL hSA x d y kA i n vs X2.old hi h10 hy E0 F1 F2 V0) (lenOf (pd_14) rfl) rfl (by decide) (by decide) (by decide) (Nat.le_of_ble_eq_true rfl)  (pc' := 10) rfl ?_
  intro T4 _ X5 hQ6
  obtain ⟨rfl, e7⟩ := hQ6
  rw [← e7] at E0 F1 F2 V0 R2 Ey
  show Ends p e below s Z _ _ _ T4 (mkF m 10 #[.val (.ref r), .val (.int (Int32.ofNat i))] [(.ref y)])
  refine E_checkcast X5 d_rfield_10 (hw _ (List.mem_of_getElem? (i := 146) rfl)) (Ins.self Ey) (pc' := 13) rfl ?_
  intro T8 X9 e10
  rw [← e10] at E0 F1 F2 V0 R2 Ey
  exact E_areturn X9 (t := (.object "java/lang/String")) d_rfield_13 rfl rfl rfl rfl (by decide) (by decide) (⟨rfl, (e10.trans (e7.trans e3))⟩)
set_option maxRecDepth 65536 in
set_option maxHeartbeats 40000000 in
theorem ct_law (l : Launch) (Z : State) (a0 : Array Value) (hw : ∀ d ∈ tables_1, d.before a0 Z = true) (p0 p1 p2 p3 p4 : Int32) (G1 : Int32) (G3 : Value) (dc : Addr) (kd : ClassId) (O : Ext Z.heap Z.heap) (OS : Sts Z G1 G3) (hEL : EW Z a0 EL) (hSA : ∀ a ∈ Bundle.stringAtoms, a.before a0 Z = true) (SD : Sta Z Z.heap "java/util/ArrayList" "DEFAULTCAPACITY_EMPTY_ELEMENTDATA" "[Ljava/lang/Object;" (.ref dc)) (VD : Arv Z Z.heap dc kd (.object "java/lang/Object") (0 : Int32) [] .null) : CtW l Z x code maxLocals ret room_1 #[(.int p0), (.int p1), (.int p2), (.int p3), (.int p4)] Z.heap (fun v _ => v = some (.int 1)) := by
  show CtW l Z (⟨"com/example/sakimono/sakimono/RowFieldPinLaw", "law", "(IIIII)Z"⟩ : MethodName) code 16 (some .boolean) ({ frames := 8, cells := 32, slots := 1152, locals := 176 } : Room) _ _ _
  refine CtW.of_body (Ls := #[.val (.int p0), .val (.int p1), .val (.int p2), .val (.int p3), .val (.int p4), .unset, .unset, .unset, .unset, .unset, .unset, .unset, .unset, .unset, .unset, .unset]) (by decide +kernel) O hEL (fun m => by first | rfl | (simp [entryFrame, mkF, argsToLocals, Value.category]; done)) ?_
  intro p e s m below meth c T0 X0 e0
  obtain ⟨cA, hcA⟩ : ∃ z, z = (p2 &&& (255 : Int32)).toUInt32.toUInt16.toUInt32.toInt32 := ⟨_, rfl⟩
  have bcA : ¬ cA < 0 ∧ ¬ (255 : Int32) < cA := by rw [hcA]; exact c8_ok p2
  obtain ⟨cB, hcB⟩ : ∃ z, z = (p3 &&& (255 : Int32)).toUInt32.toUInt16.toUInt32.toInt32 := ⟨_, rfl⟩
  have bcB : ¬ cB < 0 ∧ ¬ (255 : Int32) < cB := by rw [hcB]; exact c8_ok p3
  obtain ⟨cC, hcC⟩ : ∃ z, z = (p4 &&& (255 : Int32)).toUInt32.toUInt16.toUInt32.toInt32 := ⟨_, rfl⟩
  have bcC : ¬ cC < 0 ∧ ¬ (255 : Int32) < cC := by rw [hcC]; exact c8_ok p4
  obtain ⟨kk, hk, hkk⟩ := own_three p1
  refine F_iloadN X0 at_0 rfl (pc' := 1) rfl ?_
  refine F_sipush X0 (v := (255 : Int32)) at_1 rfl (pc' := 4) rfl ?_
  refine F_iand X0 at_4 rfl (pc' := 5) rfl ?_
  refine F_i2c X0 (v := cA) at_5 hcA.symm (pc' := 6) rfl ?_
  refine F_istore X0 at_6 (l' := #[.val (.int p0), .val (.int p1), .val (.int p2), .val (.int p3), .val (.int p4), .val (.int cA), .unset, .unset, .unset, .unset, .unset, .unset, .unset, .unset, .unset, .unset]) rfl (pc' := 8) rfl ?_
  refine F_iloadN X0 at_8 rfl (pc' := 9) rfl ?_
  refine F_sipush X0 (v := (255 : Int32)) at_9 rfl (pc' := 12) rfl ?_
  refine F_iand X0 at_12 rfl (pc' := 13) rfl ?_
  refine F_i2c X0 (v := cB) at_13 hcB.symm (pc' := 14) rfl ?_
  refine F_istore X0 at_14 (l' := #[.val (.int p0), .val (.int p1), .val (.int p2), .val (.int p3), .val (.int p4), .val (.int cA), .val (.int cB), .unset, .unset, .unset, .unset, .unset, .unset, .unset, .unset, .unset]) rfl (pc' := 16) rfl ?_
  refine F_iload X0 at_16 rfl (pc' := 18) rfl ?_
  refine F_sipush X0 (v := (255 : Int32)) at_18 rfl (pc' := 21) rfl ?_
  refine F_iand X0 at_21 rfl (pc' := 22) rfl ?_
  refine F_i2c X0 (v := cC) at_22 hcC.symm (pc' := 23) rfl ?_
  refine F_istore X0 at_23 (l' := #[.val (.int p0), .val (.int p1), .val (.int p2), .val (.int p3), .val (.int p4), .val (.int cA), .val (.int cB), .val (.int cC), .unset, .unset, .unset, .unset, .unset, .unset, .unset, .unset]) rfl (pc' := 25) rfl ?_
  refine F_ldcS X0 (n := 0) (z := Int32.ofNat ([] : List Int32).length) (vs := ([] : List Int32).map lo8) at_25 (hw _ (List.mem_of_getElem? (i := 0) rfl)) hSA hEL (by simp [EL, consts_1]) lit_0 (by decide) rfl (by decide) (by decide) (by decide) (by decide) (pc' := 27) rfl ?_
  intro T1 la3 lb4 k5 X2 K6 E7 C8 F9 V10 hs11
  have S12 : OStr Z T1.heap la3 lb4 [] := own_lit E7 F9 C8 V10 (by decide) (by decide)
  refine F_astore X2 at_27 rfl (l' := #[.val (.int p0), .val (.int p1), .val (.int p2), .val (.int p3), .val (.int p4), .val (.int cA), .val (.int cB), .val (.int cC), .val (.ref la3), .unset, .unset, .unset, .unset, .unset, .unset, .unset]) rfl (pc' := 29) rfl ?_
  refine F_iload X2 at_29 rfl (pc' := 31) rfl ?_
  refine F_static X2 (rm := rm_valof) at_31 (hw _ (List.mem_of_getElem? (i := 8) rfl)) (hw _ (List.mem_of_getElem? (i := 9) rfl)) (hw _ (List.mem_of_getElem? (i := 1) rfl)) (hw _ (List.mem_of_getElem? (i := 10) rfl)) (by decide) (argsL := [(.int cA)]) (st := []) rfl (ct_valof l Z a0 hw G1 G3 OS hEL hSA cA X2.old bcA.1 bcA.2) (lenOf (pd_15) rfl) rfl (by decide) (by decide) (by decide) (Nat.le_of_ble_eq_true rfl) [] (fun _ _ q => by obtain ⟨_, _, _, K_, _⟩ := q; exact K_) (sf0)  (pc' := 34) rfl ?_
  intro T13 _ X14 hQ15
  obtain ⟨f1, t1, rfl, K16, sz18, sz19, S17⟩ := hQ15
  have ne20 : la3 ≠ f1 := Nat.ne_of_lt (Nat.lt_of_lt_of_le (OStr.lt S12) sz18)
  have ne21 : lb4 ≠ f1 := Nat.ne_of_lt (Nat.lt_of_lt_of_le (OStr.ltv S12) sz18)
  have ne22 : la3 ≠ t1 := Nat.ne_of_lt (Nat.lt_of_lt_of_le (OStr.lt S12) sz19)
  have ne23 : lb4 ≠ t1 := Nat.ne_of_lt (Nat.lt_of_lt_of_le (OStr.ltv S12) sz19)
  have Str_24 := OStr.keep S12 K16 nin0 nin0
  have Fld_25 := C8.keep K16 nin0
  show EndW p e below s Z _ _ _ T13 (mkF m 34 #[.val (.int p0), .val (.int p1), .val (.int p2), .val (.int p3), .val (.int p4), .val (.int cA), .val (.int cB), .val (.int cC), .val (.ref la3), .unset, .unset, .unset, .unset, .unset, .unset, .unset] [(.ref f1)])
  refine F_astore X14 at_34 rfl (l' := #[.val (.int p0), .val (.int p1), .val (.int p2), .val (.int p3), .val (.int p4), .val (.int cA), .val (.int cB), .val (.int cC), .val (.ref la3), .val (.ref f1), .unset, .unset, .unset, .unset, .unset, .unset]) rfl (pc' := 36) rfl ?_
  refine F_new X14 at_36 (hw _ (List.mem_of_getElem? (i := 29) rfl)) (hw _ (List.mem_of_getElem? (i := 2) rfl)) (hw _ (List.mem_of_getElem? (i := 1) rfl)) (by decide) (by decide) (pc' := 39) rfl ?_
  intro T26 b28 X27 hb29 K30 E31 D32
  have ne33 : la3 ≠ b28 := Nat.ne_of_lt (Nat.lt_of_lt_of_eq (OStr.lt Str_24) hb29.symm)
  have ne34 : lb4 ≠ b28 := Nat.ne_of_lt (Nat.lt_of_lt_of_eq (OStr.ltv Str_24) hb29.symm)
  have ne35 : f1 ≠ b28 := Nat.ne_of_lt (Nat.lt_of_lt_of_eq (OStr.lt S17) hb29.symm)
  have ne36 : t1 ≠ b28 := Nat.ne_of_lt (Nat.lt_of_lt_of_eq (OStr.ltv S17) hb29.symm)
  have Str_37 := OStr.keep Str_24 K30 nin0 nin0
  have Fld_38 := Fld_25.keep K30 nin0
  have Str_39 := OStr.keep S17 K30 nin0 nin0
  have g40 : Z.heap.size ≤ b28 := Nat.le_trans X14.le (Nat.le_of_eq hb29.symm)
  have F41 : Fld Z T26.heap b28 "java/lang/String" "value" "[B" .null := D32 (Or.inr (hw _ (List.mem_of_getElem? (i := 4) rfl))) (ty := (.array .byte)) (by decide)
  have F42 : Fld Z T26.heap b28 "java/lang/String" "coder" "B" (.int (0 : Int32)) := D32 (Or.inr (hw _ (List.mem_of_getElem? (i := 5) rfl))) (ty := .byte) (by decide)
  refine F_dup X27 at_39 rfl (pc' := 40) rfl ?_
  refine F_iconst X27 (v := (2 : Int32)) at_40 rfl (pc' := 41) rfl ?_
  refine F_newarray X27 2 at_41 (hw _ (List.mem_of_getElem? (i := 30) rfl)) (by decide) (by decide) (by decide) (by decide) (by decide) (pc' := 43) rfl ?_
  intro T43 b45 k49 X44 hb46 K47 V48
  have ne50 : la3 ≠ b45 := Nat.ne_of_lt (Nat.lt_of_lt_of_eq (OStr.lt Str_37) hb46.symm)
  have ne51 : lb4 ≠ b45 := Nat.ne_of_lt (Nat.lt_of_lt_of_eq (OStr.ltv Str_37) hb46.symm)
  have ne52 : f1 ≠ b45 := Nat.ne_of_lt (Nat.lt_of_lt_of_eq (OStr.lt Str_39) hb46.symm)
  have ne53 : t1 ≠ b45 := Nat.ne_of_lt (Nat.lt_of_lt_of_eq (OStr.ltv Str_39) hb46.symm)
  have ne54 : b28 ≠ b45 := Nat.ne_of_lt (Nat.lt_of_lt_of_eq E31.lt hb46.symm)
  have Str_55 := OStr.keep Str_37 K47 nin0 nin0
  have Fld_56 := Fld_38.keep K47 nin0
  have Str_57 := OStr.keep Str_39 K47 nin0 nin0
  have Exa_58 := E31.keep K47
  have Fld_59 := F41.keep K47 nin0
  have Fld_60 := F42.keep K47 nin0
  have g61 : Z.heap.size ≤ b45 := Nat.le_trans X27.le (Nat.le_of_eq hb46.symm)
  have V62 : Arv Z T43.heap b45 k49 .char (2 : Int32) [(.int (0 : Int32)), (.int (0 : Int32))] (.int (0 : Int32)) := V48.pad (pad_rep [] (.int (0 : Int32)) 2)
  refine F_dup X44 at_43 rfl (pc' := 44) rfl ?_
  refine F_iconst X44 (v := (0 : Int32)) at_44 rfl (pc' := 45) rfl ?_
  refine F_iload X44 at_45 rfl (pc' := 47) rfl ?_
  refine F_castore X44 0 (y := cB) at_47 (c8_nar bcB) V62 ⟨by decide, by decide⟩ rfl (Nat.le_of_ble_eq_true rfl) g61 (pc' := 48) rfl ?_
  intro T63 X64 K65 V66
  have Str_67 := OStr.keep Str_55 K65 (ninS ne50 nin0) (ninS ne51 nin0)
  have Fld_68 := Fld_56.keep K65 (ninS ne50 nin0)
  have Str_69 := OStr.keep Str_57 K65 (ninS ne52 nin0) (ninS ne53 nin0)
  have Exa_70 := Exa_58.keep K65
  have Fld_71 := Fld_59.keep K65 (ninS ne54 nin0)
  have Fld_72 := Fld_60.keep K65 (ninS ne54 nin0)
  have V73 : Arv Z T63.heap b45 k49 .char (2 : Int32) [(.int cB), (.int (0 : Int32))] (.int (0 : Int32)) := V66
  refine F_dup X64 at_48 rfl (pc' := 49) rfl ?_
  refine F_iconst X64 (v := (1 : Int32)) at_49 rfl (pc' := 50) rfl ?_
  refine F_iload X64 at_50 rfl (pc' := 52) rfl ?_
  refine F_castore X64 1 (y := cC) at_52 (c8_nar bcC) V73 ⟨by decide, by decide⟩ rfl (Nat.le_of_ble_eq_true rfl) g61 (pc' := 53) rfl ?_
  intro T74 X75 K76 V77
  have Str_78 := OStr.keep Str_67 K76 (ninS ne50 nin0) (ninS ne51 nin0)
  have Fld_79 := Fld_68.keep K76 (ninS ne50 nin0)
  have Str_80 := OStr.keep Str_69 K76 (ninS ne52 nin0) (ninS ne53 nin0)
  have Exa_81 := Exa_70.keep K76
  have Fld_82 := Fld_71.keep K76 (ninS ne54 nin0)
  have Fld_83 := Fld_72.keep K76 (ninS ne54 nin0)
  have V84 : Arv Z T74.heap b45 k49 .char (2 : Int32) [(.int cB), (.int cC)] (.int (0 : Int32)) := V77
  refine F_special X75 (rm := rm_sinit) (a := b28) at_53 rfl rfl (hw _ (List.mem_of_getElem? (i := 31) rfl)) (hw _ (List.mem_of_getElem? (i := 32) rfl)) (hw _ (List.mem_of_getElem? (i := 33) rfl)) (by decide) (hw _ (List.mem_of_getElem? (i := 1) rfl)) (argsL := [(.ref b45)]) (st := [(.ref b28)]) rfl (ct_sinit l Z a0 hw G1 G3 OS hEL hSA b28 b45 k49 [cB, cC] (.int (0 : Int32)) .null (.int (0 : Int32)) X75.old (Nat.le_of_ble_eq_true rfl) (Nat.le_of_ble_eq_true rfl) (allC bcB (allC bcC allN)) Exa_81 Fld_82 Fld_83 g40 V84) (lenOf (pd_16) rfl) rfl (by decide) (by decide) (by decide) (Nat.le_of_ble_eq_true rfl) [b28] (fun _ _ q => q.2.1) (sfS (own_safe X75.al Exa_81 Fld_82 (hw _ (List.mem_of_getElem? (i := 2) rfl))) (sf0))  (pc' := 56) rfl ?_
  intro T85 _ X86 hQ87
  obtain ⟨rfl, K88, t89, sz90, S91⟩ := hQ87
  have ne92 : la3 ≠ t89 := Nat.ne_of_lt (Nat.lt_of_lt_of_le (OStr.lt Str_78) sz90)
  have ne93 : lb4 ≠ t89 := Nat.ne_of_lt (Nat.lt_of_lt_of_le (OStr.ltv Str_78) sz90)
  have ne94 : f1 ≠ t89 := Nat.ne_of_lt (Nat.lt_of_lt_of_le (OStr.lt Str_80) sz90)
  have ne95 : t1 ≠ t89 := Nat.ne_of_lt (Nat.lt_of_lt_of_le (OStr.ltv Str_80) sz90)
  have ne96 : b28 ≠ t89 := Nat.ne_of_lt (Nat.lt_of_lt_of_le Exa_81.lt sz90)
  have ne97 : b45 ≠ t89 := Nat.ne_of_lt (Nat.lt_of_lt_of_le V84.lt sz90)
  have Str_98 := OStr.keep Str_78 K88 (ninS ne33 nin0) (ninS ne34 nin0)
  have Fld_99 := Fld_79.keep K88 (ninS ne33 nin0)
  have Str_100 := OStr.keep Str_80 K88 (ninS ne35 nin0) (ninS ne36 nin0)
  have Arv_101 := V84.keep K88 (ninS (Ne.symm ne54) nin0)
  show EndW p e below s Z _ _ _ T85 (mkF m 56 #[.val (.int p0), .val (.int p1), .val (.int p2), .val (.int p3), .val (.int p4), .val (.int cA), .val (.int cB), .val (.int cC), .val (.ref la3), .val (.ref f1), .unset, .unset, .unset, .unset, .unset, .unset] [(.ref b28)])
  refine F_astore X86 at_56 rfl (l' := #[.val (.int p0), .val (.int p1), .val (.int p2), .val (.int p3), .val (.int p4), .val (.int cA), .val (.int cB), .val (.int cC), .val (.ref la3), .val (.ref f1), .val (.ref b28), .unset, .unset, .unset, .unset, .unset]) rfl (pc' := 58) rfl ?_
  refine F_new X86 at_58 (hw _ (List.mem_of_getElem? (i := 47) rfl)) (hw _ (List.mem_of_getElem? (i := 48) rfl)) (hw _ (List.mem_of_getElem? (i := 49) rfl)) (by decide) (by decide) (pc' := 61) rfl ?_
  intro T102 b104 X103 hb105 K106 E107 D108
  have ne109 : la3 ≠ b104 := Nat.ne_of_lt (Nat.lt_of_lt_of_eq (OStr.lt Str_98) hb105.symm)
  have ne110 : lb4 ≠ b104 := Nat.ne_of_lt (Nat.lt_of_lt_of_eq (OStr.ltv Str_98) hb105.symm)
  have ne111 : f1 ≠ b104 := Nat.ne_of_lt (Nat.lt_of_lt_of_eq (OStr.lt Str_100) hb105.symm)
  have ne112 : t1 ≠ b104 := Nat.ne_of_lt (Nat.lt_of_lt_of_eq (OStr.ltv Str_100) hb105.symm)
  have ne113 : b45 ≠ b104 := Nat.ne_of_lt (Nat.lt_of_lt_of_eq Arv_101.lt hb105.symm)
  have ne114 : b28 ≠ b104 := Nat.ne_of_lt (Nat.lt_of_lt_of_eq (OStr.lt S91) hb105.symm)
  have ne115 : t89 ≠ b104 := Nat.ne_of_lt (Nat.lt_of_lt_of_eq (OStr.ltv S91) hb105.symm)
  have Str_116 := OStr.keep Str_98 K106 nin0 nin0
  have Fld_117 := Fld_99.keep K106 nin0
  have Str_118 := OStr.keep Str_100 K106 nin0 nin0
  have Arv_119 := Arv_101.keep K106 nin0
  have Str_120 := OStr.keep S91 K106 nin0 nin0
  have g121 : Z.heap.size ≤ b104 := Nat.le_trans X86.le (Nat.le_of_eq hb105.symm)
  have F122 : Fld Z T102.heap b104 "java/util/AbstractList" "modCount" "I" (.int (0 : Int32)) := D108 (Or.inl (hw _ (List.mem_of_getElem? (i := 67) rfl))) (ty := .int) (by decide)
  have F123 : Fld Z T102.heap b104 "java/util/ArrayList" "elementData" "[Ljava/lang/Object;" .null := D108 (Or.inl (hw _ (List.mem_of_getElem? (i := 70) rfl))) (ty := (.array (.object "java/lang/Object"))) (by decide)
  have F124 : Fld Z T102.heap b104 "java/util/ArrayList" "size" "I" (.int (0 : Int32)) := D108 (Or.inl (hw _ (List.mem_of_getElem? (i := 79) rfl))) (ty := .int) (by decide)
  refine F_dup X103 at_61 rfl (pc' := 62) rfl ?_
  refine F_special X103 (rm := rm_arinit) (a := b104) at_62 rfl rfl (hw _ (List.mem_of_getElem? (i := 50) rfl)) (hw _ (List.mem_of_getElem? (i := 51) rfl)) (hw _ (List.mem_of_getElem? (i := 52) rfl)) (by decide) (hw _ (List.mem_of_getElem? (i := 49) rfl)) (argsL := []) (st := [(.ref b104)]) rfl (ct_arinit l Z a0 hw G1 G3 OS hEL hSA b104 dc X103.old SD E107 F123 F124 F122 g121) (lenOf (pd_8) rfl) rfl (by decide) (by decide) (by decide) (Nat.le_of_ble_eq_true rfl) [b104] (fun _ _ q => q.2.1) (sfS (Safe.exa X103.al E107 (by decide) (by decide)) (sf0))  (pc' := 65) rfl ?_
  intro T125 _ X126 hQ127
  obtain ⟨rfl, K128, G129, G130, G131⟩ := hQ127
  have Str_132 := OStr.keep Str_116 K128 (ninS ne109 nin0) (ninS ne110 nin0)
  have Fld_133 := Fld_117.keep K128 (ninS ne109 nin0)
  have Str_134 := OStr.keep Str_118 K128 (ninS ne111 nin0) (ninS ne112 nin0)
  have Arv_135 := Arv_119.keep K128 (ninS ne113 nin0)
  have Str_136 := OStr.keep Str_120 K128 (ninS ne114 nin0) (ninS ne115 nin0)
  have Exa_137 := E107.keep K128
  show EndW p e below s Z _ _ _ T125 (mkF m 65 #[.val (.int p0), .val (.int p1), .val (.int p2), .val (.int p3), .val (.int p4), .val (.int cA), .val (.int cB), .val (.int cC), .val (.ref la3), .val (.ref f1), .val (.ref b28), .unset, .unset, .unset, .unset, .unset] [(.ref b104)])
  refine F_astore X126 at_65 rfl (l' := #[.val (.int p0), .val (.int p1), .val (.int p2), .val (.int p3), .val (.int p4), .val (.int cA), .val (.int cB), .val (.int cC), .val (.ref la3), .val (.ref f1), .val (.ref b28), .val (.ref b104), .unset, .unset, .unset, .unset]) rfl (pc' := 67) rfl ?_
  refine F_aload X126 at_67 rfl rfl (pc' := 69) rfl ?_
  refine F_aload X126 at_69 rfl rfl (pc' := 71) rfl ?_
  refine F_virtual X126 (rm := rm_addg) (a := b104) (D := "java/util/ArrayList") at_71 (hw _ (List.mem_of_getElem? (i := 71) rfl)) (hw _ (List.mem_of_getElem? (i := 72) rfl)) (hw _ (List.mem_of_getElem? (i := 74) rfl)) (hw _ (List.mem_of_getElem? (i := 73) rfl)) (notFace_of_selects (args := #[]) (mvT X126.hZ (hw _ (List.mem_of_getElem? (i := 74) rfl)))) (by decide) Exa_137 (hw _ (List.mem_of_getElem? (i := 49) rfl)) (hw _ (List.mem_of_getElem? (i := 75) rfl)) (argsL := [(.ref la3)]) (st := []) rfl (ct_addg l Z a0 hw G1 G3 OS hEL hSA b104 la3 dc kd (0 : Int32) X126.old SD VD Exa_137 G129 G130 G131 g121 (OStr.exa Str_132)) (lenOf (pd_17) rfl) rfl (by decide) (by decide) (by decide) (Nat.le_of_ble_eq_true rfl) [b104] (fun _ _ q => by obtain ⟨_, _, _, K_, _⟩ := q; exact K_) (sfS (Safe.exa X126.al Exa_137 (by decide) (by decide)) (sf0))  (pc' := 74) rfl ?_
  intro T138 _ X139 hQ140
  obtain ⟨dd, kA, rfl, K144, sz143, V141, Ov142, G145, G146, G147⟩ := hQ140
  have ne148 : la3 ≠ dd := Nat.ne_of_lt (Nat.lt_of_lt_of_le (OStr.lt Str_132) sz143)
  have ne149 : lb4 ≠ dd := Nat.ne_of_lt (Nat.lt_of_lt_of_le (OStr.ltv Str_132) sz143)
  have ne150 : f1 ≠ dd := Nat.ne_of_lt (Nat.lt_of_lt_of_le (OStr.lt Str_134) sz143)
  have ne151 : t1 ≠ dd := Nat.ne_of_lt (Nat.lt_of_lt_of_le (OStr.ltv Str_134) sz143)
  have ne152 : b45 ≠ dd := Nat.ne_of_lt (Nat.lt_of_lt_of_le Arv_135.lt sz143)
  have ne153 : b28 ≠ dd := Nat.ne_of_lt (Nat.lt_of_lt_of_le (OStr.lt Str_136) sz143)
  have ne154 : t89 ≠ dd := Nat.ne_of_lt (Nat.lt_of_lt_of_le (OStr.ltv Str_136) sz143)
  have ne155 : b104 ≠ dd := Nat.ne_of_lt (Nat.lt_of_lt_of_le Exa_137.lt sz143)
  have g156 : Z.heap.size ≤ dd := Nat.le_trans X126.le sz143
  have Str_157 := OStr.keep Str_132 K144 (ninS ne109 nin0) (ninS ne110 nin0)
  have Fld_158 := Fld_133.keep K144 (ninS ne109 nin0)
  have Str_159 := OStr.keep Str_134 K144 (ninS ne111 nin0) (ninS ne112 nin0)
  have Arv_160 := Arv_135.keep K144 (ninS ne113 nin0)
  have Str_161 := OStr.keep Str_136 K144 (ninS ne114 nin0) (ninS ne115 nin0)
  have Exa_162 := Exa_137.keep K144
  show EndW p e below s Z _ _ _ T138 (mkF m 74 #[.val (.int p0), .val (.int p1), .val (.int p2), .val (.int p3), .val (.int p4), .val (.int cA), .val (.int cB), .val (.int cC), .val (.ref la3), .val (.ref f1), .val (.ref b28), .val (.ref b104), .unset, .unset, .unset, .unset] [(.int (1 : Int32))])
  refine F_pop X139 at_74 rfl (pc' := 75) rfl ?_
  refine F_aload X139 at_75 rfl rfl (pc' := 77) rfl ?_
  refine F_aload X139 at_77 rfl rfl (pc' := 79) rfl ?_
  refine F_virtual X139 (rm := rm_addn) (a := b104) (D := "java/util/ArrayList") at_79 (hw _ (List.mem_of_getElem? (i := 71) rfl)) (hw _ (List.mem_of_getElem? (i := 72) rfl)) (hw _ (List.mem_of_getElem? (i := 74) rfl)) (hw _ (List.mem_of_getElem? (i := 73) rfl)) (notFace_of_selects (args := #[]) (mvT X139.hZ (hw _ (List.mem_of_getElem? (i := 74) rfl)))) (by decide) Exa_162 (hw _ (List.mem_of_getElem? (i := 49) rfl)) (hw _ (List.mem_of_getElem? (i := 75) rfl)) (argsL := [(.ref f1)]) (st := []) rfl (ct_addn l Z a0 hw G1 G3 OS hEL hSA b104 f1 dd kA ((0 : Int32) + 1) 1 [Value.ref la3] X139.old rfl (by decide) g156 ne155 V141 Ov142 Exa_162 G145 G146 G147 g121 (OStr.exa Str_159)) (lenOf (pd_17) rfl) rfl (by decide) (by decide) (by decide) (Nat.le_of_ble_eq_true rfl) [dd, b104] (fun _ _ q => q.2.1) (sfS (Safe.arv X139.al V141 (by simp)) (sfS (Safe.exa X139.al Exa_162 (by decide) (by decide)) (sf0)))  (pc' := 82) rfl ?_
  intro T163 _ X164 hQ165
  obtain ⟨rfl, K167, V166, G168, G169, G170⟩ := hQ165
  have Str_171 := OStr.keep Str_157 K167 (ninS ne148 (ninS ne109 nin0)) (ninS ne149 (ninS ne110 nin0))
  have Fld_172 := Fld_158.keep K167 (ninS ne148 (ninS ne109 nin0))
  have Str_173 := OStr.keep Str_159 K167 (ninS ne150 (ninS ne111 nin0)) (ninS ne151 (ninS ne112 nin0))
  have Arv_174 := Arv_160.keep K167 (ninS ne152 (ninS ne113 nin0))
  have Str_175 := OStr.keep Str_161 K167 (ninS ne153 (ninS ne114 nin0)) (ninS ne154 (ninS ne115 nin0))
  have Exa_176 := Exa_162.keep K167
  show EndW p e below s Z _ _ _ T163 (mkF m 82 #[.val (.int p0), .val (.int p1), .val (.int p2), .val (.int p3), .val (.int p4), .val (.int cA), .val (.int cB), .val (.int cC), .val (.ref la3), .val (.ref f1), .val (.ref b28), .val (.ref b104), .unset, .unset, .unset, .unset] [(.int (1 : Int32))])
  refine F_pop X164 at_82 rfl (pc' := 83) rfl ?_
  refine F_aload X164 at_83 rfl rfl (pc' := 85) rfl ?_
  refine F_aload X164 at_85 rfl rfl (pc' := 87) rfl ?_
  refine F_virtual X164 (rm := rm_addn) (a := b104) (D := "java/util/ArrayList") at_87 (hw _ (List.mem_of_getElem? (i := 71) rfl)) (hw _ (List.mem_of_getElem? (i := 72) rfl)) (hw _ (List.mem_of_getElem? (i := 74) rfl)) (hw _ (List.mem_of_getElem? (i := 73) rfl)) (notFace_of_selects (args := #[]) (mvT X164.hZ (hw _ (List.mem_of_getElem? (i := 74) rfl)))) (by decide) Exa_176 (hw _ (List.mem_of_getElem? (i := 49) rfl)) (hw _ (List.mem_of_getElem? (i := 75) rfl)) (argsL := [(.ref b28)]) (st := []) rfl (ct_addn l Z a0 hw G1 G3 OS hEL hSA b104 b28 dd kA (((0 : Int32) + 1) + 1) 2 [Value.ref la3, Value.ref f1] X164.old rfl (by decide) g156 ne155 V166 Ov142 Exa_176 G168 G169 G170 g121 (OStr.exa Str_175)) (lenOf (pd_17) rfl) rfl (by decide) (by decide) (by decide) (Nat.le_of_ble_eq_true rfl) [dd, b104] (fun _ _ q => q.2.1) (sfS (Safe.arv X164.al V166 (by simp)) (sfS (Safe.exa X164.al Exa_176 (by decide) (by decide)) (sf0)))  (pc' := 90) rfl ?_
  intro T177 _ X178 hQ179
  obtain ⟨rfl, K181, V180, G182, G183, G184⟩ := hQ179
  have Str_185 := OStr.keep Str_171 K181 (ninS ne148 (ninS ne109 nin0)) (ninS ne149 (ninS ne110 nin0))
  have Fld_186 := Fld_172.keep K181 (ninS ne148 (ninS ne109 nin0))
  have Str_187 := OStr.keep Str_173 K181 (ninS ne150 (ninS ne111 nin0)) (ninS ne151 (ninS ne112 nin0))
  have Arv_188 := Arv_174.keep K181 (ninS ne152 (ninS ne113 nin0))
  have Str_189 := OStr.keep Str_175 K181 (ninS ne153 (ninS ne114 nin0)) (ninS ne154 (ninS ne115 nin0))
  have Exa_190 := Exa_176.keep K181
  show EndW p e below s Z _ _ _ T177 (mkF m 90 #[.val (.int p0), .val (.int p1), .val (.int p2), .val (.int p3), .val (.int p4), .val (.int cA), .val (.int cB), .val (.int cC), .val (.ref la3), .val (.ref f1), .val (.ref b28), .val (.ref b104), .unset, .unset, .unset, .unset] [(.int (1 : Int32))])
  refine F_pop X178 at_90 rfl (pc' := 91) rfl ?_
  refine F_new X178 at_91 (hw _ (List.mem_of_getElem? (i := 102) rfl)) (hw _ (List.mem_of_getElem? (i := 103) rfl)) (hw _ (List.mem_of_getElem? (i := 104) rfl)) (by decide) (by decide) (pc' := 94) rfl ?_
  intro T191 b193 X192 hb194 K195 E196 D197
  have ne198 : la3 ≠ b193 := Nat.ne_of_lt (Nat.lt_of_lt_of_eq (OStr.lt Str_185) hb194.symm)
  have ne199 : lb4 ≠ b193 := Nat.ne_of_lt (Nat.lt_of_lt_of_eq (OStr.ltv Str_185) hb194.symm)
  have ne200 : f1 ≠ b193 := Nat.ne_of_lt (Nat.lt_of_lt_of_eq (OStr.lt Str_187) hb194.symm)
  have ne201 : t1 ≠ b193 := Nat.ne_of_lt (Nat.lt_of_lt_of_eq (OStr.ltv Str_187) hb194.symm)
  have ne202 : b45 ≠ b193 := Nat.ne_of_lt (Nat.lt_of_lt_of_eq Arv_188.lt hb194.symm)
  have ne203 : b28 ≠ b193 := Nat.ne_of_lt (Nat.lt_of_lt_of_eq (OStr.lt Str_189) hb194.symm)
  have ne204 : t89 ≠ b193 := Nat.ne_of_lt (Nat.lt_of_lt_of_eq (OStr.ltv Str_189) hb194.symm)
  have ne205 : b104 ≠ b193 := Nat.ne_of_lt (Nat.lt_of_lt_of_eq Exa_190.lt hb194.symm)
  have ne206 : dd ≠ b193 := Nat.ne_of_lt (Nat.lt_of_lt_of_eq V180.lt hb194.symm)
  have Str_207 := OStr.keep Str_185 K195 nin0 nin0
  have Fld_208 := Fld_186.keep K195 nin0
  have Str_209 := OStr.keep Str_187 K195 nin0 nin0
  have Arv_210 := Arv_188.keep K195 nin0
  have Str_211 := OStr.keep Str_189 K195 nin0 nin0
  have Exa_212 := Exa_190.keep K195
  have Fld_213 := G182.keep K195 nin0
  have Fld_214 := G183.keep K195 nin0
  have Fld_215 := G184.keep K195 nin0
  have Arv_216 := V180.keep K195 nin0
  have g217 : Z.heap.size ≤ b193 := Nat.le_trans X178.le (Nat.le_of_eq hb194.symm)
  have F218 : Fld Z T191.heap b193 "com/example/sakimono/sakimono/TextTable$Row" "line" "I" (.int (0 : Int32)) := D197 (Or.inr (hw _ (List.mem_of_getElem? (i := 115) rfl))) (ty := .int) (by decide)
  have F219 : Fld Z T191.heap b193 "com/example/sakimono/sakimono/TextTable$Row" "fields" "Ljava/util/List;" .null := D197 (Or.inr (hw _ (List.mem_of_getElem? (i := 117) rfl))) (ty := (.object "java/util/List")) (by decide)
  refine F_dup X192 at_94 rfl (pc' := 95) rfl ?_
  refine F_iloadN X192 at_95 rfl (pc' := 96) rfl ?_
  refine F_aload X192 at_96 rfl rfl (pc' := 98) rfl ?_
  refine F_special X192 (rm := rm_rinit) (a := b193) at_98 rfl rfl (hw _ (List.mem_of_getElem? (i := 105) rfl)) (hw _ (List.mem_of_getElem? (i := 106) rfl)) (hw _ (List.mem_of_getElem? (i := 107) rfl)) (by decide) (hw _ (List.mem_of_getElem? (i := 104) rfl)) (argsL := [(.int p0), (.ref b104)]) (st := [(.ref b193)]) rfl (ct_rinit l Z a0 hw G1 G3 OS hEL hSA b193 b104 p0 X192.old E196 F218 F219 g217) (lenOf (pd_18) rfl) rfl (by decide) (by decide) (by decide) (Nat.le_of_ble_eq_true rfl) [b193] (fun _ _ q => q.2.1) (sfS (Safe.exa X192.al E196 (by decide) (by decide)) (sf0))  (pc' := 101) rfl ?_
  intro T220 _ X221 hQ222
  obtain ⟨rfl, K223, G224⟩ := hQ222
  have Str_225 := OStr.keep Str_207 K223 (ninS ne198 nin0) (ninS ne199 nin0)
  have Fld_226 := Fld_208.keep K223 (ninS ne198 nin0)
  have Str_227 := OStr.keep Str_209 K223 (ninS ne200 nin0) (ninS ne201 nin0)
  have Arv_228 := Arv_210.keep K223 (ninS ne202 nin0)
  have Str_229 := OStr.keep Str_211 K223 (ninS ne203 nin0) (ninS ne204 nin0)
  have Exa_230 := Exa_212.keep K223
  have Fld_231 := Fld_213.keep K223 (ninS ne205 nin0)
  have Fld_232 := Fld_214.keep K223 (ninS ne205 nin0)
  have Fld_233 := Fld_215.keep K223 (ninS ne205 nin0)
  have Arv_234 := Arv_216.keep K223 (ninS ne206 nin0)
  have Exa_235 := E196.keep K223
  show EndW p e below s Z _ _ _ T220 (mkF m 101 #[.val (.int p0), .val (.int p1), .val (.int p2), .val (.int p3), .val (.int p4), .val (.int cA), .val (.int cB), .val (.int cC), .val (.ref la3), .val (.ref f1), .val (.ref b28), .val (.ref b104), .unset, .unset, .unset, .unset] [(.ref b193)])
  refine F_astore X221 at_101 rfl (l' := #[.val (.int p0), .val (.int p1), .val (.int p2), .val (.int p3), .val (.int p4), .val (.int cA), .val (.int cB), .val (.int cC), .val (.ref la3), .val (.ref f1), .val (.ref b28), .val (.ref b104), .val (.ref b193), .unset, .unset, .unset]) rfl (pc' := 103) rfl ?_
  refine F_iloadN X221 at_103 rfl (pc' := 104) rfl ?_
  refine F_ldcI X221 (v := (2147483647 : Int32)) at_104 (hw _ (List.mem_of_getElem? (i := 118) rfl)) (pc' := 106) rfl ?_
  refine F_iand X221 at_106 rfl (pc' := 107) rfl ?_
  refine F_iconst X221 (v := (3 : Int32)) at_107 rfl (pc' := 108) rfl ?_
  refine F_irem X221 (v := kk) at_108 (by decide) hk (pc' := 109) rfl ?_
  refine F_istore X221 at_109 (l' := #[.val (.int p0), .val (.int p1), .val (.int p2), .val (.int p3), .val (.int p4), .val (.int cA), .val (.int cB), .val (.int cC), .val (.ref la3), .val (.ref f1), .val (.ref b28), .val (.ref b104), .val (.ref b193), .val (.int kk), .unset, .unset]) rfl (pc' := 111) rfl ?_
  rcases hkk with rfl | rfl | rfl
  · skip
    show EndW p e below s Z _ _ _ T220 (mkF m 111 #[.val (.int p0), .val (.int p1), .val (.int p2), .val (.int p3), .val (.int p4), .val (.int cA), .val (.int cB), .val (.int cC), .val (.ref la3), .val (.ref f1), .val (.ref b28), .val (.ref b104), .val (.ref b193), .val (.int (0 : Int32)), .unset, .unset] [])
    refine F_aload X221 at_111 rfl rfl (pc' := 113) rfl ?_
    refine F_iload X221 at_113 rfl (pc' := 115) rfl ?_
    refine F_virtual X221 (rm := rm_rfield) (a := b193) (D := "com/example/sakimono/sakimono/TextTable$Row") at_115 (hw _ (List.mem_of_getElem? (i := 119) rfl)) (hw _ (List.mem_of_getElem? (i := 120) rfl)) (hw _ (List.mem_of_getElem? (i := 122) rfl)) (hw _ (List.mem_of_getElem? (i := 121) rfl)) (notFace_of_selects (args := #[]) (mvT X221.hZ (hw _ (List.mem_of_getElem? (i := 122) rfl)))) (by decide) Exa_235 (hw _ (List.mem_of_getElem? (i := 104) rfl)) (hw _ (List.mem_of_getElem? (i := 123) rfl)) (argsL := [(.int (0 : Int32))]) (st := []) rfl (ct_rfield l Z a0 hw G1 G3 OS hEL hSA b193 b104 dd la3 kA 0 3 [Value.ref la3, Value.ref f1, Value.ref b28] X221.old G224 (OStr.exa Str_225) (by decide) (by decide) rfl Exa_230 Fld_231 Fld_232 Arv_234) (lenOf (pd_19) rfl) rfl (by decide) (by decide) (by decide) (Nat.le_of_ble_eq_true rfl) [] (fun _ _ q => by obtain ⟨_, e⟩ := q; exact own_ks e) (sf0)  (pc' := 118) rfl ?_
    intro T236 _ X237 hQ238
    obtain ⟨rfl, e239⟩ := hQ238
    rw [← e239] at Str_225 Fld_226 Str_227 Arv_228 Str_229 Exa_230 Fld_231 Fld_232 Fld_233 Arv_234 Exa_235 G224
    show EndW p e below s Z _ _ _ T236 (mkF m 118 #[.val (.int p0), .val (.int p1), .val (.int p2), .val (.int p3), .val (.int p4), .val (.int cA), .val (.int cB), .val (.int cC), .val (.ref la3), .val (.ref f1), .val (.ref b28), .val (.ref b104), .val (.ref b193), .val (.int (0 : Int32)), .unset, .unset] [(.ref la3)])
    refine F_astore X237 at_118 rfl (l' := #[.val (.int p0), .val (.int p1), .val (.int p2), .val (.int p3), .val (.int p4), .val (.int cA), .val (.int cB), .val (.int cC), .val (.ref la3), .val (.ref f1), .val (.ref b28), .val (.ref b104), .val (.ref b193), .val (.int (0 : Int32)), .val (.ref la3), .unset]) rfl (pc' := 120) rfl ?_
    refine F_iload X237 at_120 rfl (pc' := 122) rfl ?_
    refine F_ifF X237 at_122 (XT.i0_ne_f (by decide)) (pc' := 125) rfl ?_
    refine F_aload X237 at_125 rfl rfl (pc' := 127) rfl ?_
    refine F_astore X237 at_127 rfl (l' := #[.val (.int p0), .val (.int p1), .val (.int p2), .val (.int p3), .val (.int p4), .val (.int cA), .val (.int cB), .val (.int cC), .val (.ref la3), .val (.ref f1), .val (.ref b28), .val (.ref b104), .val (.ref b193), .val (.int (0 : Int32)), .val (.ref la3), .val (.ref la3)]) rfl (pc' := 129) rfl ?_
    refine F_goto X237 at_129 (pc' := 149) (by decide) rfl ?_
    refine F_aload X237 at_149 rfl rfl (pc' := 151) rfl ?_
    refine F_nullF X237 at_151 (pc' := 154) rfl ?_
    refine F_aload X237 at_154 rfl rfl (pc' := 156) rfl ?_
    refine F_aload X237 at_156 rfl rfl (pc' := 158) rfl ?_
    refine F_virtual X237 (rm := rm_seqs) (a := la3) (D := "java/lang/String") at_158 (hw _ (List.mem_of_getElem? (i := 147) rfl)) (hw _ (List.mem_of_getElem? (i := 148) rfl)) (hw _ (List.mem_of_getElem? (i := 150) rfl)) (hw _ (List.mem_of_getElem? (i := 149) rfl)) (notFace_of_selects (args := #[]) (mvT X237.hZ (hw _ (List.mem_of_getElem? (i := 150) rfl)))) (by decide) (OStr.exa Str_225) (hw _ (List.mem_of_getElem? (i := 1) rfl)) (hw _ (List.mem_of_getElem? (i := 151) rfl)) (argsL := [(.ref la3)]) (st := []) rfl (ct_seqs l Z a0 hw G1 G3 OS hEL hSA la3 X237.old) (lenOf (pd_17) rfl) rfl (by decide) (by decide) (by decide) (Nat.le_of_ble_eq_true rfl) [] (fun _ _ q => by obtain ⟨_, e⟩ := q; exact own_ks e) (sf0)  (pc' := 161) rfl ?_
    intro T240 _ X241 hQ242
    obtain ⟨rfl, e243⟩ := hQ242
    rw [← e243] at Str_225 Fld_226 Str_227 Arv_228 Str_229 Exa_230 Fld_231 Fld_232 Fld_233 Arv_234 Exa_235 G224
    show EndW p e below s Z _ _ _ T240 (mkF m 161 #[.val (.int p0), .val (.int p1), .val (.int p2), .val (.int p3), .val (.int p4), .val (.int cA), .val (.int cB), .val (.int cC), .val (.ref la3), .val (.ref f1), .val (.ref b28), .val (.ref b104), .val (.ref b193), .val (.int (0 : Int32)), .val (.ref la3), .val (.ref la3)] [(.int (1 : Int32))])
    refine F_ifF X241 at_161 (XT.i0_eq_f (by decide)) (pc' := 164) rfl ?_
    refine F_aload X241 at_164 rfl rfl (pc' := 166) rfl ?_
    refine F_virtual X241 (rm := rm_slen) (a := la3) (D := "java/lang/String") at_166 (hw _ (List.mem_of_getElem? (i := 152) rfl)) (hw _ (List.mem_of_getElem? (i := 153) rfl)) (hw _ (List.mem_of_getElem? (i := 155) rfl)) (hw _ (List.mem_of_getElem? (i := 154) rfl)) (notFace_of_selects (args := #[]) (mvT X241.hZ (hw _ (List.mem_of_getElem? (i := 155) rfl)))) (by decide) (OStr.exa Str_225) (hw _ (List.mem_of_getElem? (i := 1) rfl)) (hw _ (List.mem_of_getElem? (i := 156) rfl)) (argsL := []) (st := []) rfl (ct_slen l Z a0 hw G1 G3 OS hEL hSA la3 lb4 ([]) X241.old Str_225) (lenOf (pd_20) rfl) rfl (by decide) (by decide) (by decide) (Nat.le_of_ble_eq_true rfl) [] (fun _ _ q => by obtain ⟨_, e⟩ := q; exact own_ks e) (sf0)  (pc' := 169) rfl ?_
    intro T244 _ X245 hQ246
    obtain ⟨rfl, e247⟩ := hQ246
    rw [← e247] at Str_225 Fld_226 Str_227 Arv_228 Str_229 Exa_230 Fld_231 Fld_232 Fld_233 Arv_234 Exa_235 G224
    show EndW p e below s Z _ _ _ T244 (mkF m 169 #[.val (.int p0), .val (.int p1), .val (.int p2), .val (.int p3), .val (.int p4), .val (.int cA), .val (.int cB), .val (.int cC), .val (.ref la3), .val (.ref f1), .val (.ref b28), .val (.ref b104), .val (.ref b193), .val (.int (0 : Int32)), .val (.ref la3), .val (.ref la3)] [(.int (Int32.ofNat (([])).length))])
    refine F_iload X245 at_169 rfl (pc' := 171) rfl ?_
    refine F_icF X245 at_171 (XT.ii_ne_f rfl) (pc' := 174) rfl ?_
    refine F_iconst X245 (v := (1 : Int32)) at_174 rfl (pc' := 175) rfl ?_
    refine F_goto X245 at_175 (pc' := 179) (by decide) rfl ?_
    exact F_ireturnN X245 (t := .boolean) at_179 rfl (by simp) (by decide) (by decide) (rfl)
  · skip
    show EndW p e below s Z _ _ _ T220 (mkF m 111 #[.val (.int p0), .val (.int p1), .val (.int p2), .val (.int p3), .val (.int p4), .val (.int cA), .val (.int cB), .val (.int cC), .val (.ref la3), .val (.ref f1), .val (.ref b28), .val (.ref b104), .val (.ref b193), .val (.int (1 : Int32)), .unset, .unset] [])
    refine F_aload X221 at_111 rfl rfl (pc' := 113) rfl ?_
    refine F_iload X221 at_113 rfl (pc' := 115) rfl ?_
    refine F_virtual X221 (rm := rm_rfield) (a := b193) (D := "com/example/sakimono/sakimono/TextTable$Row") at_115 (hw _ (List.mem_of_getElem? (i := 119) rfl)) (hw _ (List.mem_of_getElem? (i := 120) rfl)) (hw _ (List.mem_of_getElem? (i := 122) rfl)) (hw _ (List.mem_of_getElem? (i := 121) rfl)) (notFace_of_selects (args := #[]) (mvT X221.hZ (hw _ (List.mem_of_getElem? (i := 122) rfl)))) (by decide) Exa_235 (hw _ (List.mem_of_getElem? (i := 104) rfl)) (hw _ (List.mem_of_getElem? (i := 123) rfl)) (argsL := [(.int (1 : Int32))]) (st := []) rfl (ct_rfield l Z a0 hw G1 G3 OS hEL hSA b193 b104 dd f1 kA 1 3 [Value.ref la3, Value.ref f1, Value.ref b28] X221.old G224 (OStr.exa Str_227) (by decide) (by decide) rfl Exa_230 Fld_231 Fld_232 Arv_234) (lenOf (pd_19) rfl) rfl (by decide) (by decide) (by decide) (Nat.le_of_ble_eq_true rfl) [] (fun _ _ q => by obtain ⟨_, e⟩ := q; exact own_ks e) (sf0)  (pc' := 118) rfl ?_
    intro T248 _ X249 hQ250
    obtain ⟨rfl, e251⟩ := hQ250
    rw [← e251] at Str_225 Fld_226 Str_227 Arv_228 Str_229 Exa_230 Fld_231 Fld_232 Fld_233 Arv_234 Exa_235 G224
    show EndW p e below s Z _ _ _ T248 (mkF m 118 #[.val (.int p0), .val (.int p1), .val (.int p2), .val (.int p3), .val (.int p4), .val (.int cA), .val (.int cB), .val (.int cC), .val (.ref la3), .val (.ref f1), .val (.ref b28), .val (.ref b104), .val (.ref b193), .val (.int (1 : Int32)), .unset, .unset] [(.ref f1)])
    refine F_astore X249 at_118 rfl (l' := #[.val (.int p0), .val (.int p1), .val (.int p2), .val (.int p3), .val (.int p4), .val (.int cA), .val (.int cB), .val (.int cC), .val (.ref la3), .val (.ref f1), .val (.ref b28), .val (.ref b104), .val (.ref b193), .val (.int (1 : Int32)), .val (.ref f1), .unset]) rfl (pc' := 120) rfl ?_
    refine F_iload X249 at_120 rfl (pc' := 122) rfl ?_
    refine F_ifT X249 at_122 (XT.i0_ne_t (by decide)) (pc' := 132) (by decide) rfl ?_
    refine F_iload X249 at_132 rfl (pc' := 134) rfl ?_
    refine F_iconst X249 (v := (1 : Int32)) at_134 rfl (pc' := 135) rfl ?_
    refine F_icF X249 at_135 (XT.ii_ne_f (by decide)) (pc' := 138) rfl ?_
    refine F_aload X249 at_138 rfl rfl (pc' := 140) rfl ?_
    refine F_astore X249 at_140 rfl (l' := #[.val (.int p0), .val (.int p1), .val (.int p2), .val (.int p3), .val (.int p4), .val (.int cA), .val (.int cB), .val (.int cC), .val (.ref la3), .val (.ref f1), .val (.ref b28), .val (.ref b104), .val (.ref b193), .val (.int (1 : Int32)), .val (.ref f1), .val (.ref f1)]) rfl (pc' := 142) rfl ?_
    refine F_goto X249 at_142 (pc' := 149) (by decide) rfl ?_
    refine F_aload X249 at_149 rfl rfl (pc' := 151) rfl ?_
    refine F_nullF X249 at_151 (pc' := 154) rfl ?_
    refine F_aload X249 at_154 rfl rfl (pc' := 156) rfl ?_
    refine F_aload X249 at_156 rfl rfl (pc' := 158) rfl ?_
    refine F_virtual X249 (rm := rm_seqs) (a := f1) (D := "java/lang/String") at_158 (hw _ (List.mem_of_getElem? (i := 147) rfl)) (hw _ (List.mem_of_getElem? (i := 148) rfl)) (hw _ (List.mem_of_getElem? (i := 150) rfl)) (hw _ (List.mem_of_getElem? (i := 149) rfl)) (notFace_of_selects (args := #[]) (mvT X249.hZ (hw _ (List.mem_of_getElem? (i := 150) rfl)))) (by decide) (OStr.exa Str_227) (hw _ (List.mem_of_getElem? (i := 1) rfl)) (hw _ (List.mem_of_getElem? (i := 151) rfl)) (argsL := [(.ref f1)]) (st := []) rfl (ct_seqs l Z a0 hw G1 G3 OS hEL hSA f1 X249.old) (lenOf (pd_17) rfl) rfl (by decide) (by decide) (by decide) (Nat.le_of_ble_eq_true rfl) [] (fun _ _ q => by obtain ⟨_, e⟩ := q; exact own_ks e) (sf0)  (pc' := 161) rfl ?_
    intro T252 _ X253 hQ254
    obtain ⟨rfl, e255⟩ := hQ254
    rw [← e255] at Str_225 Fld_226 Str_227 Arv_228 Str_229 Exa_230 Fld_231 Fld_232 Fld_233 Arv_234 Exa_235 G224
    show EndW p e below s Z _ _ _ T252 (mkF m 161 #[.val (.int p0), .val (.int p1), .val (.int p2), .val (.int p3), .val (.int p4), .val (.int cA), .val (.int cB), .val (.int cC), .val (.ref la3), .val (.ref f1), .val (.ref b28), .val (.ref b104), .val (.ref b193), .val (.int (1 : Int32)), .val (.ref f1), .val (.ref f1)] [(.int (1 : Int32))])
    refine F_ifF X253 at_161 (XT.i0_eq_f (by decide)) (pc' := 164) rfl ?_
    refine F_aload X253 at_164 rfl rfl (pc' := 166) rfl ?_
    refine F_virtual X253 (rm := rm_slen) (a := f1) (D := "java/lang/String") at_166 (hw _ (List.mem_of_getElem? (i := 152) rfl)) (hw _ (List.mem_of_getElem? (i := 153) rfl)) (hw _ (List.mem_of_getElem? (i := 155) rfl)) (hw _ (List.mem_of_getElem? (i := 154) rfl)) (notFace_of_selects (args := #[]) (mvT X253.hZ (hw _ (List.mem_of_getElem? (i := 155) rfl)))) (by decide) (OStr.exa Str_227) (hw _ (List.mem_of_getElem? (i := 1) rfl)) (hw _ (List.mem_of_getElem? (i := 156) rfl)) (argsL := []) (st := []) rfl (ct_slen l Z a0 hw G1 G3 OS hEL hSA f1 t1 ([cA]) X253.old Str_227) (lenOf (pd_20) rfl) rfl (by decide) (by decide) (by decide) (Nat.le_of_ble_eq_true rfl) [] (fun _ _ q => by obtain ⟨_, e⟩ := q; exact own_ks e) (sf0)  (pc' := 169) rfl ?_
    intro T256 _ X257 hQ258
    obtain ⟨rfl, e259⟩ := hQ258
    rw [← e259] at Str_225 Fld_226 Str_227 Arv_228 Str_229 Exa_230 Fld_231 Fld_232 Fld_233 Arv_234 Exa_235 G224
    show EndW p e below s Z _ _ _ T256 (mkF m 169 #[.val (.int p0), .val (.int p1), .val (.int p2), .val (.int p3), .val (.int p4), .val (.int cA), .val (.int cB), .val (.int cC), .val (.ref la3), .val (.ref f1), .val (.ref b28), .val (.ref b104), .val (.ref b193), .val (.int (1 : Int32)), .val (.ref f1), .val (.ref f1)] [(.int (Int32.ofNat (([cA])).length))])
    refine F_iload X257 at_169 rfl (pc' := 171) rfl ?_
    refine F_icF X257 at_171 (XT.ii_ne_f rfl) (pc' := 174) rfl ?_
    refine F_iconst X257 (v := (1 : Int32)) at_174 rfl (pc' := 175) rfl ?_
    refine F_goto X257 at_175 (pc' := 179) (by decide) rfl ?_
    exact F_ireturnN X257 (t := .boolean) at_179 rfl (by simp) (by decide) (by decide) (rfl)
  · skip
    show EndW p e below s Z _ _ _ T220 (mkF m 111 #[.val (.int p0), .val (.int p1), .val (.int p2), .val (.int p3), .val (.int p4), .val (.int cA), .val (.int cB), .val (.int cC), .val (.ref la3), .val (.ref f1), .val (.ref b28), .val (.ref b104), .val (.ref b193), .val (.int (2 : Int32)), .unset, .unset] [])
    refine F_aload X221 at_111 rfl rfl (pc' := 113) rfl ?_
    refine F_iload X221 at_113 rfl (pc' := 115) rfl ?_
    refine F_virtual X221 (rm := rm_rfield) (a := b193) (D := "com/example/sakimono/sakimono/TextTable$Row") at_115 (hw _ (List.mem_of_getElem? (i := 119) rfl)) (hw _ (List.mem_of_getElem? (i := 120) rfl)) (hw _ (List.mem_of_getElem? (i := 122) rfl)) (hw _ (List.mem_of_getElem? (i := 121) rfl)) (notFace_of_selects (args := #[]) (mvT X221.hZ (hw _ (List.mem_of_getElem? (i := 122) rfl)))) (by decide) Exa_235 (hw _ (List.mem_of_getElem? (i := 104) rfl)) (hw _ (List.mem_of_getElem? (i := 123) rfl)) (argsL := [(.int (2 : Int32))]) (st := []) rfl (ct_rfield l Z a0 hw G1 G3 OS hEL hSA b193 b104 dd b28 kA 2 3 [Value.ref la3, Value.ref f1, Value.ref b28] X221.old G224 (OStr.exa Str_229) (by decide) (by decide) rfl Exa_230 Fld_231 Fld_232 Arv_234) (lenOf (pd_19) rfl) rfl (by decide) (by decide) (by decide) (Nat.le_of_ble_eq_true rfl) [] (fun _ _ q => by obtain ⟨_, e⟩ := q; exact own_ks e) (sf0)  (pc' := 118) rfl ?_
    intro T260 _ X261 hQ262
    obtain ⟨rfl, e263⟩ := hQ262
    rw [← e263] at Str_225 Fld_226 Str_227 Arv_228 Str_229 Exa_230 Fld_231 Fld_232 Fld_233 Arv_234 Exa_235 G224
    show EndW p e below s Z _ _ _ T260 (mkF m 118 #[.val (.int p0), .val (.int p1), .val (.int p2), .val (.int p3), .val (.int p4), .val (.int cA), .val (.int cB), .val (.int cC), .val (.ref la3), .val (.ref f1), .val (.ref b28), .val (.ref b104), .val (.ref b193), .val (.int (2 : Int32)), .unset, .unset] [(.ref b28)])
    refine F_astore X261 at_118 rfl (l' := #[.val (.int p0), .val (.int p1), .val (.int p2), .val (.int p3), .val (.int p4), .val (.int cA), .val (.int cB), .val (.int cC), .val (.ref la3), .val (.ref f1), .val (.ref b28), .val (.ref b104), .val (.ref b193), .val (.int (2 : Int32)), .val (.ref b28), .unset]) rfl (pc' := 120) rfl ?_
    refine F_iload X261 at_120 rfl (pc' := 122) rfl ?_
    refine F_ifT X261 at_122 (XT.i0_ne_t (by decide)) (pc' := 132) (by decide) rfl ?_
    refine F_iload X261 at_132 rfl (pc' := 134) rfl ?_
    refine F_iconst X261 (v := (1 : Int32)) at_134 rfl (pc' := 135) rfl ?_
    refine F_icT X261 at_135 (XT.ii_ne_t (by decide)) (pc' := 145) (by decide) rfl ?_
    refine F_aload X261 at_145 rfl rfl (pc' := 147) rfl ?_
    refine F_astore X261 at_147 rfl (l' := #[.val (.int p0), .val (.int p1), .val (.int p2), .val (.int p3), .val (.int p4), .val (.int cA), .val (.int cB), .val (.int cC), .val (.ref la3), .val (.ref f1), .val (.ref b28), .val (.ref b104), .val (.ref b193), .val (.int (2 : Int32)), .val (.ref b28), .val (.ref b28)]) rfl (pc' := 149) rfl ?_
    refine F_aload X261 at_149 rfl rfl (pc' := 151) rfl ?_
    refine F_nullF X261 at_151 (pc' := 154) rfl ?_
    refine F_aload X261 at_154 rfl rfl (pc' := 156) rfl ?_
    refine F_aload X261 at_156 rfl rfl (pc' := 158) rfl ?_
    refine F_virtual X261 (rm := rm_seqs) (a := b28) (D := "java/lang/String") at_158 (hw _ (List.mem_of_getElem? (i := 147) rfl)) (hw _ (List.mem_of_getElem? (i := 148) rfl)) (hw _ (List.mem_of_getElem? (i := 150) rfl)) (hw _ (List.mem_of_getElem? (i := 149) rfl)) (notFace_of_selects (args := #[]) (mvT X261.hZ (hw _ (List.mem_of_getElem? (i := 150) rfl)))) (by decide) (OStr.exa Str_229) (hw _ (List.mem_of_getElem? (i := 1) rfl)) (hw _ (List.mem_of_getElem? (i := 151) rfl)) (argsL := [(.ref b28)]) (st := []) rfl (ct_seqs l Z a0 hw G1 G3 OS hEL hSA b28 X261.old) (lenOf (pd_17) rfl) rfl (by decide) (by decide) (by decide) (Nat.le_of_ble_eq_true rfl) [] (fun _ _ q => by obtain ⟨_, e⟩ := q; exact own_ks e) (sf0)  (pc' := 161) rfl ?_
    intro T264 _ X265 hQ266
    obtain ⟨rfl, e267⟩ := hQ266
    rw [← e267] at Str_225 Fld_226 Str_227 Arv_228 Str_229 Exa_230 Fld_231 Fld_232 Fld_233 Arv_234 Exa_235 G224
    show EndW p e below s Z _ _ _ T264 (mkF m 161 #[.val (.int p0), .val (.int p1), .val (.int p2), .val (.int p3), .val (.int p4), .val (.int cA), .val (.int cB), .val (.int cC), .val (.ref la3), .val (.ref f1), .val (.ref b28), .val (.ref b104), .val (.ref b193), .val (.int (2 : Int32)), .val (.ref b28), .val (.ref b28)] [(.int (1 : Int32))])
    refine F_ifF X265 at_161 (XT.i0_eq_f (by decide)) (pc' := 164) rfl ?_
    refine F_aload X265 at_164 rfl rfl (pc' := 166) rfl ?_
    refine F_virtual X265 (rm := rm_slen) (a := b28) (D := "java/lang/String") at_166 (hw _ (List.mem_of_getElem? (i := 152) rfl)) (hw _ (List.mem_of_getElem? (i := 153) rfl)) (hw _ (List.mem_of_getElem? (i := 155) rfl)) (hw _ (List.mem_of_getElem? (i := 154) rfl)) (notFace_of_selects (args := #[]) (mvT X265.hZ (hw _ (List.mem_of_getElem? (i := 155) rfl)))) (by decide) (OStr.exa Str_229) (hw _ (List.mem_of_getElem? (i := 1) rfl)) (hw _ (List.mem_of_getElem? (i := 156) rfl)) (argsL := []) (st := []) rfl (ct_slen l Z a0 hw G1 G3 OS hEL hSA b28 t89 ([cB, cC]) X265.old Str_229) (lenOf (pd_20) rfl) rfl (by decide) (by decide) (by decide) (Nat.le_of_ble_eq_true rfl) [] (fun _ _ q => by obtain ⟨_, e⟩ := q; exact own_ks e) (sf0)  (pc' := 169) rfl ?_
    intro T268 _ X269 hQ270
    obtain ⟨rfl, e271⟩ := hQ270
    rw [← e271] at Str_225 Fld_226 Str_227 Arv_228 Str_229 Exa_230 Fld_231 Fld_232 Fld_233 Arv_234 Exa_235 G224
    show EndW p e below s Z _ _ _ T268 (mkF m 169 #[.val (.int p0), .val (.int p1), .val (.int p2), .val (.int p3), .val (.int p4), .val (.int cA), .val (.int cB), .val (.int cC), .val (.ref la3), .val (.ref f1), .val (.ref b28), .val (.ref b104), .val (.ref b193), .val (.int (2 : Int32)), .val (.ref b28), .val (.ref b28)] [(.int (Int32.ofNat (([cB, cC])).length))])
    refine F_iload X269 at_169 rfl (pc' := 171) rfl ?_
    refine F_icF X269 at_171 (XT.ii_ne_f rfl) (pc' := 174) rfl ?_
    refine F_iconst X269 (v := (1 : Int32)) at_174 rfl (pc' := 175) rfl ?_
    refine F_goto X269 at_175 (pc' := 179) (by decide) rfl ?_
    exact F_ireturnN X269 (t := .boolean) at_179 rfl (by simp) (by decide) (by decide) (rfl)
theorem own_arv {Z : State} {args : Array Value} {t : Term} {a : Addr} {c : Cell} {K : String} (hf : Fit Z) (A : Arr Z Z.heap a c (.object K)) (et : t.eval args Z none [] Z = some (.ref a)) (el : (Term.length t).eval args Z none [] Z = some (.int 0)) : Arv Z Z.heap a c.cls (.object K) (0 : Int32) [] .null := by
  by_cases q : c.slots.size < 2 ^ 31
  · have e := len_f et (A.fin (Vm.Alike.refl _)) q
    rw [el] at e
    exact Arv.start hf A q (Value.int.inj (Option.some.inj e)).symm (by decide) rfl trivial
  · simp [Term.eval, et, A.fin (Vm.Alike.refl _), q] at el
set_option maxRecDepth 65536 in
set_option maxHeartbeats 40000000 in
theorem comes_1 {Post : Tables → Env → Array Value → State → Outcome → State → Prop} (hpost : ∀ tb e args s v u, (limb_1_1.after args s (.returned v) u = true ∧ limb_1_2.after args s (.returned v) u = true ∧ True) → ReturnedEndW s (.returned v) u (Jvm.fieldLocs frame_1_writes args s ++ Jvm.arrayLocs frame_1_arrays args s ++ Jvm.staticLocs frame_1_statics s) 32 1152 → Post tb e args s (.returned v) u) :
    ArmFor flags0 classFile x code maxLocals ret World_1 tables_1 room_1 Calls_1 rest_1 Pre_1 Post := by
  intro l hfl _ _ p e ha hc hk s m args below hf hA hF happ hP
  obtain ⟨hcalls, hrest, hpre⟩ := hP
  obtain ⟨-, -, -, hnamed, -, -, -, hat⟩ := (Spec.applies_iff hf).mp happ
  obtain ⟨hg, hn⟩ := and_e (Cond.before_iff.mp (show (Jvm.Cond.and given_1 narrow_1).before args s = true from hpre))
  obtain ⟨hcnt, g0⟩ := and_e hg
  obtain ⟨i0, g1⟩ := and_e g0
  obtain ⟨i1, g2⟩ := and_e g1
  obtain ⟨i2, g3⟩ := and_e g2
  obtain ⟨i3, g4⟩ := and_e g3
  obtain ⟨w0, w1, w2, w3, w4, rfl⟩ : ∃ w0 w1 w2 w3 w4 : Value, args = #[w0, w1, w2, w3, w4] := by
    have hs : args.size = 5 := by simpa [Cond.value, given_1] using hcnt
    obtain ⟨L⟩ := args
    match L, hs with
    | [w0, w1, w2, w3, w4], _ => exact ⟨w0, w1, w2, w3, w4, rfl⟩
  have hw := fun d (hd : d ∈ tables_1) => atoms_spec (ws := Jvm.Cond.code x code maxLocals ret :: tables_1) hat d (List.mem_cons_of_mem _ hd)
  obtain ⟨hsets, hown0⟩ := atoms_of _ (rest_1_c_eq ▸ (show rest_1_c.before _ s = true from hrest))
  have hr0 := Cond.before_iff.mp hown0
  have hfit : Fit s := fun {y c} hc i hi => by
    obtain ⟨ha, rfl⟩ := Array.getElem?_eq_some_iff.mp hc
    have q := List.all_eq_true.mp ((Array.all_eq_true_iff_forall_mem.mp hF) _ (Array.getElem_mem ha)) i (List.mem_range.mpr hi)
    simpa [Array.getElem?_eq_getElem hi] using q
  obtain ⟨x0, ex0⟩ := is_v i0
  obtain rfl : w0 = (.int x0) := Option.some.inj ex0
  obtain ⟨x1, ex1⟩ := is_v i1
  obtain rfl : w1 = (.int x1) := Option.some.inj ex1
  obtain ⟨x2, ex2⟩ := is_v i2
  obtain rfl : w2 = (.int x2) := Option.some.inj ex2
  obtain ⟨x3, ex3⟩ := is_v i3
  obtain rfl : w3 = (.int x3) := Option.some.inj ex3
  obtain ⟨x4, ex4⟩ := is_v g4
  obtain rfl : w4 = (.int x4) := Option.some.inj ex4
  have n5 := not_v (Cond.before_iff.mp (hsets _ (List.mem_of_getElem? (i := 2) rfl)))
  obtain ⟨g1, eg1⟩ := is_v (Cond.before_iff.mp (hsets _ (List.mem_of_getElem? (i := 1) rfl)))
  have S12 : Sta s s.heap "java/lang/String" "COMPACT_STRINGS" "Z" (.int g1) := Sta.start eg1 (Or.inl (hsets _ (List.mem_of_getElem? (i := 0) rfl)))
  obtain ⟨g3, eg3, r15⟩ := isR_v (Cond.before_iff.mp (hsets _ (List.mem_of_getElem? (i := 8) rfl)))
  have S16 : Sta s s.heap "jdk/internal/util/Preconditions" "SIOOBE_FORMATTER" "Ljava/util/function/BiFunction;" g3 := Sta.start eg3 (Or.inl (hsets _ (List.mem_of_getElem? (i := 7) rfl)))
  have c17 : ¬ (g1 = (0 : Int32)) := gotF (Cond.eq_ints eg1 (Term.int_eval (0))) n5
  have xx3 := Cond.before_iff.mp (hsets _ (List.mem_of_getElem? (i := 15) rfl))
  obtain ⟨dc, edc⟩ := arr_v xx3
  have SD : Sta s s.heap "java/util/ArrayList" "DEFAULTCAPACITY_EMPTY_ELEMENTDATA" "[Ljava/lang/Object;" (.ref dc) := Sta.start edc (Or.inr ⟨(hw _ (List.mem_of_getElem? (i := 49) rfl)), (hsets _ (List.mem_of_getElem? (i := 11) rfl))⟩)
  obtain ⟨rc, AR⟩ := Arr.start edc xx3
  have xx5 := eqv_i (Term.int_eval 0) (Cond.before_iff.mp (hsets _ (List.mem_of_getElem? (i := 17) rfl)))
  have VD := own_arv hfit AR edc xx5
  have hEL : EW s #[(.int x0), (.int x1), (.int x2), (.int x3), (.int x4)] EL := by
    exact (EW.cons (hw _ (List.mem_of_getElem? (i := 0) rfl)) (by decide +kernel) EW.nil)
  have hSA : ∀ d ∈ Bundle.stringAtoms, d.before #[(.int x0), (.int x1), (.int x2), (.int x3), (.int x4)] s = true := fun d hd => hw d ((by decide +kernel : ∀ d ∈ Bundle.stringAtoms, d ∈ tables_1) d hd)
  have hCH : CHv s EL s.vm s.heap := CHv.start hEL (fun p hp => hcalls.1 p hp) (hsets _ (List.mem_of_getElem? (i := 2) rfl)) (hw _ (List.mem_of_getElem? (i := 3) rfl)) (hw _ (List.mem_of_getElem? (i := 2) rfl))
  obtain ⟨n, o, h1, h2, h3, _, L, rfl, ⟨N, -, rfl⟩, -, hq⟩ := ct_law l s _ hw x0 x1 x2 x3 x4 g1 g3 dc rc.cls ⟨Nat.le_refl _, fun _ _ q => q⟩ ⟨S12, c17, S16, r15⟩ hEL hSA SD VD tables_1 p e ha hc hk s m _ below hf ((Spec.applies_iff_loose hf).mp happ).1 ⟨rfl, State.Warmed39.refl s, rfl, hCH⟩ trivial
  refine ⟨n, _, h1, h2, h3, hpost _ _ _ _ _ _ ⟨Cond.after_iff.mpr rfl, Cond.after_iff.mpr (eq_i res_at (Term.int_eval (1)) rfl), trivial⟩ ⟨hq.1, hq.2.1, hq.2.2.1, (hq.2.2.2.sift fun y hy => Or.inr (N y hy)).mono (by decide) (by decide)⟩⟩
theorem main_1_1 : Claimed_1_1 := comes_1 fun _ _ _ _ _ _ h hF => ⟨h.1, hF⟩
theorem main_1_2 : Claimed_1_2 := comes_1 fun _ _ _ _ _ _ h hF => ⟨h.2.1, hF⟩
end Jvm.Pilot.@@N@@
namespace Jvm.Pilot.@@N@@
open Jvm Jvm.ClassFile Sem Op Lib Jvm.Free Jvm.Stand Jvm.Pilot.@@N@@.Jvm.D
/-! MADE BY PROGRAM (witnessworld.py) out of the Statement's table words and the real class files: 32 classes; the members and pool entries that the words name. The judged class is class 1, her method 1. -/
namespace start1
open Jvm.ClassFile
def u (s : String) : CpInfo := .utf8 (stringToUtf16 s)
/-- a pool by its gaps: so many unusable entries, then the entry; so many at the end -/
def gap : Nat → List CpInfo → List CpInfo
  | 0, r => r
  | n + 1, r => .unusable :: gap n r
def poolList (es : List (Nat × CpInfo)) (last : Nat) : List CpInfo := es.foldr (fun e r => gap e.1 (e.2 :: r)) (gap last [])
def pool (es : List (Nat × CpInfo)) (last : Nat) : Array CpInfo := ⟨poolList es last⟩
def fileOf (pool : Array CpInfo) (this : Nat) (attrs : Array Attribute := #[]) (ms : Array MethodInfo := #[]) (fl : Nat := 33) (sup : Nat := 0) (ifs : Array Nat := #[]) (fds : Array FieldInfo := #[]) : ClassFile where
  minorVersion := 0
  majorVersion := 65
  constantPool := pool
  accessFlags := fl
  thisClass := this
  superClass := sup
  interfaces := ifs
  fields := fds
  methods := ms
  attributes := attrs
def plain (name : String) (sup : Option ClassId) : Class where
  name := name
  kind := .ordinary
  loader := none
  accessFlags := 33
  super := sup
  interfaces := #[]
  cf := none
  fields := #[]
  methods := #[]
  instanceTypes := #[]
  staticTypes := #[]
  resolved := #[]
  callSites := []
  init := .initialized
  statics := none
  mirror := none

def pool0 : Array CpInfo := pool [(5, u "<init>"), (0, u "()V"), (1, .class_ 10), (1, u "java/lang/Object")] 113

def k0c0 : Code := { maxStack := 0, maxLocals := 1, code := object_method_1_code, exceptionTable := #[], attributes := #[] }
def k0m0 : Method := { name := "<init>", desc := "()V", sig := { parameters := [], returnType := none }, accessFlags := 1, code := some k0c0 }
/-- java/lang/Object -/
def k0 : Class := { plain "java/lang/Object" none with
  accessFlags := 33
  interfaces := #[]
  cf := some (fileOf pool0 8 #[] #[{ accessFlags := 1, nameIndex := 5, descriptorIndex := 6, attributes := #[] }] 33 0 #[] #[])
  fields := #[]
  methods := #[k0m0]
  instanceTypes := #[]
  staticTypes := #[]
  resolved := Array.replicate 124 none
  statics := none }

def pool1 : Array CpInfo := pool [(2, .class_ 4), (0, .nameAndType 5 6), (0, u "java/lang/Object"), (0, u "<init>"), (0, u "()V"), (0, .string 8), (0, u ""), (0, .methodref 10 11), (0, .class_ 12), (0, .nameAndType 13 14), (0, u "java/lang/String"), (0, u "valueOf"), (0, u "(C)Ljava/lang/String;"), (0, .methodref 10 16), (0, .nameAndType 5 17), (0, u "([C)V"), (0, .class_ 19), (0, u "java/util/ArrayList"), (0, .methodref 18 3), (0, .methodref 18 22), (0, .nameAndType 23 24), (0, u "add"), (0, u "(Ljava/lang/Object;)Z"), (0, .class_ 26), (0, u "com/example/sakimono/sakimono/TextTable$Row"), (0, .methodref 25 28), (0, .nameAndType 5 29), (0, u "(ILjava/util/List;)V"), (0, .integer 2147483647), (0, .methodref 25 32), (0, .nameAndType 33 34), (0, u "field"), (0, u "(I)Ljava/lang/String;"), (0, .methodref 10 36), (0, .nameAndType 37 24), (0, u "equals"), (0, .methodref 10 39), (0, .nameAndType 40 41), (0, u "length"), (0, u "()I"), (0, .class_ 43), (0, u "com/example/sakimono/sakimono/RowFieldPinLaw"), (2, u "law"), (0, u "(IIIII)Z")] 7

def k1m0 : Method := { name := "<init>", desc := "()V", sig := { parameters := [], returnType := none }, accessFlags := 1, code := none }
def k1c1 : Code := { maxStack := 6, maxLocals := 16, code := code, exceptionTable := #[], attributes := #[] }
def k1m1 : Method := { name := "law", desc := "(IIIII)Z", sig := { parameters := [.int, .int, .int, .int, .int], returnType := some .boolean }, accessFlags := 9, code := some k1c1 }
/-- com/example/sakimono/sakimono/RowFieldPinLaw -/
def k1 : Class := { plain "com/example/sakimono/sakimono/RowFieldPinLaw" (some 0) with
  accessFlags := 49
  interfaces := #[]
  cf := some (fileOf pool1 42 #[] #[{ accessFlags := 1, nameIndex := 5, descriptorIndex := 6, attributes := #[] }, { accessFlags := 9, nameIndex := 46, descriptorIndex := 47, attributes := #[] }] 49 2 #[] #[])
  fields := #[]
  methods := #[k1m0, k1m1]
  instanceTypes := #[]
  staticTypes := #[]
  resolved := Array.replicate 55 none
  statics := none }

def pool2 : Array CpInfo := pool [(1, .class_ 2), (0, u "java/io/Serializable"), (0, .class_ 4), (0, u "java/lang/Object")] 2

/-- java/io/Serializable -/
def k2 : Class := { plain "java/io/Serializable" (some 0) with
  accessFlags := 1537
  interfaces := #[]
  cf := some (fileOf pool2 1 #[] #[] 1537 3 #[] #[])
  fields := #[]
  methods := #[]
  instanceTypes := #[]
  staticTypes := #[]
  resolved := Array.replicate 7 none
  statics := none }

def pool3 : Array CpInfo := pool [(1, .class_ 2), (0, u "java/lang/Comparable"), (0, .class_ 4), (0, u "java/lang/Object")] 7

/-- java/lang/Comparable -/
def k3 : Class := { plain "java/lang/Comparable" (some 0) with
  accessFlags := 1537
  interfaces := #[]
  cf := some (fileOf pool3 1 #[] #[] 1537 3 #[] #[])
  fields := #[]
  methods := #[]
  instanceTypes := #[]
  staticTypes := #[]
  resolved := Array.replicate 12 none
  statics := none }

def pool4 : Array CpInfo := pool [(2, .class_ 4), (1, u "java/lang/CharSequence"), (42, .class_ 48), (0, u "java/lang/CharSequence$1CodePointIterator"), (10, .class_ 60), (0, u "java/lang/CharSequence$1CharIterator"), (5, .class_ 67), (0, u "java/lang/Object")] 63

/-- java/lang/CharSequence -/
def k4 : Class := { plain "java/lang/CharSequence" (some 0) with
  accessFlags := 1537
  interfaces := #[]
  cf := some (fileOf pool4 2 #[.nestMembers #[47, 59]] #[] 1537 66 #[] #[])
  fields := #[]
  methods := #[]
  instanceTypes := #[]
  staticTypes := #[]
  resolved := Array.replicate 131 none
  statics := none }

def pool5 : Array CpInfo := pool [(1, .class_ 2), (0, u "java/lang/constant/Constable"), (0, .class_ 4), (0, u "java/lang/Object")] 6

/-- java/lang/constant/Constable -/
def k5 : Class := { plain "java/lang/constant/Constable" (some 0) with
  accessFlags := 1537
  interfaces := #[]
  cf := some (fileOf pool5 1 #[] #[] 1537 3 #[] #[])
  fields := #[]
  methods := #[]
  instanceTypes := #[]
  staticTypes := #[]
  resolved := Array.replicate 11 none
  statics := none }

def pool6 : Array CpInfo := pool [(1, .class_ 2), (0, u "java/lang/constant/ConstantDesc"), (0, .class_ 4), (0, u "java/lang/Object")] 32

/-- java/lang/constant/ConstantDesc -/
def k6 : Class := { plain "java/lang/constant/ConstantDesc" (some 0) with
  accessFlags := 1537
  interfaces := #[]
  cf := some (fileOf pool6 1 #[] #[] 1537 3 #[] #[])
  fields := #[]
  methods := #[]
  instanceTypes := #[]
  staticTypes := #[]
  resolved := Array.replicate 37 none
  statics := none }

def pool7 : Array CpInfo := pool [(1, .methodref 2 3), (0, .class_ 4), (0, .nameAndType 5 6), (0, u "java/lang/Object"), (0, u "<init>"), (0, u "()V"), (2, .fieldref 10 11), (0, .class_ 12), (0, .nameAndType 13 14), (0, u "java/lang/String"), (0, u "value"), (0, u "[B"), (0, .fieldref 10 16), (0, .nameAndType 17 18), (0, u "coder"), (0, u "B"), (2, u "hash"), (0, u "I"), (2, u "hashIsZero"), (0, u "Z"), (0, .methodref 10 28), (0, .nameAndType 5 29), (0, u "([CIILjava/lang/Void;)V"), (8, .fieldref 10 39), (0, .nameAndType 40 26), (0, u "COMPACT_STRINGS"), (1, .class_ 44), (1, u "java/lang/StringUTF16"), (0, u "compress"), (1, .methodref 42 48), (0, .nameAndType 49 50), (0, u "coderFromArrayLen"), (0, u "([BI)B"), (2, u "toBytes"), (53, .class_ 109), (1, u "java/lang/StringLatin1"), (67, .methodref 42 178), (0, .nameAndType 45 179), (0, u "([CII)[B"), (29, .methodref 10 210), (0, .nameAndType 5 211), (0, u "([BB)V"), (122, u "()I"), (0, .methodref 10 336), (0, .nameAndType 17 337), (0, u "()B"), (31, u "(C)Z"), (137, u "length"), (35, u "equals"), (29, u "(Ljava/lang/Object;)Z"), (1, .class_ 576), (0, u "java/lang/CharSequence"), (22, u "CASE_INSENSITIVE_ORDER"), (0, u "Ljava/util/Comparator;"), (181, u "valueOf"), (0, u "(C)Ljava/lang/String;"), (226, u "([C)V"), (4, .methodref 107 1016), (0, .nameAndType 1017 369), (0, u "canEncode"), (0, .methodref 107 1019), (0, .nameAndType 53 1020), (0, u "(C)[B"), (80, u "serialPersistentFields"), (0, u "[Ljava/io/ObjectStreamField;"), (0, .class_ 1104), (0, u "java/lang/String$CaseInsensitiveComparator"), (1, .class_ 1107), (0, u "java/io/Serializable"), (0, .class_ 1109), (0, u "java/lang/Comparable"), (0, .class_ 1111), (0, u "java/lang/constant/Constable"), (0, .class_ 1113), (0, u "java/lang/constant/ConstantDesc"), (2, u "serialVersionUID"), (0, u "J"), (3, u "REPL"), (0, u "C"), (2, u "LATIN1"), (1, u "UTF16")] 323

def k7m0 : Method := { name := "<init>", desc := "()V", sig := { parameters := [], returnType := none }, accessFlags := 1, code := none }
def k7c1 : Code := { maxStack := 5, maxLocals := 2, code := jdk_42_method_3_code, exceptionTable := #[], attributes := #[] }
def k7m1 : Method := { name := "<init>", desc := "([C)V", sig := { parameters := [(.array .char)], returnType := none }, accessFlags := 1, code := some k7c1 }
def k7c2 : Code := { maxStack := 2, maxLocals := 1, code := jdk_42_method_54_code, exceptionTable := #[], attributes := #[] }
def k7m2 : Method := { name := "length", desc := "()I", sig := { parameters := [], returnType := some .int }, accessFlags := 1, code := some k7c2 }
def k7c3 : Code := { maxStack := 2, maxLocals := 3, code := jdk_42_method_66_code, exceptionTable := #[], attributes := #[] }
def k7m3 : Method := { name := "equals", desc := "(Ljava/lang/Object;)Z", sig := { parameters := [(.object "java/lang/Object")], returnType := some .boolean }, accessFlags := 1, code := some k7c3 }
def k7c4 : Code := { maxStack := 4, maxLocals := 1, code := jdk_42_method_139_code, exceptionTable := #[], attributes := #[] }
def k7m4 : Method := { name := "valueOf", desc := "(C)Ljava/lang/String;", sig := { parameters := [.char], returnType := some (.object "java/lang/String") }, accessFlags := 9, code := some k7c4 }
def k7c5 : Code := { maxStack := 4, maxLocals := 6, code := jdk_42_method_149_code, exceptionTable := #[], attributes := #[] }
def k7m5 : Method := { name := "<init>", desc := "([CIILjava/lang/Void;)V", sig := { parameters := [(.array .char), .int, .int, (.object "java/lang/Void")], returnType := none }, accessFlags := 2, code := some k7c5 }
def k7c6 : Code := { maxStack := 2, maxLocals := 3, code := jdk_42_method_151_code, exceptionTable := #[], attributes := #[] }
def k7m6 : Method := { name := "<init>", desc := "([BB)V", sig := { parameters := [(.array .byte), .byte], returnType := none }, accessFlags := 0, code := some k7c6 }
def k7c7 : Code := { maxStack := 1, maxLocals := 1, code := jdk_42_method_152_code, exceptionTable := #[], attributes := #[] }
def k7m7 : Method := { name := "coder", desc := "()B", sig := { parameters := [], returnType := some .byte }, accessFlags := 0, code := some k7c7 }
/-- java/lang/String -/
def k7 : Class := { plain "java/lang/String" (some 0) with
  accessFlags := 49
  interfaces := #[2, 3, 4, 5, 6]
  cf := some (fileOf pool7 10 #[.nestMembers #[1103]] #[{ accessFlags := 1, nameIndex := 5, descriptorIndex := 6, attributes := #[] }, { accessFlags := 1, nameIndex := 5, descriptorIndex := 1010, attributes := #[] }, { accessFlags := 1, nameIndex := 507, descriptorIndex := 334, attributes := #[] }, { accessFlags := 1, nameIndex := 543, descriptorIndex := 573, attributes := #[] }, { accessFlags := 9, nameIndex := 782, descriptorIndex := 783, attributes := #[] }, { accessFlags := 2, nameIndex := 5, descriptorIndex := 29, attributes := #[] }, { accessFlags := 0, nameIndex := 5, descriptorIndex := 211, attributes := #[] }, { accessFlags := 0, nameIndex := 17, descriptorIndex := 337, attributes := #[] }] 49 2 #[1106, 1108, 575, 1110, 1112] #[{ accessFlags := 18, nameIndex := 13, descriptorIndex := 14, attributes := #[] }, { accessFlags := 18, nameIndex := 17, descriptorIndex := 18, attributes := #[] }, { accessFlags := 2, nameIndex := 21, descriptorIndex := 22, attributes := #[] }, { accessFlags := 2, nameIndex := 25, descriptorIndex := 26, attributes := #[] }, { accessFlags := 26, nameIndex := 1116, descriptorIndex := 1117, attributes := #[] }, { accessFlags := 24, nameIndex := 40, descriptorIndex := 26, attributes := #[] }, { accessFlags := 26, nameIndex := 1101, descriptorIndex := 1102, attributes := #[] }, { accessFlags := 26, nameIndex := 1121, descriptorIndex := 1122, attributes := #[] }, { accessFlags := 25, nameIndex := 599, descriptorIndex := 600, attributes := #[] }, { accessFlags := 24, nameIndex := 1125, descriptorIndex := 18, attributes := #[] }, { accessFlags := 24, nameIndex := 1127, descriptorIndex := 18, attributes := #[] }])
  fields := #[{ name := "value", type := (.array .byte), accessFlags := 18, slot := 0, constantValue := 0 }, { name := "coder", type := .byte, accessFlags := 18, slot := 1, constantValue := 0 }, { name := "hash", type := .int, accessFlags := 2, slot := 2, constantValue := 0 }, { name := "hashIsZero", type := .boolean, accessFlags := 2, slot := 3, constantValue := 0 }, { name := "serialVersionUID", type := .long, accessFlags := 26, slot := 0, constantValue := 0 }, { name := "COMPACT_STRINGS", type := .boolean, accessFlags := 24, slot := 1, constantValue := 0 }, { name := "serialPersistentFields", type := (.array (.object "java/io/ObjectStreamField")), accessFlags := 26, slot := 2, constantValue := 0 }, { name := "REPL", type := .char, accessFlags := 26, slot := 3, constantValue := 0 }, { name := "CASE_INSENSITIVE_ORDER", type := (.object "java/util/Comparator"), accessFlags := 25, slot := 4, constantValue := 0 }, { name := "LATIN1", type := .byte, accessFlags := 24, slot := 5, constantValue := 0 }, { name := "UTF16", type := .byte, accessFlags := 24, slot := 6, constantValue := 0 }]
  methods := #[k7m0, k7m1, k7m2, k7m3, k7m4, k7m5, k7m6, k7m7]
  instanceTypes := #[(.array .byte), .byte, .int, .boolean]
  staticTypes := #[.long, .boolean, (.array (.object "java/io/ObjectStreamField")), .char, (.object "java/util/Comparator"), .byte, .byte]
  resolved := Array.replicate 1451 none
  statics := some 0 }

def pool8 : Array CpInfo := pool [(4, .class_ 6), (1, u "java/lang/Object"), (0, u "<init>"), (0, u "()V"), (5, .class_ 16), (1, u "java/lang/StringLatin1"), (73, u "canEncode"), (14, u "(C)Z"), (15, u "$assertionsDisabled"), (0, u "Z"), (98, .class_ 223), (1, u "java/lang/StringLatin1$LinesSpliterator"), (156, u "toBytes"), (1, u "(C)[B"), (7, .class_ 391), (0, u "java/lang/StringLatin1$CharsSpliterator")] 3

def k8m0 : Method := { name := "<init>", desc := "()V", sig := { parameters := [], returnType := none }, accessFlags := 0, code := none }
def k8c1 : Code := { maxStack := 2, maxLocals := 1, code := jdk_43_method_3_code, exceptionTable := #[], attributes := #[] }
def k8m1 : Method := { name := "canEncode", desc := "(C)Z", sig := { parameters := [.char], returnType := some .boolean }, accessFlags := 9, code := some k8c1 }
def k8c2 : Code := { maxStack := 4, maxLocals := 1, code := jdk_43_method_46_code, exceptionTable := #[], attributes := #[] }
def k8m2 : Method := { name := "toBytes", desc := "(C)[B", sig := { parameters := [.char], returnType := some (.array .byte) }, accessFlags := 9, code := some k8c2 }
/-- java/lang/StringLatin1 -/
def k8 : Class := { plain "java/lang/StringLatin1" (some 0) with
  accessFlags := 48
  interfaces := #[]
  cf := some (fileOf pool8 14 #[.nestMembers #[390, 221]] #[{ accessFlags := 0, nameIndex := 7, descriptorIndex := 8, attributes := #[] }, { accessFlags := 9, nameIndex := 90, descriptorIndex := 105, attributes := #[] }, { accessFlags := 9, nameIndex := 380, descriptorIndex := 382, attributes := #[] }] 48 4 #[] #[{ accessFlags := 4120, nameIndex := 121, descriptorIndex := 122, attributes := #[] }])
  fields := #[{ name := "$assertionsDisabled", type := .boolean, accessFlags := 4120, slot := 0, constantValue := 0 }]
  methods := #[k8m0, k8m1, k8m2]
  instanceTypes := #[]
  staticTypes := #[.boolean]
  resolved := Array.replicate 395 none
  statics := none }

def pool9 : Array CpInfo := pool [(6, .class_ 8), (1, u "java/lang/Object"), (0, u "<init>"), (0, u "()V"), (1, .class_ 14), (1, u "java/lang/StringUTF16"), (31, u "$assertionsDisabled"), (0, u "Z"), (13, u "HI_BYTE_SHIFT"), (0, u "I"), (2, u "LO_BYTE_SHIFT"), (49, .methodref 12 116), (0, .nameAndType 117 118), (0, u "compress"), (0, u "([CI[BII)I"), (3, u "([CII)[B"), (138, u "coderFromArrayLen"), (0, u "([BI)B"), (106, .class_ 371), (1, u "java/lang/StringUTF16$LinesSpliterator"), (58, u "MAX_LENGTH"), (196, .class_ 628), (0, u "java/lang/StringUTF16$CodePointsSpliterator"), (0, .class_ 630), (0, u "java/lang/StringUTF16$CharsSpliterator")] 4

def k9m0 : Method := { name := "<init>", desc := "()V", sig := { parameters := [], returnType := none }, accessFlags := 0, code := none }
def k9c1 : Code := { maxStack := 2, maxLocals := 2, code := jdk_52_method_15_code, exceptionTable := #[], attributes := #[] }
def k9m1 : Method := { name := "coderFromArrayLen", desc := "([BI)B", sig := { parameters := [(.array .byte), .int], returnType := some .byte }, accessFlags := 8, code := some k9c1 }
def k9c2 : Code := { maxStack := 5, maxLocals := 6, code := jdk_52_method_16_code, exceptionTable := #[], attributes := #[] }
def k9m2 : Method := { name := "compress", desc := "([CII)[B", sig := { parameters := [(.array .char), .int, .int], returnType := some (.array .byte) }, accessFlags := 9, code := some k9c2 }
def k9c3 : Code := { maxStack := 3, maxLocals := 7, code := jdk_52_method_21_code, exceptionTable := #[], attributes := #[] }
def k9m3 : Method := { name := "compress", desc := "([CI[BII)I", sig := { parameters := [(.array .char), .int, (.array .byte), .int, .int], returnType := some .int }, accessFlags := 9, code := some k9c3 }
/-- java/lang/StringUTF16 -/
def k9 : Class := { plain "java/lang/StringUTF16" (some 0) with
  accessFlags := 48
  interfaces := #[]
  cf := some (fileOf pool9 12 #[.nestMembers #[627, 629, 369]] #[{ accessFlags := 0, nameIndex := 9, descriptorIndex := 10, attributes := #[] }, { accessFlags := 8, nameIndex := 261, descriptorIndex := 262, attributes := #[] }, { accessFlags := 9, nameIndex := 117, descriptorIndex := 122, attributes := #[] }, { accessFlags := 9, nameIndex := 117, descriptorIndex := 118, attributes := #[] }] 48 6 #[] #[{ accessFlags := 26, nameIndex := 61, descriptorIndex := 62, attributes := #[] }, { accessFlags := 26, nameIndex := 65, descriptorIndex := 62, attributes := #[] }, { accessFlags := 24, nameIndex := 430, descriptorIndex := 62, attributes := #[] }, { accessFlags := 4120, nameIndex := 46, descriptorIndex := 47, attributes := #[] }])
  fields := #[{ name := "HI_BYTE_SHIFT", type := .int, accessFlags := 26, slot := 0, constantValue := 0 }, { name := "LO_BYTE_SHIFT", type := .int, accessFlags := 26, slot := 1, constantValue := 0 }, { name := "MAX_LENGTH", type := .int, accessFlags := 24, slot := 2, constantValue := 0 }, { name := "$assertionsDisabled", type := .boolean, accessFlags := 4120, slot := 3, constantValue := 0 }]
  methods := #[k9m0, k9m1, k9m2, k9m3]
  instanceTypes := #[]
  staticTypes := #[.int, .int, .int, .boolean]
  resolved := Array.replicate 635 none
  statics := none }

def pool10 : Array CpInfo := pool [(8, .class_ 10), (1, u "java/lang/Iterable"), (24, .class_ 36), (0, u "java/lang/Object")] 25

/-- java/lang/Iterable -/
def k10 : Class := { plain "java/lang/Iterable" (some 0) with
  accessFlags := 1537
  interfaces := #[]
  cf := some (fileOf pool10 8 #[] #[] 1537 35 #[] #[])
  fields := #[]
  methods := #[]
  instanceTypes := #[]
  staticTypes := #[]
  resolved := Array.replicate 62 none
  statics := none }

def pool11 : Array CpInfo := pool [(10, .class_ 12), (1, u "java/util/Collection"), (47, .class_ 61), (0, u "java/lang/Object"), (0, .class_ 63), (0, u "java/lang/Iterable")] 51

/-- java/util/Collection -/
def k11 : Class := { plain "java/util/Collection" (some 0) with
  accessFlags := 1537
  interfaces := #[10]
  cf := some (fileOf pool11 10 #[] #[] 1537 60 #[62] #[])
  fields := #[]
  methods := #[]
  instanceTypes := #[]
  staticTypes := #[]
  resolved := Array.replicate 115 none
  statics := none }

def pool12 : Array CpInfo := pool [(1, .methodref 2 3), (0, .class_ 4), (0, .nameAndType 5 6), (0, u "java/lang/Object"), (0, u "<init>"), (0, u "()V"), (1, .class_ 10), (1, u "java/util/AbstractCollection"), (66, .class_ 78), (0, u "java/util/Collection")] 81

def k12c0 : Code := { maxStack := 1, maxLocals := 1, code := jdk_22_method_1_code, exceptionTable := #[], attributes := #[] }
def k12m0 : Method := { name := "<init>", desc := "()V", sig := { parameters := [], returnType := none }, accessFlags := 4, code := some k12c0 }
/-- java/util/AbstractCollection -/
def k12 : Class := { plain "java/util/AbstractCollection" (some 0) with
  accessFlags := 1057
  interfaces := #[11]
  cf := some (fileOf pool12 8 #[] #[{ accessFlags := 4, nameIndex := 5, descriptorIndex := 6, attributes := #[] }] 1057 2 #[77] #[])
  fields := #[]
  methods := #[k12m0]
  instanceTypes := #[]
  staticTypes := #[]
  resolved := Array.replicate 160 none
  statics := none }

def pool13 : Array CpInfo := pool [(8, .class_ 10), (1, u "java/util/SequencedCollection"), (15, .class_ 27), (0, u "java/lang/Object"), (0, .class_ 29), (0, u "java/util/Collection")] 27

/-- java/util/SequencedCollection -/
def k13 : Class := { plain "java/util/SequencedCollection" (some 0) with
  accessFlags := 1537
  interfaces := #[11]
  cf := some (fileOf pool13 8 #[] #[] 1537 26 #[28] #[])
  fields := #[]
  methods := #[]
  instanceTypes := #[]
  staticTypes := #[]
  resolved := Array.replicate 57 none
  statics := none }

def pool14 : Array CpInfo := pool [(8, .class_ 10), (1, u "java/util/List"), (64, u "get"), (0, u "(I)Ljava/lang/Object;"), (26, .class_ 104), (0, u "java/lang/Object"), (15, .class_ 121), (0, u "java/util/SequencedCollection")] 129

def k14m0 : Method := { name := "get", desc := "(I)Ljava/lang/Object;", sig := { parameters := [.int], returnType := some (.object "java/lang/Object") }, accessFlags := 1025, code := none }
/-- java/util/List -/
def k14 : Class := { plain "java/util/List" (some 0) with
  accessFlags := 1537
  interfaces := #[13]
  cf := some (fileOf pool14 8 #[] #[{ accessFlags := 1025, nameIndex := 75, descriptorIndex := 76, attributes := #[] }] 1537 103 #[120] #[])
  fields := #[]
  methods := #[k14m0]
  instanceTypes := #[]
  staticTypes := #[]
  resolved := Array.replicate 251 none
  statics := none }

def pool15 : Array CpInfo := pool [(1, .methodref 2 3), (0, .class_ 4), (0, .nameAndType 5 6), (0, u "java/util/AbstractCollection"), (0, u "<init>"), (0, u "()V"), (0, .fieldref 8 9), (0, .class_ 10), (0, .nameAndType 11 12), (0, u "java/util/AbstractList"), (0, u "modCount"), (0, u "I"), (64, .class_ 78), (0, u "java/util/AbstractList$Itr"), (3, .class_ 83), (0, u "java/util/AbstractList$ListItr"), (9, .class_ 94), (0, u "java/util/AbstractList$RandomAccessSubList"), (3, .class_ 99), (0, u "java/util/AbstractList$SubList"), (33, .class_ 134), (0, u "java/util/List"), (73, .class_ 209), (0, u "java/util/AbstractList$SubList$1"), (0, .class_ 211), (0, u "java/util/AbstractList$RandomAccessSpliterator")] 6

def k15c0 : Code := { maxStack := 2, maxLocals := 1, code := jdk_39_method_1_code, exceptionTable := #[], attributes := #[] }
def k15m0 : Method := { name := "<init>", desc := "()V", sig := { parameters := [], returnType := none }, accessFlags := 4, code := some k15c0 }
/-- java/util/AbstractList -/
def k15 : Class := { plain "java/util/AbstractList" (some 12) with
  accessFlags := 1057
  interfaces := #[14]
  cf := some (fileOf pool15 8 #[.nestMembers #[93, 98, 208, 210, 82, 77]] #[{ accessFlags := 4, nameIndex := 5, descriptorIndex := 6, attributes := #[] }] 1057 2 #[133] #[{ accessFlags := 132, nameIndex := 11, descriptorIndex := 12, attributes := #[] }])
  fields := #[{ name := "modCount", type := .int, accessFlags := 132, slot := 0, constantValue := 0 }]
  methods := #[k15m0]
  instanceTypes := #[.int]
  staticTypes := #[]
  resolved := Array.replicate 218 none
  statics := none }

def pool16 : Array CpInfo := pool [(1, .class_ 2), (0, u "java/util/RandomAccess"), (0, .class_ 4), (0, u "java/lang/Object")] 2

/-- java/util/RandomAccess -/
def k16 : Class := { plain "java/util/RandomAccess" (some 0) with
  accessFlags := 1537
  interfaces := #[]
  cf := some (fileOf pool16 1 #[] #[] 1537 3 #[] #[])
  fields := #[]
  methods := #[]
  instanceTypes := #[]
  staticTypes := #[]
  resolved := Array.replicate 7 none
  statics := none }

def pool17 : Array CpInfo := pool [(1, .class_ 2), (0, u "java/lang/Cloneable"), (0, .class_ 4), (0, u "java/lang/Object")] 2

/-- java/lang/Cloneable -/
def k17 : Class := { plain "java/lang/Cloneable" (some 0) with
  accessFlags := 1537
  interfaces := #[]
  cf := some (fileOf pool17 1 #[] #[] 1537 3 #[] #[])
  fields := #[]
  methods := #[]
  instanceTypes := #[]
  staticTypes := #[]
  resolved := Array.replicate 7 none
  statics := none }

def pool18 : Array CpInfo := pool [(1, .methodref 2 3), (0, .class_ 4), (0, .nameAndType 5 6), (0, u "java/util/AbstractList"), (0, u "<init>"), (0, u "()V"), (0, .class_ 8), (0, u "java/lang/Object"), (0, .fieldref 10 11), (0, .class_ 12), (0, .nameAndType 13 14), (0, u "java/util/ArrayList"), (0, u "elementData"), (0, u "[Ljava/lang/Object;"), (2, u "EMPTY_ELEMENTDATA"), (21, .fieldref 10 40), (0, .nameAndType 41 14), (0, u "DEFAULTCAPACITY_EMPTY_ELEMENTDATA"), (5, u "()[Ljava/lang/Object;"), (0, .fieldref 10 49), (0, .nameAndType 50 51), (0, u "size"), (0, u "I"), (11, .fieldref 10 64), (0, .nameAndType 65 51), (0, u "modCount"), (3, .methodref 10 70), (0, .nameAndType 71 72), (0, u "grow"), (0, u "(I)[Ljava/lang/Object;"), (6, .methodref 80 81), (0, .class_ 82), (0, .nameAndType 83 84), (0, u "java/lang/Math"), (0, u "max"), (0, u "(II)I"), (11, u "(Ljava/lang/Object;)Z"), (21, .methodref 119 120), (0, .class_ 121), (0, .nameAndType 122 84), (0, u "java/util/Objects"), (0, u "checkIndex"), (0, .methodref 10 124), (0, .nameAndType 13 125), (0, u "(I)Ljava/lang/Object;"), (3, .methodref 10 130), (0, .nameAndType 71 47), (0, .methodref 10 132), (0, .nameAndType 133 134), (0, u "add"), (0, u "(Ljava/lang/Object;[Ljava/lang/Object;I)V"), (13, .class_ 149), (0, u "java/util/List"), (112, .class_ 263), (0, u "java/util/ArrayList$ListItr"), (3, .class_ 268), (0, u "java/util/ArrayList$Itr"), (7, .class_ 277), (0, u "java/util/ArrayList$SubList"), (12, .class_ 291), (0, u "java/util/ArrayList$ArrayListSpliterator"), (37, .class_ 330), (0, u "java/util/RandomAccess"), (0, .class_ 332), (0, u "java/lang/Cloneable"), (0, .class_ 334), (0, u "java/io/Serializable"), (0, u "serialVersionUID"), (0, u "J"), (3, u "DEFAULT_CAPACITY"), (40, u "get"), (118, .class_ 501), (0, u "java/util/ArrayList$SubList$2"), (0, .class_ 503), (0, u "java/util/ArrayList$SubList$1")] 5

def k18c0 : Code := { maxStack := 2, maxLocals := 1, code := jdk_38_method_2_code, exceptionTable := #[], attributes := #[] }
def k18m0 : Method := { name := "<init>", desc := "()V", sig := { parameters := [], returnType := none }, accessFlags := 1, code := some k18c0 }
def k18c1 : Code := { maxStack := 4, maxLocals := 4, code := jdk_38_method_6_code, exceptionTable := #[], attributes := #[] }
def k18m1 : Method := { name := "grow", desc := "(I)[Ljava/lang/Object;", sig := { parameters := [.int], returnType := some (.array (.object "java/lang/Object")) }, accessFlags := 2, code := some k18c1 }
def k18c2 : Code := { maxStack := 3, maxLocals := 1, code := jdk_38_method_7_code, exceptionTable := #[], attributes := #[] }
def k18m2 : Method := { name := "grow", desc := "()[Ljava/lang/Object;", sig := { parameters := [], returnType := some (.array (.object "java/lang/Object")) }, accessFlags := 2, code := some k18c2 }
def k18c3 : Code := { maxStack := 2, maxLocals := 2, code := jdk_38_method_18_code, exceptionTable := #[], attributes := #[] }
def k18m3 : Method := { name := "elementData", desc := "(I)Ljava/lang/Object;", sig := { parameters := [.int], returnType := some (.object "java/lang/Object") }, accessFlags := 0, code := some k18c3 }
def k18c4 : Code := { maxStack := 2, maxLocals := 2, code := jdk_38_method_20_code, exceptionTable := #[], attributes := #[] }
def k18m4 : Method := { name := "get", desc := "(I)Ljava/lang/Object;", sig := { parameters := [.int], returnType := some (.object "java/lang/Object") }, accessFlags := 1, code := some k18c4 }
def k18c5 : Code := { maxStack := 3, maxLocals := 4, code := jdk_38_method_24_code, exceptionTable := #[], attributes := #[] }
def k18m5 : Method := { name := "add", desc := "(Ljava/lang/Object;[Ljava/lang/Object;I)V", sig := { parameters := [(.object "java/lang/Object"), (.array (.object "java/lang/Object")), .int], returnType := none }, accessFlags := 2, code := some k18c5 }
def k18c6 : Code := { maxStack := 4, maxLocals := 2, code := jdk_38_method_25_code, exceptionTable := #[], attributes := #[] }
def k18m6 : Method := { name := "add", desc := "(Ljava/lang/Object;)Z", sig := { parameters := [(.object "java/lang/Object")], returnType := some .boolean }, accessFlags := 1, code := some k18c6 }
/-- java/util/ArrayList -/
def k18 : Class := { plain "java/util/ArrayList" (some 15) with
  accessFlags := 33
  interfaces := #[14, 16, 17, 2]
  cf := some (fileOf pool18 10 #[.nestMembers #[290, 276, 500, 502, 262, 267]] #[{ accessFlags := 1, nameIndex := 5, descriptorIndex := 6, attributes := #[] }, { accessFlags := 2, nameIndex := 71, descriptorIndex := 72, attributes := #[] }, { accessFlags := 2, nameIndex := 71, descriptorIndex := 47, attributes := #[] }, { accessFlags := 0, nameIndex := 13, descriptorIndex := 125, attributes := #[] }, { accessFlags := 1, nameIndex := 381, descriptorIndex := 125, attributes := #[] }, { accessFlags := 2, nameIndex := 133, descriptorIndex := 134, attributes := #[] }, { accessFlags := 1, nameIndex := 133, descriptorIndex := 96, attributes := #[] }] 33 2 #[148, 329, 331, 333] #[{ accessFlags := 26, nameIndex := 335, descriptorIndex := 336, attributes := #[] }, { accessFlags := 26, nameIndex := 340, descriptorIndex := 51, attributes := #[] }, { accessFlags := 26, nameIndex := 17, descriptorIndex := 14, attributes := #[] }, { accessFlags := 26, nameIndex := 41, descriptorIndex := 14, attributes := #[] }, { accessFlags := 128, nameIndex := 13, descriptorIndex := 14, attributes := #[] }, { accessFlags := 2, nameIndex := 50, descriptorIndex := 51, attributes := #[] }])
  fields := #[{ name := "serialVersionUID", type := .long, accessFlags := 26, slot := 0, constantValue := 0 }, { name := "DEFAULT_CAPACITY", type := .int, accessFlags := 26, slot := 1, constantValue := 0 }, { name := "EMPTY_ELEMENTDATA", type := (.array (.object "java/lang/Object")), accessFlags := 26, slot := 2, constantValue := 0 }, { name := "DEFAULTCAPACITY_EMPTY_ELEMENTDATA", type := (.array (.object "java/lang/Object")), accessFlags := 26, slot := 3, constantValue := 0 }, { name := "elementData", type := (.array (.object "java/lang/Object")), accessFlags := 128, slot := 1, constantValue := 0 }, { name := "size", type := .int, accessFlags := 2, slot := 2, constantValue := 0 }]
  methods := #[k18m0, k18m1, k18m2, k18m3, k18m4, k18m5, k18m6]
  instanceTypes := #[.int, (.array (.object "java/lang/Object")), .int]
  staticTypes := #[.long, .int, (.array (.object "java/lang/Object")), (.array (.object "java/lang/Object"))]
  resolved := Array.replicate 509 none
  statics := some 1 }

def pool19 : Array CpInfo := pool [(1, .class_ 2), (0, u "java/lang/Math"), (1, .class_ 6), (1, u "java/lang/Object"), (0, u "<init>"), (0, u "()V"), (89, .class_ 100), (1, u "java/lang/Math$RandomNumberGeneratorHolder"), (71, u "negativeZeroFloatBits"), (0, u "J"), (2, u "negativeZeroDoubleBits"), (21, u "max"), (46, u "$assertionsDisabled"), (0, u "Z"), (88, u "(II)I"), (2, u "twoToTheDoubleScaleDown"), (0, u "D"), (4, u "twoToTheDoubleScaleUp"), (9, u "E"), (3, u "PI"), (2, u "TAU"), (2, u "DEGREES_TO_RADIANS"), (0, u "RADIANS_TO_DEGREES")] 94

def k19m0 : Method := { name := "<init>", desc := "()V", sig := { parameters := [], returnType := none }, accessFlags := 2, code := none }
def k19c1 : Code := { maxStack := 2, maxLocals := 2, code := jdk_29_method_65_code, exceptionTable := #[], attributes := #[] }
def k19m1 : Method := { name := "max", desc := "(II)I", sig := { parameters := [.int, .int], returnType := some .int }, accessFlags := 9, code := some k19c1 }
/-- java/lang/Math -/
def k19 : Class := { plain "java/lang/Math" (some 0) with
  accessFlags := 49
  interfaces := #[]
  cf := some (fileOf pool19 1 #[.nestMembers #[98]] #[{ accessFlags := 2, nameIndex := 7, descriptorIndex := 8, attributes := #[] }, { accessFlags := 9, nameIndex := 198, descriptorIndex := 335, attributes := #[] }] 49 4 #[] #[{ accessFlags := 25, nameIndex := 354, descriptorIndex := 339, attributes := #[] }, { accessFlags := 25, nameIndex := 358, descriptorIndex := 339, attributes := #[] }, { accessFlags := 25, nameIndex := 361, descriptorIndex := 339, attributes := #[] }, { accessFlags := 26, nameIndex := 364, descriptorIndex := 339, attributes := #[] }, { accessFlags := 26, nameIndex := 365, descriptorIndex := 339, attributes := #[] }, { accessFlags := 26, nameIndex := 172, descriptorIndex := 173, attributes := #[] }, { accessFlags := 26, nameIndex := 176, descriptorIndex := 173, attributes := #[] }, { accessFlags := 8, nameIndex := 344, descriptorIndex := 339, attributes := #[] }, { accessFlags := 8, nameIndex := 338, descriptorIndex := 339, attributes := #[] }, { accessFlags := 4120, nameIndex := 245, descriptorIndex := 246, attributes := #[] }])
  fields := #[{ name := "E", type := .double, accessFlags := 25, slot := 0, constantValue := 0 }, { name := "PI", type := .double, accessFlags := 25, slot := 1, constantValue := 0 }, { name := "TAU", type := .double, accessFlags := 25, slot := 2, constantValue := 0 }, { name := "DEGREES_TO_RADIANS", type := .double, accessFlags := 26, slot := 3, constantValue := 0 }, { name := "RADIANS_TO_DEGREES", type := .double, accessFlags := 26, slot := 4, constantValue := 0 }, { name := "negativeZeroFloatBits", type := .long, accessFlags := 26, slot := 5, constantValue := 0 }, { name := "negativeZeroDoubleBits", type := .long, accessFlags := 26, slot := 6, constantValue := 0 }, { name := "twoToTheDoubleScaleUp", type := .double, accessFlags := 8, slot := 7, constantValue := 0 }, { name := "twoToTheDoubleScaleDown", type := .double, accessFlags := 8, slot := 8, constantValue := 0 }, { name := "$assertionsDisabled", type := .boolean, accessFlags := 4120, slot := 9, constantValue := 0 }]
  methods := #[k19m0, k19m1]
  instanceTypes := #[]
  staticTypes := #[.double, .double, .double, .double, .double, .long, .long, .double, .double, .boolean]
  resolved := Array.replicate 460 none
  statics := none }

def pool20 : Array CpInfo := pool [(1, .methodref 2 3), (0, .class_ 4), (0, .nameAndType 5 6), (0, u "java/lang/Object"), (0, u "<init>"), (0, u "()V"), (0, .class_ 8), (0, u "java/lang/Record")] 13

def k20c0 : Code := { maxStack := 1, maxLocals := 1, code := jdk_30_method_1_code, exceptionTable := #[], attributes := #[] }
def k20m0 : Method := { name := "<init>", desc := "()V", sig := { parameters := [], returnType := none }, accessFlags := 4, code := some k20c0 }
/-- java/lang/Record -/
def k20 : Class := { plain "java/lang/Record" (some 0) with
  accessFlags := 1057
  interfaces := #[]
  cf := some (fileOf pool20 7 #[] #[{ accessFlags := 4, nameIndex := 5, descriptorIndex := 6, attributes := #[] }] 1057 2 #[] #[])
  fields := #[]
  methods := #[k20m0]
  instanceTypes := #[]
  staticTypes := #[]
  resolved := Array.replicate 22 none
  statics := none }

def pool21 : Array CpInfo := pool [(1, .methodref 2 3), (0, .class_ 4), (0, .nameAndType 5 6), (0, u "java/lang/Record"), (0, u "<init>"), (0, u "()V"), (0, .fieldref 8 9), (0, .class_ 10), (0, .nameAndType 11 12), (0, u "com/example/sakimono/sakimono/TextTable$Row"), (0, u "line"), (0, u "I"), (0, .fieldref 8 14), (0, .nameAndType 15 16), (0, u "fields"), (0, u "Ljava/util/List;"), (0, .interfaceMethodref 18 19), (0, .class_ 20), (0, .nameAndType 21 22), (0, u "java/util/List"), (0, u "get"), (0, u "(I)Ljava/lang/Object;"), (0, .class_ 24), (0, u "java/lang/String"), (23, u "(ILjava/util/List;)V"), (4, u "field"), (0, u "(I)Ljava/lang/String;"), (10, .class_ 66), (0, u "com/example/sakimono/sakimono/TextTable")] 28

def k21c0 : Code := { maxStack := 2, maxLocals := 3, code := prog_57_method_1_code, exceptionTable := #[], attributes := #[] }
def k21m0 : Method := { name := "<init>", desc := "(ILjava/util/List;)V", sig := { parameters := [.int, (.object "java/util/List")], returnType := none }, accessFlags := 0, code := some k21c0 }
def k21c1 : Code := { maxStack := 2, maxLocals := 2, code := prog_57_method_2_code, exceptionTable := #[], attributes := #[] }
def k21m1 : Method := { name := "field", desc := "(I)Ljava/lang/String;", sig := { parameters := [.int], returnType := some (.object "java/lang/String") }, accessFlags := 0, code := some k21c1 }
/-- com/example/sakimono/sakimono/TextTable$Row -/
def k21 : Class := { plain "com/example/sakimono/sakimono/TextTable$Row" (some 20) with
  accessFlags := 48
  interfaces := #[]
  cf := some (fileOf pool21 8 #[.nestHost 65] #[{ accessFlags := 0, nameIndex := 5, descriptorIndex := 48, attributes := #[] }, { accessFlags := 0, nameIndex := 53, descriptorIndex := 54, attributes := #[] }] 48 2 #[] #[{ accessFlags := 18, nameIndex := 11, descriptorIndex := 12, attributes := #[] }, { accessFlags := 18, nameIndex := 15, descriptorIndex := 16, attributes := #[] }])
  fields := #[{ name := "line", type := .int, accessFlags := 18, slot := 0, constantValue := 0 }, { name := "fields", type := (.object "java/util/List"), accessFlags := 18, slot := 1, constantValue := 0 }]
  methods := #[k21m0, k21m1]
  instanceTypes := #[.int, (.object "java/util/List")]
  staticTypes := #[]
  resolved := Array.replicate 95 none
  statics := none }

def pool22 : Array CpInfo := pool [(2, .class_ 4), (1, u "java/lang/Object"), (0, u "<init>"), (0, u "()V"), (35, .class_ 44), (1, u "java/util/Objects"), (60, .methodref 106 107), (0, .class_ 108), (0, .nameAndType 109 110), (0, u "jdk/internal/util/Preconditions"), (0, u "checkIndex"), (0, u "(IILjava/util/function/BiFunction;)I"), (60, u "(II)I")] 12

def k22m0 : Method := { name := "<init>", desc := "()V", sig := { parameters := [], returnType := none }, accessFlags := 2, code := none }
def k22c1 : Code := { maxStack := 3, maxLocals := 2, code := jdk_31_method_17_code, exceptionTable := #[], attributes := #[] }
def k22m1 : Method := { name := "checkIndex", desc := "(II)I", sig := { parameters := [.int, .int], returnType := some .int }, accessFlags := 9, code := some k22c1 }
/-- java/util/Objects -/
def k22 : Class := { plain "java/util/Objects" (some 0) with
  accessFlags := 49
  interfaces := #[]
  cf := some (fileOf pool22 42 #[] #[{ accessFlags := 2, nameIndex := 5, descriptorIndex := 6, attributes := #[] }, { accessFlags := 9, nameIndex := 109, descriptorIndex := 171, attributes := #[] }] 49 2 #[] #[])
  fields := #[]
  methods := #[k22m0, k22m1]
  instanceTypes := #[]
  staticTypes := #[]
  resolved := Array.replicate 184 none
  statics := none }

def pool23 : Array CpInfo := pool [(2, .class_ 4), (1, u "java/lang/Object"), (0, u "<init>"), (0, u "()V"), (17, .class_ 26), (1, u "jdk/internal/util/Preconditions"), (6, u "checkIndex"), (21, .class_ 56), (0, u "jdk/internal/util/Preconditions$4"), (57, .class_ 115), (0, u "jdk/internal/util/Preconditions$1"), (7, u "SIOOBE_FORMATTER"), (0, u "Ljava/util/function/BiFunction;"), (0, .class_ 126), (0, u "jdk/internal/util/Preconditions$2"), (3, u "AIOOBE_FORMATTER"), (0, .class_ 132), (0, u "jdk/internal/util/Preconditions$3"), (3, u "IOOBE_FORMATTER"), (41, u "(IILjava/util/function/BiFunction;)I")] 15

def k23m0 : Method := { name := "<init>", desc := "()V", sig := { parameters := [], returnType := none }, accessFlags := 1, code := none }
def k23c1 : Code := { maxStack := 3, maxLocals := 3, code := jdk_41_method_11_code, exceptionTable := #[], attributes := #[] }
def k23m1 : Method := { name := "checkIndex", desc := "(IILjava/util/function/BiFunction;)I", sig := { parameters := [.int, .int, (.object "java/util/function/BiFunction")], returnType := some .int }, accessFlags := 9, code := some k23c1 }
/-- jdk/internal/util/Preconditions -/
def k23 : Class := { plain "jdk/internal/util/Preconditions" (some 0) with
  accessFlags := 33
  interfaces := #[]
  cf := some (fileOf pool23 24 #[.nestMembers #[55, 131, 125, 114]] #[{ accessFlags := 1, nameIndex := 5, descriptorIndex := 6, attributes := #[] }, { accessFlags := 9, nameIndex := 33, descriptorIndex := 178, attributes := #[] }] 33 2 #[] #[{ accessFlags := 25, nameIndex := 123, descriptorIndex := 124, attributes := #[] }, { accessFlags := 25, nameIndex := 130, descriptorIndex := 124, attributes := #[] }, { accessFlags := 25, nameIndex := 136, descriptorIndex := 124, attributes := #[] }])
  fields := #[{ name := "SIOOBE_FORMATTER", type := (.object "java/util/function/BiFunction"), accessFlags := 25, slot := 0, constantValue := 0 }, { name := "AIOOBE_FORMATTER", type := (.object "java/util/function/BiFunction"), accessFlags := 25, slot := 1, constantValue := 0 }, { name := "IOOBE_FORMATTER", type := (.object "java/util/function/BiFunction"), accessFlags := 25, slot := 2, constantValue := 0 }]
  methods := #[k23m0, k23m1]
  instanceTypes := #[]
  staticTypes := #[(.object "java/util/function/BiFunction"), (.object "java/util/function/BiFunction"), (.object "java/util/function/BiFunction")]
  resolved := Array.replicate 194 none
  statics := some 2 }

def pool24 : Array CpInfo := pool [(9, u "<init>"), (6, .class_ 18), (1, u "java/lang/Object"), (0, u "()V"), (1, .class_ 23), (1, u "jdk/internal/util/ArraysSupport"), (0, u "LOG2_ARRAY_LONG_INDEX_SCALE"), (0, u "I"), (2, u "U"), (0, u "Ljdk/internal/misc/Unsafe;"), (8, u "BIG_ENDIAN"), (0, u "Z"), (8, u "LOG2_BYTE_BIT_SIZE"), (4, u "LOG2_ARRAY_INT_INDEX_SCALE"), (54, u "JLA"), (0, u "Ljdk/internal/access/JavaLangAccess;"), (11, u "LOG2_ARRAY_BOOLEAN_INDEX_SCALE"), (9, u "LOG2_ARRAY_BYTE_INDEX_SCALE"), (5, u "LOG2_ARRAY_CHAR_INDEX_SCALE"), (5, u "LOG2_ARRAY_SHORT_INDEX_SCALE"), (18, u "LOG2_ARRAY_FLOAT_INDEX_SCALE"), (24, u "LOG2_ARRAY_DOUBLE_INDEX_SCALE"), (89, u "T_BOOLEAN"), (2, u "T_CHAR"), (1, u "T_FLOAT"), (1, u "T_DOUBLE"), (1, u "T_BYTE"), (1, u "T_SHORT"), (1, u "T_INT"), (1, u "T_LONG"), (1, u "SOFT_MAX_ARRAY_LENGTH")] 83

def k24m0 : Method := { name := "<init>", desc := "()V", sig := { parameters := [], returnType := none }, accessFlags := 2, code := none }
/-- jdk/internal/util/ArraysSupport -/
def k24 : Class := { plain "jdk/internal/util/ArraysSupport" (some 0) with
  accessFlags := 33
  interfaces := #[]
  cf := some (fileOf pool24 21 #[] #[{ accessFlags := 2, nameIndex := 9, descriptorIndex := 19, attributes := #[] }] 33 16 #[] #[{ accessFlags := 24, nameIndex := 28, descriptorIndex := 29, attributes := #[] }, { accessFlags := 26, nameIndex := 38, descriptorIndex := 39, attributes := #[] }, { accessFlags := 25, nameIndex := 121, descriptorIndex := 25, attributes := #[] }, { accessFlags := 25, nameIndex := 131, descriptorIndex := 25, attributes := #[] }, { accessFlags := 25, nameIndex := 137, descriptorIndex := 25, attributes := #[] }, { accessFlags := 25, nameIndex := 143, descriptorIndex := 25, attributes := #[] }, { accessFlags := 25, nameIndex := 53, descriptorIndex := 25, attributes := #[] }, { accessFlags := 25, nameIndex := 24, descriptorIndex := 25, attributes := #[] }, { accessFlags := 25, nameIndex := 162, descriptorIndex := 25, attributes := #[] }, { accessFlags := 25, nameIndex := 187, descriptorIndex := 25, attributes := #[] }, { accessFlags := 26, nameIndex := 48, descriptorIndex := 25, attributes := #[] }, { accessFlags := 25, nameIndex := 277, descriptorIndex := 25, attributes := #[] }, { accessFlags := 25, nameIndex := 280, descriptorIndex := 25, attributes := #[] }, { accessFlags := 25, nameIndex := 282, descriptorIndex := 25, attributes := #[] }, { accessFlags := 25, nameIndex := 284, descriptorIndex := 25, attributes := #[] }, { accessFlags := 25, nameIndex := 286, descriptorIndex := 25, attributes := #[] }, { accessFlags := 25, nameIndex := 288, descriptorIndex := 25, attributes := #[] }, { accessFlags := 25, nameIndex := 290, descriptorIndex := 25, attributes := #[] }, { accessFlags := 25, nameIndex := 292, descriptorIndex := 25, attributes := #[] }, { accessFlags := 26, nameIndex := 108, descriptorIndex := 109, attributes := #[] }, { accessFlags := 25, nameIndex := 294, descriptorIndex := 25, attributes := #[] }])
  fields := #[{ name := "U", type := (.object "jdk/internal/misc/Unsafe"), accessFlags := 24, slot := 0, constantValue := 0 }, { name := "BIG_ENDIAN", type := .boolean, accessFlags := 26, slot := 1, constantValue := 0 }, { name := "LOG2_ARRAY_BOOLEAN_INDEX_SCALE", type := .int, accessFlags := 25, slot := 2, constantValue := 0 }, { name := "LOG2_ARRAY_BYTE_INDEX_SCALE", type := .int, accessFlags := 25, slot := 3, constantValue := 0 }, { name := "LOG2_ARRAY_CHAR_INDEX_SCALE", type := .int, accessFlags := 25, slot := 4, constantValue := 0 }, { name := "LOG2_ARRAY_SHORT_INDEX_SCALE", type := .int, accessFlags := 25, slot := 5, constantValue := 0 }, { name := "LOG2_ARRAY_INT_INDEX_SCALE", type := .int, accessFlags := 25, slot := 6, constantValue := 0 }, { name := "LOG2_ARRAY_LONG_INDEX_SCALE", type := .int, accessFlags := 25, slot := 7, constantValue := 0 }, { name := "LOG2_ARRAY_FLOAT_INDEX_SCALE", type := .int, accessFlags := 25, slot := 8, constantValue := 0 }, { name := "LOG2_ARRAY_DOUBLE_INDEX_SCALE", type := .int, accessFlags := 25, slot := 9, constantValue := 0 }, { name := "LOG2_BYTE_BIT_SIZE", type := .int, accessFlags := 26, slot := 10, constantValue := 0 }, { name := "T_BOOLEAN", type := .int, accessFlags := 25, slot := 11, constantValue := 0 }, { name := "T_CHAR", type := .int, accessFlags := 25, slot := 12, constantValue := 0 }, { name := "T_FLOAT", type := .int, accessFlags := 25, slot := 13, constantValue := 0 }, { name := "T_DOUBLE", type := .int, accessFlags := 25, slot := 14, constantValue := 0 }, { name := "T_BYTE", type := .int, accessFlags := 25, slot := 15, constantValue := 0 }, { name := "T_SHORT", type := .int, accessFlags := 25, slot := 16, constantValue := 0 }, { name := "T_INT", type := .int, accessFlags := 25, slot := 17, constantValue := 0 }, { name := "T_LONG", type := .int, accessFlags := 25, slot := 18, constantValue := 0 }, { name := "JLA", type := (.object "jdk/internal/access/JavaLangAccess"), accessFlags := 26, slot := 19, constantValue := 0 }, { name := "SOFT_MAX_ARRAY_LENGTH", type := .int, accessFlags := 25, slot := 20, constantValue := 0 }]
  methods := #[k24m0]
  instanceTypes := #[]
  staticTypes := #[(.object "jdk/internal/misc/Unsafe"), .boolean, .int, .int, .int, .int, .int, .int, .int, .int, .int, .int, .int, .int, .int, .int, .int, .int, .int, (.object "jdk/internal/access/JavaLangAccess"), .int]
  resolved := Array.replicate 378 none
  statics := none }

/-- the primitive byte -/
def k25 : Class := { plain "byte" none with kind := .primitive 'B', accessFlags := 0x411 }
/-- [B -/
def k26 : Class := { plain "[B" (some 0) with kind := .array 25 .byte, interfaces := #[17, 2], accessFlags := 1041 }

/-- the primitive char -/
def k27 : Class := { plain "char" none with kind := .primitive 'C', accessFlags := 0x411 }
/-- [C -/
def k28 : Class := { plain "[C" (some 0) with kind := .array 27 .char, interfaces := #[17, 2], accessFlags := 1041 }

/-- the primitive int -/
def k29 : Class := { plain "int" none with kind := .primitive 'I', accessFlags := 0x411 }
/-- [I -/
def k30 : Class := { plain "[I" (some 0) with kind := .array 29 .int, interfaces := #[17, 2], accessFlags := 1041 }

/-- [Ljava/lang/Object; -/
def k31 : Class := { plain "[Ljava/lang/Object;" (some 0) with kind := .array 0 (.object "java/lang/Object"), interfaces := #[17, 2], accessFlags := 1041 }

def heap : Heap := #[{ cls := 7, slots := #[.long 0, .int 1, .null, .int 0, .null, .int 0, .int 0], vm := .statics 7 },
  { cls := 18, slots := #[.long 0, .int 0, .ref 3, .ref 4], vm := .statics 18 },
  { cls := 23, slots := #[.null, .null, .null], vm := .statics 23 },
  { cls := 31, slots := #[], vm := .none },
  { cls := 31, slots := #[], vm := .none }]
def classes : Array Class := #[k0, k1, k2, k3, k4, k5, k6, k7, k8, k9, k10, k11, k12, k13, k14, k15, k16, k17, k18, k19, k20, k21, k22, k23, k24, k25, k26, k27, k28, k29, k30, k31]
def interned : List (Array UInt16 × Addr) := []
def slotsUsed : Nat := 14
def theMethod : MethodId := ⟨1, 1⟩
def args0 : Array Value := #[.int 5, .int 6, .int 7, .int 8, .int 9]
def aboutOver (below : List Frame) : State where
  vm := { classes := classes, interned := interned.toArray }
  heap := heap
  slotsUsed := slotsUsed
  threads := #[{ frames := .invoking theMethod args0 :: below }]
def below0 : List Frame := [.native { method := ⟨0, 0⟩, args := #[] }]
def about1 : State := aboutOver below0
def p0 : Program := .bare "" "" ""
def e0 : Env := launch0.env 0 0 0
theorem w_frames : about1.frames = Frame.invoking theMethod args0 :: below0 := rfl
set_option maxRecDepth 65536 in
theorem w_args : argsFit about1.vm theMethod args0 = true := by decide +kernel
set_option maxRecDepth 65536 in
theorem w_heap : heapFits about1 = true := by decide +kernel
set_option maxRecDepth 65536 in
theorem w_runnable : about1.curStatus? = some .runnable := by decide +kernel
set_option maxRecDepth 65536 in
theorem w_alone : about1.alone = true := by decide +kernel
set_option maxRecDepth 65536 in
theorem w_named : about1.methodNamed? x = some theMethod := by decide +kernel
set_option maxRecDepth 65536 in
theorem w_hears : about1.hears theMethod below0 = true := by decide +kernel
set_option maxRecDepth 65536 in
theorem w_ripe : about1.ripe theMethod args0 below0 = true := by decide +kernel
theorem w_running : about1.status = .running := rfl
set_option maxRecDepth 65536 in
theorem w_room : about1.hasRoom e0.platform room_1 = true :=
  launch0.hasRoom_least _ room_1 (by decide +kernel) (by decide +kernel) (by decide +kernel) (by decide +kernel) (by decide +kernel) (by decide +kernel)
theorem allAtoms_all (ts : List Jvm.Cond) (a : Array Jvm.Value) (st : Jvm.State) : (allAtoms ts).before a st = ts.all (fun c => c.before a st) := by
  induction ts with
  | nil => rfl
  | cons c t ih =>
    show (Jvm.Cond.and c (allAtoms t)).before a st = _
    rw [Jvm.Cond.before_and, ih, List.all_cons]
def words1 : List Jvm.Cond := Jvm.Cond.code x code maxLocals ret :: tables_1
/-- a 'code' word, met by the world's own term for the bytes: nothing is compared byte by byte -/
theorem code_word {y : MethodName} {bytes : ByteArray} {mx : Nat} {rt : Option FieldType} {a : Array Value} {s : State} {m : MethodId} {meth : Method} {c : Code} (h1 : s.methodNamed? y = some m) (h2 : s.vm.method? m = some meth) (h3 : meth.code = some c) (h4 : c.code = bytes)
    (h5 : (c.maxLocals == mx && c.exceptionTable.isEmpty && decide (c.maxStack ≤ mostOperands) && decide (meth.sig.returnType = rt) && !meth.locks && decide (parseMethodDescriptor y.desc = some meth.sig)) = true) : (Jvm.Cond.code y bytes mx rt).before a s = true := by
  simp only [Bool.and_eq_true, beq_iff_eq, Bool.not_eq_true', decide_eq_true_eq] at h5
  obtain ⟨⟨⟨⟨⟨g1, g2⟩, g3⟩, g4⟩, g5⟩, g6⟩ := h5
  simp [Cond.before, Cond.holds, Cond.value, h1, h2, h3, h4, g1, g2, g3, g4, g5, g6]
def isCode : Jvm.Cond → Bool
  | .code _ _ _ _ => true
  | _ => false
theorem all_split {L : List Jvm.Cond} {P : Jvm.Cond → Bool} (h1 : L.all (fun c => isCode c || P c) = true) (h2 : ∀ c ∈ L.filter isCode, P c = true) : L.all P = true := by
  refine List.all_eq_true.mpr fun c hc => ?_
  have h := List.all_eq_true.mp h1 c hc
  rcases Bool.eq_false_or_eq_true (isCode c) with hi | hi
  · exact h2 c (List.mem_filter.mpr ⟨hc, hi⟩)
  · simpa [hi] using h
set_option maxRecDepth 65536 in
theorem w_c0 : (Jvm.Cond.code x code maxLocals ret).before args0 about1 = true := code_word (m := ⟨1, 1⟩) (meth := k1m1) (c := k1c1) (by decide +kernel) rfl rfl rfl (by decide +kernel)
set_option maxRecDepth 65536 in
theorem w_c1 : (Jvm.Cond.code ({ cls := "java/lang/String", name := "valueOf", desc := "(C)Ljava/lang/String;" } : Jvm.MethodName) jdk_42_method_139_code (1 : Nat) (Option.some (Jvm.ClassFile.FieldType.object "java/lang/String"))).before args0 about1 = true := code_word (m := ⟨7, 4⟩) (meth := k7m4) (c := k7c4) (by decide +kernel) rfl rfl rfl (by decide +kernel)
set_option maxRecDepth 65536 in
theorem w_c2 : (Jvm.Cond.code ({ cls := "java/lang/StringLatin1", name := "canEncode", desc := "(C)Z" } : Jvm.MethodName) jdk_43_method_3_code (1 : Nat) (Option.some Jvm.ClassFile.FieldType.boolean)).before args0 about1 = true := code_word (m := ⟨8, 1⟩) (meth := k8m1) (c := k8c1) (by decide +kernel) rfl rfl rfl (by decide +kernel)
set_option maxRecDepth 65536 in
theorem w_c3 : (Jvm.Cond.code ({ cls := "java/lang/StringLatin1", name := "toBytes", desc := "(C)[B" } : Jvm.MethodName) jdk_43_method_46_code (1 : Nat) (Option.some (Jvm.ClassFile.FieldType.array Jvm.ClassFile.FieldType.byte))).before args0 about1 = true := code_word (m := ⟨8, 2⟩) (meth := k8m2) (c := k8c2) (by decide +kernel) rfl rfl rfl (by decide +kernel)
set_option maxRecDepth 65536 in
theorem w_c4 : (Jvm.Cond.code ({ cls := "java/lang/String", name := "<init>", desc := "([BB)V" } : Jvm.MethodName) jdk_42_method_151_code (3 : Nat) (Option.none : Option Jvm.ClassFile.FieldType)).before args0 about1 = true := code_word (m := ⟨7, 6⟩) (meth := k7m6) (c := k7c6) (by decide +kernel) rfl rfl rfl (by decide +kernel)
set_option maxRecDepth 65536 in
theorem w_c5 : (Jvm.Cond.code ({ cls := "java/lang/Object", name := "<init>", desc := "()V" } : Jvm.MethodName) object_method_1_code (1 : Nat) (Option.none : Option Jvm.ClassFile.FieldType)).before args0 about1 = true := code_word (m := ⟨0, 0⟩) (meth := k0m0) (c := k0c0) (by decide +kernel) rfl rfl rfl (by decide +kernel)
set_option maxRecDepth 65536 in
theorem w_c6 : (Jvm.Cond.code ({ cls := "java/lang/String", name := "<init>", desc := "([C)V" } : Jvm.MethodName) jdk_42_method_3_code (2 : Nat) (Option.none : Option Jvm.ClassFile.FieldType)).before args0 about1 = true := code_word (m := ⟨7, 1⟩) (meth := k7m1) (c := k7c1) (by decide +kernel) rfl rfl rfl (by decide +kernel)
set_option maxRecDepth 65536 in
theorem w_c7 : (Jvm.Cond.code ({ cls := "java/lang/String", name := "<init>", desc := "([CIILjava/lang/Void;)V" } : Jvm.MethodName) jdk_42_method_149_code (6 : Nat) (Option.none : Option Jvm.ClassFile.FieldType)).before args0 about1 = true := code_word (m := ⟨7, 5⟩) (meth := k7m5) (c := k7c5) (by decide +kernel) rfl rfl rfl (by decide +kernel)
set_option maxRecDepth 65536 in
theorem w_c8 : (Jvm.Cond.code ({ cls := "java/lang/StringUTF16", name := "compress", desc := "([CII)[B" } : Jvm.MethodName) jdk_52_method_16_code (6 : Nat) (Option.some (Jvm.ClassFile.FieldType.array Jvm.ClassFile.FieldType.byte))).before args0 about1 = true := code_word (m := ⟨9, 2⟩) (meth := k9m2) (c := k9c2) (by decide +kernel) rfl rfl rfl (by decide +kernel)
set_option maxRecDepth 65536 in
theorem w_c9 : (Jvm.Cond.code ({ cls := "java/lang/StringUTF16", name := "compress", desc := "([CI[BII)I" } : Jvm.MethodName) jdk_52_method_21_code (7 : Nat) (Option.some Jvm.ClassFile.FieldType.int)).before args0 about1 = true := code_word (m := ⟨9, 3⟩) (meth := k9m3) (c := k9c3) (by decide +kernel) rfl rfl rfl (by decide +kernel)
set_option maxRecDepth 65536 in
theorem w_c10 : (Jvm.Cond.code ({ cls := "java/lang/StringUTF16", name := "coderFromArrayLen", desc := "([BI)B" } : Jvm.MethodName) jdk_52_method_15_code (2 : Nat) (Option.some Jvm.ClassFile.FieldType.byte)).before args0 about1 = true := code_word (m := ⟨9, 1⟩) (meth := k9m1) (c := k9c1) (by decide +kernel) rfl rfl rfl (by decide +kernel)
set_option maxRecDepth 65536 in
theorem w_c11 : (Jvm.Cond.code ({ cls := "java/util/ArrayList", name := "<init>", desc := "()V" } : Jvm.MethodName) jdk_38_method_2_code (1 : Nat) (Option.none : Option Jvm.ClassFile.FieldType)).before args0 about1 = true := code_word (m := ⟨18, 0⟩) (meth := k18m0) (c := k18c0) (by decide +kernel) rfl rfl rfl (by decide +kernel)
set_option maxRecDepth 65536 in
theorem w_c12 : (Jvm.Cond.code ({ cls := "java/util/AbstractList", name := "<init>", desc := "()V" } : Jvm.MethodName) jdk_39_method_1_code (1 : Nat) (Option.none : Option Jvm.ClassFile.FieldType)).before args0 about1 = true := code_word (m := ⟨15, 0⟩) (meth := k15m0) (c := k15c0) (by decide +kernel) rfl rfl rfl (by decide +kernel)
set_option maxRecDepth 65536 in
theorem w_c13 : (Jvm.Cond.code ({ cls := "java/util/AbstractCollection", name := "<init>", desc := "()V" } : Jvm.MethodName) jdk_22_method_1_code (1 : Nat) (Option.none : Option Jvm.ClassFile.FieldType)).before args0 about1 = true := code_word (m := ⟨12, 0⟩) (meth := k12m0) (c := k12c0) (by decide +kernel) rfl rfl rfl (by decide +kernel)
set_option maxRecDepth 65536 in
theorem w_c14 : (Jvm.Cond.code ({ cls := "java/util/ArrayList", name := "add", desc := "(Ljava/lang/Object;)Z" } : Jvm.MethodName) jdk_38_method_25_code (2 : Nat) (Option.some Jvm.ClassFile.FieldType.boolean)).before args0 about1 = true := code_word (m := ⟨18, 6⟩) (meth := k18m6) (c := k18c6) (by decide +kernel) rfl rfl rfl (by decide +kernel)
set_option maxRecDepth 65536 in
theorem w_c15 : (Jvm.Cond.code ({ cls := "java/util/ArrayList", name := "add", desc := "(Ljava/lang/Object;[Ljava/lang/Object;I)V" } : Jvm.MethodName) jdk_38_method_24_code (4 : Nat) (Option.none : Option Jvm.ClassFile.FieldType)).before args0 about1 = true := code_word (m := ⟨18, 5⟩) (meth := k18m5) (c := k18c5) (by decide +kernel) rfl rfl rfl (by decide +kernel)
set_option maxRecDepth 65536 in
theorem w_c16 : (Jvm.Cond.code ({ cls := "java/util/ArrayList", name := "grow", desc := "()[Ljava/lang/Object;" } : Jvm.MethodName) jdk_38_method_7_code (1 : Nat) (Option.some (Jvm.ClassFile.FieldType.array (Jvm.ClassFile.FieldType.object "java/lang/Object")))).before args0 about1 = true := code_word (m := ⟨18, 2⟩) (meth := k18m2) (c := k18c2) (by decide +kernel) rfl rfl rfl (by decide +kernel)
set_option maxRecDepth 65536 in
theorem w_c17 : (Jvm.Cond.code ({ cls := "java/util/ArrayList", name := "grow", desc := "(I)[Ljava/lang/Object;" } : Jvm.MethodName) jdk_38_method_6_code (4 : Nat) (Option.some (Jvm.ClassFile.FieldType.array (Jvm.ClassFile.FieldType.object "java/lang/Object")))).before args0 about1 = true := code_word (m := ⟨18, 1⟩) (meth := k18m1) (c := k18c1) (by decide +kernel) rfl rfl rfl (by decide +kernel)
set_option maxRecDepth 65536 in
theorem w_c18 : (Jvm.Cond.code ({ cls := "java/lang/Math", name := "max", desc := "(II)I" } : Jvm.MethodName) jdk_29_method_65_code (2 : Nat) (Option.some Jvm.ClassFile.FieldType.int)).before args0 about1 = true := code_word (m := ⟨19, 1⟩) (meth := k19m1) (c := k19c1) (by decide +kernel) rfl rfl rfl (by decide +kernel)
set_option maxRecDepth 65536 in
theorem w_c19 : (Jvm.Cond.code ({ cls := "com/example/sakimono/sakimono/TextTable$Row", name := "<init>", desc := "(ILjava/util/List;)V" } : Jvm.MethodName) prog_57_method_1_code (3 : Nat) (Option.none : Option Jvm.ClassFile.FieldType)).before args0 about1 = true := code_word (m := ⟨21, 0⟩) (meth := k21m0) (c := k21c0) (by decide +kernel) rfl rfl rfl (by decide +kernel)
set_option maxRecDepth 65536 in
theorem w_c20 : (Jvm.Cond.code ({ cls := "java/lang/Record", name := "<init>", desc := "()V" } : Jvm.MethodName) jdk_30_method_1_code (1 : Nat) (Option.none : Option Jvm.ClassFile.FieldType)).before args0 about1 = true := code_word (m := ⟨20, 0⟩) (meth := k20m0) (c := k20c0) (by decide +kernel) rfl rfl rfl (by decide +kernel)
set_option maxRecDepth 65536 in
theorem w_c21 : (Jvm.Cond.code ({ cls := "com/example/sakimono/sakimono/TextTable$Row", name := "field", desc := "(I)Ljava/lang/String;" } : Jvm.MethodName) prog_57_method_2_code (2 : Nat) (Option.some (Jvm.ClassFile.FieldType.object "java/lang/String"))).before args0 about1 = true := code_word (m := ⟨21, 1⟩) (meth := k21m1) (c := k21c1) (by decide +kernel) rfl rfl rfl (by decide +kernel)
set_option maxRecDepth 65536 in
theorem w_c22 : (Jvm.Cond.code ({ cls := "java/util/ArrayList", name := "get", desc := "(I)Ljava/lang/Object;" } : Jvm.MethodName) jdk_38_method_20_code (2 : Nat) (Option.some (Jvm.ClassFile.FieldType.object "java/lang/Object"))).before args0 about1 = true := code_word (m := ⟨18, 4⟩) (meth := k18m4) (c := k18c4) (by decide +kernel) rfl rfl rfl (by decide +kernel)
set_option maxRecDepth 65536 in
theorem w_c23 : (Jvm.Cond.code ({ cls := "java/util/Objects", name := "checkIndex", desc := "(II)I" } : Jvm.MethodName) jdk_31_method_17_code (2 : Nat) (Option.some Jvm.ClassFile.FieldType.int)).before args0 about1 = true := code_word (m := ⟨22, 1⟩) (meth := k22m1) (c := k22c1) (by decide +kernel) rfl rfl rfl (by decide +kernel)
set_option maxRecDepth 65536 in
theorem w_c24 : (Jvm.Cond.code ({ cls := "jdk/internal/util/Preconditions", name := "checkIndex", desc := "(IILjava/util/function/BiFunction;)I" } : Jvm.MethodName) jdk_41_method_11_code (3 : Nat) (Option.some Jvm.ClassFile.FieldType.int)).before args0 about1 = true := code_word (m := ⟨23, 1⟩) (meth := k23m1) (c := k23c1) (by decide +kernel) rfl rfl rfl (by decide +kernel)
set_option maxRecDepth 65536 in
theorem w_c25 : (Jvm.Cond.code ({ cls := "java/util/ArrayList", name := "elementData", desc := "(I)Ljava/lang/Object;" } : Jvm.MethodName) jdk_38_method_18_code (2 : Nat) (Option.some (Jvm.ClassFile.FieldType.object "java/lang/Object"))).before args0 about1 = true := code_word (m := ⟨18, 3⟩) (meth := k18m3) (c := k18c3) (by decide +kernel) rfl rfl rfl (by decide +kernel)
set_option maxRecDepth 65536 in
theorem w_c26 : (Jvm.Cond.code ({ cls := "java/lang/String", name := "equals", desc := "(Ljava/lang/Object;)Z" } : Jvm.MethodName) jdk_42_method_66_code (3 : Nat) (Option.some Jvm.ClassFile.FieldType.boolean)).before args0 about1 = true := code_word (m := ⟨7, 3⟩) (meth := k7m3) (c := k7c3) (by decide +kernel) rfl rfl rfl (by decide +kernel)
set_option maxRecDepth 65536 in
theorem w_c27 : (Jvm.Cond.code ({ cls := "java/lang/String", name := "length", desc := "()I" } : Jvm.MethodName) jdk_42_method_54_code (1 : Nat) (Option.some Jvm.ClassFile.FieldType.int)).before args0 about1 = true := code_word (m := ⟨7, 2⟩) (meth := k7m2) (c := k7c2) (by decide +kernel) rfl rfl rfl (by decide +kernel)
set_option maxRecDepth 65536 in
theorem w_c28 : (Jvm.Cond.code ({ cls := "java/lang/String", name := "coder", desc := "()B" } : Jvm.MethodName) jdk_42_method_152_code (1 : Nat) (Option.some Jvm.ClassFile.FieldType.byte)).before args0 about1 = true := code_word (m := ⟨7, 7⟩) (meth := k7m7) (c := k7c7) (by decide +kernel) rfl rfl rfl (by decide +kernel)
def codes1 : List Jvm.Cond := [Jvm.Cond.code x code maxLocals ret, Jvm.Cond.code ({ cls := "java/lang/String", name := "valueOf", desc := "(C)Ljava/lang/String;" } : Jvm.MethodName) jdk_42_method_139_code (1 : Nat) (Option.some (Jvm.ClassFile.FieldType.object "java/lang/String")), Jvm.Cond.code ({ cls := "java/lang/StringLatin1", name := "canEncode", desc := "(C)Z" } : Jvm.MethodName) jdk_43_method_3_code (1 : Nat) (Option.some Jvm.ClassFile.FieldType.boolean), Jvm.Cond.code ({ cls := "java/lang/StringLatin1", name := "toBytes", desc := "(C)[B" } : Jvm.MethodName) jdk_43_method_46_code (1 : Nat) (Option.some (Jvm.ClassFile.FieldType.array Jvm.ClassFile.FieldType.byte)), Jvm.Cond.code ({ cls := "java/lang/String", name := "<init>", desc := "([BB)V" } : Jvm.MethodName) jdk_42_method_151_code (3 : Nat) (Option.none : Option Jvm.ClassFile.FieldType), Jvm.Cond.code ({ cls := "java/lang/Object", name := "<init>", desc := "()V" } : Jvm.MethodName) object_method_1_code (1 : Nat) (Option.none : Option Jvm.ClassFile.FieldType), Jvm.Cond.code ({ cls := "java/lang/String", name := "<init>", desc := "([C)V" } : Jvm.MethodName) jdk_42_method_3_code (2 : Nat) (Option.none : Option Jvm.ClassFile.FieldType), Jvm.Cond.code ({ cls := "java/lang/String", name := "<init>", desc := "([CIILjava/lang/Void;)V" } : Jvm.MethodName) jdk_42_method_149_code (6 : Nat) (Option.none : Option Jvm.ClassFile.FieldType), Jvm.Cond.code ({ cls := "java/lang/StringUTF16", name := "compress", desc := "([CII)[B" } : Jvm.MethodName) jdk_52_method_16_code (6 : Nat) (Option.some (Jvm.ClassFile.FieldType.array Jvm.ClassFile.FieldType.byte)), Jvm.Cond.code ({ cls := "java/lang/StringUTF16", name := "compress", desc := "([CI[BII)I" } : Jvm.MethodName) jdk_52_method_21_code (7 : Nat) (Option.some Jvm.ClassFile.FieldType.int), Jvm.Cond.code ({ cls := "java/lang/StringUTF16", name := "coderFromArrayLen", desc := "([BI)B" } : Jvm.MethodName) jdk_52_method_15_code (2 : Nat) (Option.some Jvm.ClassFile.FieldType.byte), Jvm.Cond.code ({ cls := "java/util/ArrayList", name := "<init>", desc := "()V" } : Jvm.MethodName) jdk_38_method_2_code (1 : Nat) (Option.none : Option Jvm.ClassFile.FieldType), Jvm.Cond.code ({ cls := "java/util/AbstractList", name := "<init>", desc := "()V" } : Jvm.MethodName) jdk_39_method_1_code (1 : Nat) (Option.none : Option Jvm.ClassFile.FieldType), Jvm.Cond.code ({ cls := "java/util/AbstractCollection", name := "<init>", desc := "()V" } : Jvm.MethodName) jdk_22_method_1_code (1 : Nat) (Option.none : Option Jvm.ClassFile.FieldType), Jvm.Cond.code ({ cls := "java/util/ArrayList", name := "add", desc := "(Ljava/lang/Object;)Z" } : Jvm.MethodName) jdk_38_method_25_code (2 : Nat) (Option.some Jvm.ClassFile.FieldType.boolean), Jvm.Cond.code ({ cls := "java/util/ArrayList", name := "add", desc := "(Ljava/lang/Object;[Ljava/lang/Object;I)V" } : Jvm.MethodName) jdk_38_method_24_code (4 : Nat) (Option.none : Option Jvm.ClassFile.FieldType), Jvm.Cond.code ({ cls := "java/util/ArrayList", name := "grow", desc := "()[Ljava/lang/Object;" } : Jvm.MethodName) jdk_38_method_7_code (1 : Nat) (Option.some (Jvm.ClassFile.FieldType.array (Jvm.ClassFile.FieldType.object "java/lang/Object"))), Jvm.Cond.code ({ cls := "java/util/ArrayList", name := "grow", desc := "(I)[Ljava/lang/Object;" } : Jvm.MethodName) jdk_38_method_6_code (4 : Nat) (Option.some (Jvm.ClassFile.FieldType.array (Jvm.ClassFile.FieldType.object "java/lang/Object"))), Jvm.Cond.code ({ cls := "java/lang/Math", name := "max", desc := "(II)I" } : Jvm.MethodName) jdk_29_method_65_code (2 : Nat) (Option.some Jvm.ClassFile.FieldType.int), Jvm.Cond.code ({ cls := "com/example/sakimono/sakimono/TextTable$Row", name := "<init>", desc := "(ILjava/util/List;)V" } : Jvm.MethodName) prog_57_method_1_code (3 : Nat) (Option.none : Option Jvm.ClassFile.FieldType), Jvm.Cond.code ({ cls := "java/lang/Record", name := "<init>", desc := "()V" } : Jvm.MethodName) jdk_30_method_1_code (1 : Nat) (Option.none : Option Jvm.ClassFile.FieldType), Jvm.Cond.code ({ cls := "com/example/sakimono/sakimono/TextTable$Row", name := "field", desc := "(I)Ljava/lang/String;" } : Jvm.MethodName) prog_57_method_2_code (2 : Nat) (Option.some (Jvm.ClassFile.FieldType.object "java/lang/String")), Jvm.Cond.code ({ cls := "java/util/ArrayList", name := "get", desc := "(I)Ljava/lang/Object;" } : Jvm.MethodName) jdk_38_method_20_code (2 : Nat) (Option.some (Jvm.ClassFile.FieldType.object "java/lang/Object")), Jvm.Cond.code ({ cls := "java/util/Objects", name := "checkIndex", desc := "(II)I" } : Jvm.MethodName) jdk_31_method_17_code (2 : Nat) (Option.some Jvm.ClassFile.FieldType.int), Jvm.Cond.code ({ cls := "jdk/internal/util/Preconditions", name := "checkIndex", desc := "(IILjava/util/function/BiFunction;)I" } : Jvm.MethodName) jdk_41_method_11_code (3 : Nat) (Option.some Jvm.ClassFile.FieldType.int), Jvm.Cond.code ({ cls := "java/util/ArrayList", name := "elementData", desc := "(I)Ljava/lang/Object;" } : Jvm.MethodName) jdk_38_method_18_code (2 : Nat) (Option.some (Jvm.ClassFile.FieldType.object "java/lang/Object")), Jvm.Cond.code ({ cls := "java/lang/String", name := "equals", desc := "(Ljava/lang/Object;)Z" } : Jvm.MethodName) jdk_42_method_66_code (3 : Nat) (Option.some Jvm.ClassFile.FieldType.boolean), Jvm.Cond.code ({ cls := "java/lang/String", name := "length", desc := "()I" } : Jvm.MethodName) jdk_42_method_54_code (1 : Nat) (Option.some Jvm.ClassFile.FieldType.int), Jvm.Cond.code ({ cls := "java/lang/String", name := "coder", desc := "()B" } : Jvm.MethodName) jdk_42_method_152_code (1 : Nat) (Option.some Jvm.ClassFile.FieldType.byte)]
set_option maxRecDepth 65536 in
theorem codes_eq : words1.filter isCode = codes1 := rfl
theorem w_codes : ∀ c ∈ words1.filter isCode, c.before args0 about1 = true := by
  rw [codes_eq]
  intro c hc
  simp only [codes1, List.mem_cons, List.not_mem_nil, or_false] at hc
  rcases hc with rfl | rfl | rfl | rfl | rfl | rfl | rfl | rfl | rfl | rfl | rfl | rfl | rfl | rfl | rfl | rfl | rfl | rfl | rfl | rfl | rfl | rfl | rfl | rfl | rfl | rfl | rfl | rfl | rfl
  · exact w_c0
  · exact w_c1
  · exact w_c2
  · exact w_c3
  · exact w_c4
  · exact w_c5
  · exact w_c6
  · exact w_c7
  · exact w_c8
  · exact w_c9
  · exact w_c10
  · exact w_c11
  · exact w_c12
  · exact w_c13
  · exact w_c14
  · exact w_c15
  · exact w_c16
  · exact w_c17
  · exact w_c18
  · exact w_c19
  · exact w_c20
  · exact w_c21
  · exact w_c22
  · exact w_c23
  · exact w_c24
  · exact w_c25
  · exact w_c26
  · exact w_c27
  · exact w_c28
set_option maxRecDepth 65536 in
theorem w_t1 : (words1.take 24).all (fun c => isCode c || c.before args0 about1) = true := by decide +kernel
set_option maxRecDepth 65536 in
theorem w_t2 : ((words1.drop 24).take 24).all (fun c => isCode c || c.before args0 about1) = true := by decide +kernel
set_option maxRecDepth 65536 in
theorem w_t3 : (((words1.drop 24).drop 24).take 24).all (fun c => isCode c || c.before args0 about1) = true := by decide +kernel
set_option maxRecDepth 65536 in
theorem w_t4 : ((((words1.drop 24).drop 24).drop 24).take 24).all (fun c => isCode c || c.before args0 about1) = true := by decide +kernel
set_option maxRecDepth 65536 in
theorem w_t5 : (((((words1.drop 24).drop 24).drop 24).drop 24).take 24).all (fun c => isCode c || c.before args0 about1) = true := by decide +kernel
set_option maxRecDepth 65536 in
theorem w_t6 : ((((((words1.drop 24).drop 24).drop 24).drop 24).drop 24).take 24).all (fun c => isCode c || c.before args0 about1) = true := by decide +kernel
set_option maxRecDepth 65536 in
theorem w_t7 : ((((((words1.drop 24).drop 24).drop 24).drop 24).drop 24).drop 24).all (fun c => isCode c || c.before args0 about1) = true := by decide +kernel
theorem w_tables : (allAtoms (Jvm.Cond.code x code maxLocals ret :: tables_1)).before args0 about1 = true := by
  rw [allAtoms_all]
  show words1.all (fun c => c.before args0 about1) = true
  refine all_split ?_ w_codes
  rw [← List.take_append_drop 24 words1, List.all_append, w_t1, ← List.take_append_drop 24 (words1.drop 24), List.all_append, w_t2, ← List.take_append_drop 24 ((words1.drop 24).drop 24), List.all_append, w_t3, ← List.take_append_drop 24 (((words1.drop 24).drop 24).drop 24), List.all_append, w_t4, ← List.take_append_drop 24 ((((words1.drop 24).drop 24).drop 24).drop 24), List.all_append, w_t5, ← List.take_append_drop 24 (((((words1.drop 24).drop 24).drop 24).drop 24).drop 24), List.all_append, w_t6, w_t7]
  rfl
set_option maxRecDepth 65536 in
theorem w_rest : rest_1_c.before args0 about1 = true := by decide +kernel
set_option maxRecDepth 65536 in
theorem w_case : (Jvm.Cond.and given_1 narrow_1).before args0 about1 = true := by decide +kernel
set_option maxRecDepth 65536 in
theorem w_consts : constsHeld consts_1 about1 := Jvm.Lit.constsHeldB_iff.mp (by decide +kernel)
theorem w_applies : (headSpec (Jvm.Cond.code x code maxLocals ret :: tables_1) room_1).applies x e0.platform about1 = true :=
  (Spec.applies_iff w_frames).mpr ⟨w_running, w_runnable, w_alone, w_named, w_hears, w_ripe, w_room, w_tables⟩
theorem atStart : AtStart classFile x code maxLocals ret World_1 tables_1 room_1 Calls_1 rest_1 Pre_1 launch0 p0 e0 about1 theMethod args0 below0 :=
  ⟨lists_1, trivial, launch0.admits_env _ _ _, launch0.least_env, fairChoices_fair.cas, fairChoices_fair.clock, w_frames, w_args, w_heap, w_applies, ⟨w_consts, trivial⟩, w_rest, w_case⟩
end start1
theorem witness_1 : WitnessClaimed_1 := ⟨start1.p0, start1.e0, start1.about1, start1.theMethod, start1.args0, start1.below0, start1.atStart⟩
end Jvm.Pilot.@@N@@
