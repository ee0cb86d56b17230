import JvmDerived
import JvmDerived.Pilot.@@N@@Statement
import JvmDerived.Pilot.@@N@@Code
set_option linter.unusedVariables false
set_option linter.unusedSimpArgs false
namespace Jvm.Pilot.@@N@@
open Jvm Jvm.ClassFile Sem Op Lib Jvm.Free Jvm.Stand Jvm.LawKit Jvm.RoadKit Bundle Jvm.Pilot.@@N@@.Jvm.D
section Own
variable {p : Program} {l : Launch} {e : Env} {R : Room} {s : State} {m : MethodId} {args : Array Value} {below : List Frame} {meth : Method} {c : Code} {T T' : State} {cells slots : Nat} {Z : State} {bytes : ByteArray} {mL : Nat} {ret : Option FieldType} {own nm : String} {Q : Option Value → Heap → Prop} {cC cS : Nat} {pc : Nat} {Ls : Array Slot} {st : List Value} {a0 : Array Value} {g g' : JFrame}
/-- the walk stands at T, so many cells and slots made, nothing old written -/
def Wk (l : Launch) (Z : State) (R : Room) (bytes : ByteArray) (mL : Nat) (ret : Option FieldType) (own nm : String) (p : Program) (e : Env) (s : State) (m : MethodId) (args : Array Value) (below : List Frame) (meth : Method) (c : Code) (T : State) (cells slots : Nat) : Prop :=
  (p.tables.exec = Jvm.exec ∧ c.code = bytes ∧ c.maxLocals = mL ∧ meth.sig.returnType = ret ∧ meth.locks = false ∧ s.vm.findClass own = some m.cls ∧ meth.name = nm ∧ Z.Warmed39 s.vm) ∧
  ∃ locs, Stand p l e R s m args below meth c T locs cells slots ∧ Fr Z.heap.size locs ∧ Ext Z.heap T.heap
/-- from T with frame g the method comes to its end, and Q holds there -/
def Ends (p : Program) (e : Env) (below : List Frame) (s : State) (Z : State) (Q : Option Value → Heap → Prop) (cC cS : Nat) (T : State) (g : JFrame) : Prop :=
  ∃ t o, Steps p.tables e below (T.setTop g) t ∧ t.status = .running ∧ Ended t below o ∧ ∃ v L, o = .returned v ∧ (Fr Z.heap.size L ∧ Ext Z.heap t.heap ∧ Q v t.heap) ∧ FrameEnd s o t L cC cS
/-- a method's contract -/
def Ct (l : Launch) (Z : State) (y : MethodName) (bytes : ByteArray) (mL : Nat) (ret : Option FieldType) (rm : Room) (as' : Array Value) (h : Heap) (Q : Option Value → Heap → Prop) : Prop :=
  ∀ ws, MetFree l y (head1 (Jvm.Cond.code y bytes mL ret :: ws) rm) (fun a U => a = as' ∧ Z.Warmed39 U.vm ∧ U.heap = h) (fun _ _ _ _ _ => True) (fun _ U o U' => ∃ v L, o = .returned v ∧ (Fr Z.heap.size L ∧ Ext Z.heap U'.heap ∧ Q v U'.heap) ∧ FrameEnd U o U' L rm.cells rm.slots)
theorem Wk.hx (X : Wk l Z R bytes mL ret own nm p e s m args below meth c T cells slots) : p.tables.exec = Jvm.exec := X.1.1
theorem Wk.hb (X : Wk l Z R bytes mL ret own nm p e s m args below meth c T cells slots) {pc : Nat} {r : Except DecodeError (Instr × Nat)} (h : decode bytes pc = r) : decode c.code pc = r := X.1.2.1 ▸ h
theorem Wk.hown (X : Wk l Z R bytes mL ret own nm p e s m args below meth c T cells slots) : s.vm.findClass own = some m.cls := X.1.2.2.2.2.2.1
theorem Wk.hZ (X : Wk l Z R bytes mL ret own nm p e s m args below meth c T cells slots) : Z.Warmed39 s.vm := X.1.2.2.2.2.2.2.2
theorem Wk.at (X : Wk l Z R bytes mL ret own nm p e s m args below meth c T cells slots) : At T m c below := by obtain ⟨-, _, X, -⟩ := X; exact X.here
theorem Wk.old (X : Wk l Z R bytes mL ret own nm p e s m args below meth c T cells slots) : Ext Z.heap T.heap := by obtain ⟨-, _, -, -, X⟩ := X; exact X
theorem Wk.le (X : Wk l Z R bytes mL ret own nm p e s m args below meth c T cells slots) : Z.heap.size ≤ T.heap.size := X.old.1
theorem Wk.size (X : Wk l Z R bytes mL ret own nm p e s m args below meth c T cells slots) (h : Ls.size = mL) {pc : Nat} {st : List Value} : (mkF m pc Ls st).locals.size = c.maxLocals := h.trans X.1.2.2.1.symm
theorem Wk.more (X : Wk l Z R bytes mL ret own nm p e s m args below meth c T cells slots) {cells' slots' : Nat} (h1 : cells ≤ cells') (h2 : slots ≤ slots') : Wk l Z R bytes mL ret own nm p e s m args below meth c T cells' slots' := by
  obtain ⟨q, locs, Y, r⟩ := X; exact ⟨q, locs, Y.more h1 h2, r⟩
theorem E_by (f : ∀ target, Steps p.tables e below (T'.setTop g') target → Steps p.tables e below (T.setTop g) target) (k : Ends p e below s Z Q cC cS T' g') : Ends p e below s Z Q cC cS T g := by
  obtain ⟨t, o, h1, r⟩ := k; exact ⟨t, o, f _ h1, r⟩
theorem E_tr (f : Steps p.tables e below (T.setTop g) (T'.setTop g')) (k : Ends p e below s Z Q cC cS T' g') : Ends p e below s Z Q cC cS T g := E_by (fun _ q => f.trans q) k
theorem Keep.of_ext {h h' : Heap} (E : Ext h h') : Keep h h' [] := (Keep.refl h []).ext E
theorem own_keq {h h1 h2 : Heap} {ws : List Addr} (K : Keep h h1 ws) (q : h2 = h1) : Keep h h2 ws := q ▸ K
theorem Keep.old {h h' : Heap} {ws : List Addr} (O : Ext Z.heap h) (K : Keep h h' ws) (q : ∀ x ∈ ws, Z.heap.size ≤ x) : Ext Z.heap h' := ⟨Nat.le_trans O.1 K.1, fun x c r => K.2.1 x c (O.2 x c r) fun z => absurd (Array.getElem?_eq_some_iff.mp r).1 (Nat.not_lt.mpr (q x z))⟩
theorem Ct.of_body {y1 y2 y3 : String} {rm : Room} {as' : Array Value} {h : Heap} (pn : plainFor ⟨y1, y2, y3⟩ = true) (O : Ext Z.heap h) (ef : ∀ m, entryFrame m as' mL = mkF m 0 Ls [])
    (k : ∀ {p : Program} {e : Env} {s : State} {m : MethodId} {below : List Frame} {meth : Method} {c : Code} {T : State}, Wk l Z rm bytes mL ret y1 y2 p e s m as' below meth c T 0 0 → T.heap = h → Ends p e below s Z Q rm.cells rm.slots T (mkF m 0 Ls [])) : Ct l Z ⟨y1, y2, y3⟩ bytes mL ret rm as' h Q := by
  intro ws
  refine MetFree.of_bodySF pn hisR ?_
  intro p e s m args below meth c s₁ Bd hml0 hP hK
  obtain ⟨rfl, hZ, hh⟩ := hP
  have e0 : s₁.heap = h := by rw [← hh, Bd.state]; rfl
  have X : Wk l Z rm bytes mL ret y1 y2 p e s m args below meth c s₁ 0 0 := ⟨⟨Bd.exec, Bd.bytes, hml0, Bd.returns, Bd.notSynchronized, findClass_of_methodNamed Bd.named, (name_of_methodNamed Bd.named Bd.method).1, hZ⟩, [], Stand.of_body Bd, Fr.nil _, e0 ▸ O⟩
  obtain ⟨t, o, h1, r⟩ := k X e0
  exact ⟨t, o, castTop (ef m) h1, r⟩
theorem Ct.back {y : MethodName} {rm : Room} {as' : Array Value} {h : Heap} {mL' : Nat} {bytes' : ByteArray} {ret' : Option FieldType} {Q' : Option Value → Heap → Prop} (hC : Ct l Z y bytes' mL' ret' rm as' h Q') {len W : Nat}
    (hZ : Z.Warmed39 s.vm) (wc : (Jvm.Cond.code y bytes' mL' ret').before a0 Z = true) (wz : (Jvm.Cond.initialized y.cls).before a0 Z = true) (hf : rm.frames + 1 ≤ R.frames) (hl : W + (mL' + 11) + rm.locals ≤ R.locals) :
    Back l R p e below s args y len W (fun A a => a = as' ∧ A.U.heap = h ∧ A.cells + rm.cells ≤ R.cells ∧ A.slots + rm.slots ≤ R.slots)
      (fun A _ v B => ∃ L, (Fr Z.heap.size L ∧ Ext Z.heap B.U.heap ∧ Q' v B.U.heap) ∧ B.locs = A.locs ++ L ∧ B.cells = A.cells + rm.cells ∧ B.slots = A.slots + rm.slots) :=
  backOf (Q := fun v h L => Fr Z.heap.size L ∧ Ext Z.heap h ∧ Q' v h) (hC []) hZ wc wz hf hl

theorem E_aloadN (X : Wk l Z R bytes mL ret own nm p e s m args below meth c T cells slots) {j : Fin 4} {v : Value} (hd : decode bytes pc = .ok (.aload_n j, 1)) (hl : Ls[j.val]? = some (.val v)) (hv : v.isRef = true) {pc' : Nat} (hp : pc + 1 = pc') (k : Ends p e below s Z Q cC cS T (mkF m pc' Ls (v :: st))) : Ends p e below s Z Q cC cS T (mkF m pc Ls (st)) := by
  subst hp; exact E_by (fun _ q => XS.aloadN X.at X.hx rfl (X.hb hd) hl hv q) k
theorem E_aload (X : Wk l Z R bytes mL ret own nm p e s m args below meth c T cells slots) {j : Nat} {v : Value} (hd : decode bytes pc = .ok (.aload j, 2)) (hl : Ls[j]? = some (.val v)) (hv : v.isRef = true) {pc' : Nat} (hp : pc + 2 = pc') (k : Ends p e below s Z Q cC cS T (mkF m pc' Ls (v :: st))) : Ends p e below s Z Q cC cS T (mkF m pc Ls (st)) := by
  subst hp; exact E_by (fun _ q => XS.aload X.at X.hx rfl (X.hb hd) hl hv q) k
theorem E_iloadN (X : Wk l Z R bytes mL ret own nm p e s m args below meth c T cells slots) {j : Fin 4} {v : Int32} (hd : decode bytes pc = .ok (.iload_n j, 1)) (hl : Ls[j.val]? = some (.val (.int v))) {pc' : Nat} (hp : pc + 1 = pc') (k : Ends p e below s Z Q cC cS T (mkF m pc' Ls (.int v :: st))) : Ends p e below s Z Q cC cS T (mkF m pc Ls (st)) := by
  subst hp; exact E_by (fun _ q => XS.iloadN X.at X.hx rfl (X.hb hd) hl q) k
theorem E_iload (X : Wk l Z R bytes mL ret own nm p e s m args below meth c T cells slots) {j : Nat} {v : Int32} (hd : decode bytes pc = .ok (.iload j, 2)) (hl : Ls[j]? = some (.val (.int v))) {pc' : Nat} (hp : pc + 2 = pc') (k : Ends p e below s Z Q cC cS T (mkF m pc' Ls (.int v :: st))) : Ends p e below s Z Q cC cS T (mkF m pc Ls (st)) := by
  subst hp; exact E_by (fun _ q => XS.iload X.at X.hx rfl (X.hb hd) hl q) k
theorem E_aconstNull (X : Wk l Z R bytes mL ret own nm p e s m args below meth c T cells slots) (hd : decode bytes pc = .ok (.aconst_null, 1)) {pc' : Nat} (hp : pc + 1 = pc') (k : Ends p e below s Z Q cC cS T (mkF m pc' Ls (.null :: st))) : Ends p e below s Z Q cC cS T (mkF m pc Ls (st)) := by
  subst hp; exact E_by (fun _ q => XS.aconstNull X.at X.hx rfl (X.hb hd) q) k
theorem E_iconst (X : Wk l Z R bytes mL ret own nm p e s m args below meth c T cells slots) {i : Int} {v : Int32} (hd : decode bytes pc = .ok (.iconst i, 1)) (hv : Int32.ofInt i = v) {pc' : Nat} (hp : pc + 1 = pc') (k : Ends p e below s Z Q cC cS T (mkF m pc' Ls (.int v :: st))) : Ends p e below s Z Q cC cS T (mkF m pc Ls st) := by
  subst hp hv; exact E_by (fun _ q => XS.iconst X.at X.hx rfl (X.hb hd) q) k
theorem E_bipush (X : Wk l Z R bytes mL ret own nm p e s m args below meth c T cells slots) {i : Int} {v : Int32} (hd : decode bytes pc = .ok (.bipush i, 2)) (hv : (Int8.ofInt i).toInt32 = v) {pc' : Nat} (hp : pc + 2 = pc') (k : Ends p e below s Z Q cC cS T (mkF m pc' Ls (.int v :: st))) : Ends p e below s Z Q cC cS T (mkF m pc Ls st) := by
  subst hp hv; exact E_by (fun _ q => XS.bipush X.at X.hx rfl (X.hb hd) q) k
theorem E_sipush (X : Wk l Z R bytes mL ret own nm p e s m args below meth c T cells slots) {i : Int} {v : Int32} (hd : decode bytes pc = .ok (.sipush i, 3)) (hv : (Int16.ofInt i).toInt32 = v) {pc' : Nat} (hp : pc + 3 = pc') (k : Ends p e below s Z Q cC cS T (mkF m pc' Ls (.int v :: st))) : Ends p e below s Z Q cC cS T (mkF m pc Ls st) := by
  subst hp hv; exact E_by (fun _ q => XS.sipush X.at X.hx rfl (X.hb hd) q) k
theorem E_iadd (X : Wk l Z R bytes mL ret own nm p e s m args below meth c T cells slots) {x y v : Int32} (hd : decode bytes pc = .ok (.iadd, 1)) (hv : x + y = v) {pc' : Nat} (hp : pc + 1 = pc') (k : Ends p e below s Z Q cC cS T (mkF m pc' Ls (.int v :: st))) : Ends p e below s Z Q cC cS T (mkF m pc Ls (.int y :: .int x :: st)) := by
  subst hp hv; exact E_by (fun _ q => XS.iadd X.at X.hx rfl (X.hb hd) rfl q) k
theorem E_isub (X : Wk l Z R bytes mL ret own nm p e s m args below meth c T cells slots) {x y v : Int32} (hd : decode bytes pc = .ok (.isub, 1)) (hv : x - y = v) {pc' : Nat} (hp : pc + 1 = pc') (k : Ends p e below s Z Q cC cS T (mkF m pc' Ls (.int v :: st))) : Ends p e below s Z Q cC cS T (mkF m pc Ls (.int y :: .int x :: st)) := by
  subst hp hv; exact E_by (fun _ q => XS.isub X.at X.hx rfl (X.hb hd) rfl q) k
theorem E_imul (X : Wk l Z R bytes mL ret own nm p e s m args below meth c T cells slots) {x y v : Int32} (hd : decode bytes pc = .ok (.imul, 1)) (hv : x * y = v) {pc' : Nat} (hp : pc + 1 = pc') (k : Ends p e below s Z Q cC cS T (mkF m pc' Ls (.int v :: st))) : Ends p e below s Z Q cC cS T (mkF m pc Ls (.int y :: .int x :: st)) := by
  subst hp hv; exact E_by (fun _ q => XS.imul X.at X.hx rfl (X.hb hd) rfl q) k
theorem E_iand (X : Wk l Z R bytes mL ret own nm p e s m args below meth c T cells slots) {x y v : Int32} (hd : decode bytes pc = .ok (.iand, 1)) (hv : x &&& y = v) {pc' : Nat} (hp : pc + 1 = pc') (k : Ends p e below s Z Q cC cS T (mkF m pc' Ls (.int v :: st))) : Ends p e below s Z Q cC cS T (mkF m pc Ls (.int y :: .int x :: st)) := by
  subst hp hv; exact E_by (fun _ q => XS.iand X.at X.hx rfl (X.hb hd) rfl q) k
theorem E_ior (X : Wk l Z R bytes mL ret own nm p e s m args below meth c T cells slots) {x y v : Int32} (hd : decode bytes pc = .ok (.ior, 1)) (hv : x ||| y = v) {pc' : Nat} (hp : pc + 1 = pc') (k : Ends p e below s Z Q cC cS T (mkF m pc' Ls (.int v :: st))) : Ends p e below s Z Q cC cS T (mkF m pc Ls (.int y :: .int x :: st)) := by
  subst hp hv; exact E_by (fun _ q => XS.ior X.at X.hx rfl (X.hb hd) rfl q) k
theorem E_ixor (X : Wk l Z R bytes mL ret own nm p e s m args below meth c T cells slots) {x y v : Int32} (hd : decode bytes pc = .ok (.ixor, 1)) (hv : x ^^^ y = v) {pc' : Nat} (hp : pc + 1 = pc') (k : Ends p e below s Z Q cC cS T (mkF m pc' Ls (.int v :: st))) : Ends p e below s Z Q cC cS T (mkF m pc Ls (.int y :: .int x :: st)) := by
  subst hp hv; exact E_by (fun _ q => XS.ixor X.at X.hx rfl (X.hb hd) rfl q) k
theorem E_ishl (X : Wk l Z R bytes mL ret own nm p e s m args below meth c T cells slots) {x y v : Int32} (hd : decode bytes pc = .ok (.ishl, 1)) (hv : x <<< (y &&& 31) = v) {pc' : Nat} (hp : pc + 1 = pc') (k : Ends p e below s Z Q cC cS T (mkF m pc' Ls (.int v :: st))) : Ends p e below s Z Q cC cS T (mkF m pc Ls (.int y :: .int x :: st)) := by
  subst hp hv; exact E_by (fun _ q => XS.ishl X.at X.hx rfl (X.hb hd) rfl q) k
theorem E_ishr (X : Wk l Z R bytes mL ret own nm p e s m args below meth c T cells slots) {x y v : Int32} (hd : decode bytes pc = .ok (.ishr, 1)) (hv : x >>> (y &&& 31) = v) {pc' : Nat} (hp : pc + 1 = pc') (k : Ends p e below s Z Q cC cS T (mkF m pc' Ls (.int v :: st))) : Ends p e below s Z Q cC cS T (mkF m pc Ls (.int y :: .int x :: st)) := by
  subst hp hv; exact E_by (fun _ q => XS.ishr X.at X.hx rfl (X.hb hd) rfl q) k
theorem E_iushr (X : Wk l Z R bytes mL ret own nm p e s m args below meth c T cells slots) {x y v : Int32} (hd : decode bytes pc = .ok (.iushr, 1)) (hv : (x.toUInt32 >>> (y &&& 31).toUInt32).toInt32 = v) {pc' : Nat} (hp : pc + 1 = pc') (k : Ends p e below s Z Q cC cS T (mkF m pc' Ls (.int v :: st))) : Ends p e below s Z Q cC cS T (mkF m pc Ls (.int y :: .int x :: st)) := by
  subst hp hv; exact E_by (fun _ q => XS.iushr X.at X.hx rfl (X.hb hd) rfl q) k
theorem E_ineg (X : Wk l Z R bytes mL ret own nm p e s m args below meth c T cells slots) {x v : Int32} (hd : decode bytes pc = .ok (.ineg, 1)) (hv : -x = v) {pc' : Nat} (hp : pc + 1 = pc') (k : Ends p e below s Z Q cC cS T (mkF m pc' Ls (.int v :: st))) : Ends p e below s Z Q cC cS T (mkF m pc Ls (.int x :: st)) := by
  subst hp hv; exact E_by (fun _ q => XS.ineg X.at X.hx rfl (X.hb hd) rfl q) k
theorem E_i2c (X : Wk l Z R bytes mL ret own nm p e s m args below meth c T cells slots) {x v : Int32} (hd : decode bytes pc = .ok (.i2c, 1)) (hv : x.toUInt32.toUInt16.toUInt32.toInt32 = v) {pc' : Nat} (hp : pc + 1 = pc') (k : Ends p e below s Z Q cC cS T (mkF m pc' Ls (.int v :: st))) : Ends p e below s Z Q cC cS T (mkF m pc Ls (.int x :: st)) := by
  subst hp hv; exact E_by (fun _ q => XS.i2c X.at X.hx rfl (X.hb hd) rfl q) k
theorem E_i2b (X : Wk l Z R bytes mL ret own nm p e s m args below meth c T cells slots) {x v : Int32} (hd : decode bytes pc = .ok (.i2b, 1)) (hv : x.toInt8.toInt32 = v) {pc' : Nat} (hp : pc + 1 = pc') (k : Ends p e below s Z Q cC cS T (mkF m pc' Ls (.int v :: st))) : Ends p e below s Z Q cC cS T (mkF m pc Ls (.int x :: st)) := by
  subst hp hv; exact E_by (fun _ q => XS.i2b X.at X.hx rfl (X.hb hd) rfl q) k
theorem E_i2s (X : Wk l Z R bytes mL ret own nm p e s m args below meth c T cells slots) {x v : Int32} (hd : decode bytes pc = .ok (.i2s, 1)) (hv : x.toInt16.toInt32 = v) {pc' : Nat} (hp : pc + 1 = pc') (k : Ends p e below s Z Q cC cS T (mkF m pc' Ls (.int v :: st))) : Ends p e below s Z Q cC cS T (mkF m pc Ls (.int x :: st)) := by
  subst hp hv; exact E_by (fun _ q => XS.i2s X.at X.hx rfl (X.hb hd) rfl q) k
theorem E_dup (X : Wk l Z R bytes mL ret own nm p e s m args below meth c T cells slots) {v : Value} (hd : decode bytes pc = .ok (.dup, 1)) (hc : v.category = 1) {pc' : Nat} (hp : pc + 1 = pc') (k : Ends p e below s Z Q cC cS T (mkF m pc' Ls (v :: v :: st))) : Ends p e below s Z Q cC cS T (mkF m pc Ls (v :: st)) := by
  subst hp; exact E_by (fun _ q => XS.dup X.at X.hx rfl (X.hb hd) rfl hc q) k
theorem E_pop (X : Wk l Z R bytes mL ret own nm p e s m args below meth c T cells slots) {v : Value} (hd : decode bytes pc = .ok (.pop, 1)) (hc : v.category = 1) {pc' : Nat} (hp : pc + 1 = pc') (k : Ends p e below s Z Q cC cS T (mkF m pc' Ls (st))) : Ends p e below s Z Q cC cS T (mkF m pc Ls (v :: st)) := by
  subst hp; exact E_by (fun _ q => XS.pop X.at X.hx rfl (X.hb hd) rfl hc q) k
theorem E_istoreN (X : Wk l Z R bytes mL ret own nm p e s m args below meth c T cells slots) {j : Fin 4} {x : Int32} (hd : decode bytes pc = .ok (.istore_n j, 1)) {l' : Array Slot} (hl : storeLocals Ls j.val (.int x) = some l') {pc' : Nat} (hp : pc + 1 = pc') (k : Ends p e below s Z Q cC cS T (mkF m pc' l' (st))) : Ends p e below s Z Q cC cS T (mkF m pc Ls (.int x :: st)) := by
  subst hp; exact E_by (fun _ q => XS.istoreN X.at X.hx rfl (X.hb hd) rfl hl q) k
theorem E_istore (X : Wk l Z R bytes mL ret own nm p e s m args below meth c T cells slots) {j : Nat} {x : Int32} (hd : decode bytes pc = .ok (.istore j, 2)) {l' : Array Slot} (hl : storeLocals Ls j (.int x) = some l') {pc' : Nat} (hp : pc + 2 = pc') (k : Ends p e below s Z Q cC cS T (mkF m pc' l' (st))) : Ends p e below s Z Q cC cS T (mkF m pc Ls (.int x :: st)) := by
  subst hp; exact E_by (fun _ q => XS.istore X.at X.hx rfl (X.hb hd) rfl hl q) k
theorem E_astoreN (X : Wk l Z R bytes mL ret own nm p e s m args below meth c T cells slots) {j : Fin 4} {x : Value} (hd : decode bytes pc = .ok (.astore_n j, 1)) (hv : x.isRef = true) {l' : Array Slot} (hl : storeLocals Ls j.val x = some l') {pc' : Nat} (hp : pc + 1 = pc') (k : Ends p e below s Z Q cC cS T (mkF m pc' l' (st))) : Ends p e below s Z Q cC cS T (mkF m pc Ls (x :: st)) := by
  subst hp; exact E_by (fun _ q => XS.astoreN X.at X.hx rfl (X.hb hd) rfl hv hl q) k
theorem E_astore (X : Wk l Z R bytes mL ret own nm p e s m args below meth c T cells slots) {j : Nat} {x : Value} (hd : decode bytes pc = .ok (.astore j, 2)) (hv : x.isRef = true) {l' : Array Slot} (hl : storeLocals Ls j x = some l') {pc' : Nat} (hp : pc + 2 = pc') (k : Ends p e below s Z Q cC cS T (mkF m pc' l' (st))) : Ends p e below s Z Q cC cS T (mkF m pc Ls (x :: st)) := by
  subst hp; exact E_by (fun _ q => XS.astore X.at X.hx rfl (X.hb hd) rfl hv hl q) k
theorem E_iinc (X : Wk l Z R bytes mL ret own nm p e s m args below meth c T cells slots) {j : Nat} {i : Int} {x v : Int32} (hd : decode bytes pc = .ok (.iinc j i, 3)) (hv : Int32.ofInt i = v) (hl : Ls[j]? = some (.val (.int x))) {l' : Array Slot} (hl' : storeLocals Ls j (.int (x + v)) = some l') {pc' : Nat} (hp : pc + 3 = pc') (k : Ends p e below s Z Q cC cS T (mkF m pc' l' st)) : Ends p e below s Z Q cC cS T (mkF m pc Ls st) := by
  subst hp hv; exact E_by (fun _ q => XS.iinc X.at X.hx rfl (X.hb hd) hl hl' q) k
theorem E_irem (X : Wk l Z R bytes mL ret own nm p e s m args below meth c T cells slots) {x y v : Int32} (hd : decode bytes pc = .ok (.irem, 1)) (hy : y ≠ 0) (hv : x % y = v) {pc' : Nat} (hp : pc + 1 = pc') (k : Ends p e below s Z Q cC cS T (mkF m pc' Ls (.int v :: st))) : Ends p e below s Z Q cC cS T (mkF m pc Ls (.int y :: .int x :: st)) := by
  subst hp hv; obtain ⟨q, locs, Y, r⟩ := id X; exact E_by (fun _ k => iremM Y X.hx rfl (X.hb hd) rfl hy k) k
theorem E_idiv (X : Wk l Z R bytes mL ret own nm p e s m args below meth c T cells slots) {x y v : Int32} (hd : decode bytes pc = .ok (.idiv, 1)) (hy : y ≠ 0) (hv : x / y = v) {pc' : Nat} (hp : pc + 1 = pc') (k : Ends p e below s Z Q cC cS T (mkF m pc' Ls (.int v :: st))) : Ends p e below s Z Q cC cS T (mkF m pc Ls (.int y :: .int x :: st)) := by
  subst hp hv; exact E_by (fun _ k => XS.idiv X.at X.hx rfl (X.hb hd) rfl hy k) k
theorem E_goto (X : Wk l Z R bytes mL ret own nm p e s m args below meth c T cells slots) {o : Int} (hd : decode bytes pc = .ok (.goto o, 3)) {pc' : Nat} (ho : 0 ≤ (pc : Int) + o) (hp : ((pc : Int) + o).toNat = pc') (k : Ends p e below s Z Q cC cS T (mkF m pc' Ls st)) : Ends p e below s Z Q cC cS T (mkF m pc Ls st) :=
  E_by (fun _ q => XS.goto X.at X.hx rfl (pc0 := pc) rfl (X.hb hd) ho hp q) k
theorem E_ifT (X : Wk l Z R bytes mL ret own nm p e s m args below meth c T cells slots) {cd : ClassFile.Cond} {o : Int} {x : Int32} (hd : decode bytes pc = .ok (.ifCond cd o, 3)) (hc : ifCond.holds cd x = true) {pc' : Nat} (ho : 0 ≤ (pc : Int) + o) (hp : ((pc : Int) + o).toNat = pc') (k : Ends p e below s Z Q cC cS T (mkF m pc' Ls st)) : Ends p e below s Z Q cC cS T (mkF m pc Ls (.int x :: st)) :=
  E_by (fun _ q => XS.ifYes X.at X.hx rfl (pc0 := pc) rfl (X.hb hd) rfl hc ho hp q) k
theorem E_ifF (X : Wk l Z R bytes mL ret own nm p e s m args below meth c T cells slots) {cd : ClassFile.Cond} {o : Int} {x : Int32} (hd : decode bytes pc = .ok (.ifCond cd o, 3)) (hc : ifCond.holds cd x = false) {pc' : Nat} (hp : pc + 3 = pc') (k : Ends p e below s Z Q cC cS T (mkF m pc' Ls st)) : Ends p e below s Z Q cC cS T (mkF m pc Ls (.int x :: st)) := by
  subst hp; exact E_by (fun _ q => XS.ifNo X.at X.hx rfl (X.hb hd) rfl hc q) k
theorem E_icT (X : Wk l Z R bytes mL ret own nm p e s m args below meth c T cells slots) {cd : ClassFile.Cond} {o : Int} {x y : Int32} (hd : decode bytes pc = .ok (.if_icmp cd o, 3)) (hc : if_icmp.holds cd x y = true) {pc' : Nat} (ho : 0 ≤ (pc : Int) + o) (hp : ((pc : Int) + o).toNat = pc') (k : Ends p e below s Z Q cC cS T (mkF m pc' Ls st)) : Ends p e below s Z Q cC cS T (mkF m pc Ls (.int y :: .int x :: st)) :=
  E_by (fun _ q => XS.icmpYes X.at X.hx rfl (pc0 := pc) rfl (X.hb hd) rfl hc ho hp q) k
theorem E_icF (X : Wk l Z R bytes mL ret own nm p e s m args below meth c T cells slots) {cd : ClassFile.Cond} {o : Int} {x y : Int32} (hd : decode bytes pc = .ok (.if_icmp cd o, 3)) (hc : if_icmp.holds cd x y = false) {pc' : Nat} (hp : pc + 3 = pc') (k : Ends p e below s Z Q cC cS T (mkF m pc' Ls st)) : Ends p e below s Z Q cC cS T (mkF m pc Ls (.int y :: .int x :: st)) := by
  subst hp; exact E_by (fun _ q => XS.icmpNo X.at X.hx rfl (X.hb hd) rfl hc q) k
theorem E_nullT (X : Wk l Z R bytes mL ret own nm p e s m args below meth c T cells slots) {o : Int} (hd : decode bytes pc = .ok (.ifnull o, 3)) {pc' : Nat} (ho : 0 ≤ (pc : Int) + o) (hp : ((pc : Int) + o).toNat = pc') (k : Ends p e below s Z Q cC cS T (mkF m pc' Ls st)) : Ends p e below s Z Q cC cS T (mkF m pc Ls (.null :: st)) :=
  E_by (fun _ q => XS.ifnullYes X.at X.hx rfl (pc0 := pc) rfl (X.hb hd) rfl ho hp q) k
theorem E_nullF (X : Wk l Z R bytes mL ret own nm p e s m args below meth c T cells slots) {o : Int} {b : Addr} (hd : decode bytes pc = .ok (.ifnull o, 3)) {pc' : Nat} (hp : pc + 3 = pc') (k : Ends p e below s Z Q cC cS T (mkF m pc' Ls st)) : Ends p e below s Z Q cC cS T (mkF m pc Ls (.ref b :: st)) := by
  subst hp; exact E_by (fun _ q => XS.ifnullNo X.at X.hx rfl (X.hb hd) rfl q) k
theorem E_nonnullT (X : Wk l Z R bytes mL ret own nm p e s m args below meth c T cells slots) {o : Int} {b : Addr} (hd : decode bytes pc = .ok (.ifnonnull o, 3)) {pc' : Nat} (ho : 0 ≤ (pc : Int) + o) (hp : ((pc : Int) + o).toNat = pc') (k : Ends p e below s Z Q cC cS T (mkF m pc' Ls st)) : Ends p e below s Z Q cC cS T (mkF m pc Ls (.ref b :: st)) :=
  E_by (fun _ q => XT.nonnullYes X.at X.hx rfl (pc0 := pc) rfl (X.hb hd) rfl rfl (fun q => nomatch q) ho hp q) k
theorem E_nonnullF (X : Wk l Z R bytes mL ret own nm p e s m args below meth c T cells slots) {o : Int} (hd : decode bytes pc = .ok (.ifnonnull o, 3)) {pc' : Nat} (hp : pc + 3 = pc') (k : Ends p e below s Z Q cC cS T (mkF m pc' Ls st)) : Ends p e below s Z Q cC cS T (mkF m pc Ls (.null :: st)) := by
  subst hp; exact E_by (fun _ q => XT.nonnullNo X.at X.hx rfl (X.hb hd) rfl rfl q) k
theorem E_acmp (X : Wk l Z R bytes mL ret own nm p e s m args below meth c T cells slots) {cd : ACond} {o : Int} {x y : Value} (hd : decode bytes pc = .ok (.if_acmp cd o, 3)) (h1 : x.isRef = true) (h2 : y.isRef = true) (same : Bool) (hq : decide (x = y) = same) {pc' : Nat} (ho : 0 ≤ (pc : Int) + o) (hp : pc' = if acV cd same = true then ((pc : Int) + o).toNat else pc + 3) (k : Ends p e below s Z Q cC cS T (mkF m pc' Ls st)) : Ends p e below s Z Q cC cS T (mkF m pc Ls (y :: x :: st)) := by
  obtain ⟨_, locs, Y, r⟩ := id X; exact E_by (fun _ q => acmp Y X.hx rfl h1 h2 (pc0 := pc) rfl (X.hb hd) rfl hq ho hp q) k
theorem E_ldcI (X : Wk l Z R bytes mL ret own nm p e s m args below meth c T cells slots) {ix : Nat} {v : Int32} (hd : decode bytes pc = .ok (.ldc ix, 2)) (w : (Jvm.Cond.constant own ix v).before a0 Z = true) {pc' : Nat} (hp : pc + 2 = pc') (k : Ends p e below s Z Q cC cS T (mkF m pc' Ls (.int v :: st))) : Ends p e below s Z Q cC cS T (mkF m pc Ls st) := by
  subst hp; obtain ⟨_, locs, Y, r⟩ := id X; exact E_by (fun _ q => Y.ldcI X.hx X.hown (mvT X.hZ w) rfl (X.hb hd) q) k
theorem E_new (X : Wk l Z R bytes mL ret own nm p e s m args below meth c T cells slots) {C : String} {ix n : Nat} (hd : decode bytes pc = .ok (.new ix, 3)) (w1 : (Jvm.Cond.classLink own ix C).before a0 Z = true) (w2 : (Jvm.Cond.instantiable C n).before a0 Z = true) (w3 : (Jvm.Cond.initialized C).before a0 Z = true) (hc : cells + 1 ≤ R.cells) (hs : slots + n ≤ R.slots) {pc' : Nat} (hp : pc + 3 = pc')
    (k : ∀ (T' : State) (b : Addr), Wk l Z R bytes mL ret own nm p e s m args below meth c T' (cells + 1) (slots + n) → b = T.heap.size → Keep T.heap T'.heap [] → Exa Z T'.heap b C → (∀ {O nm d : String} {ty : FieldType}, Laid Z a0 C O nm d → parseFieldDescriptor d = some ty → Fld Z T'.heap b O nm d (defaultValue ty)) → Ends p e below s Z Q cC cS T' (mkF m pc' Ls (.ref b :: st))) : Ends p e below s Z Q cC cS T (mkF m pc Ls st) := by
  subst hp; obtain ⟨q0, locs, Y, N, O⟩ := id X
  obtain ⟨T', h', Y', rfl, E, A, D, -, stp⟩ := newO Y X.hx X.hZ X.hown w1 w2 w3 rfl (g := mkF m pc Ls st) rfl (X.hb hd) hc hs
  exact E_by stp (k T' _ ⟨q0, locs, Y', N, Keep.old O (Keep.of_ext E) all0⟩ rfl (Keep.of_ext E) A D)
theorem E_newarray (X : Wk l Z R bytes mL ret own nm p e s m args below meth c T cells slots) {aty : ArrayType} {n : Int32} (cap : Nat) (hd : decode bytes pc = .ok (.newarray aty, 2)) (w : (Jvm.Cond.arrayClass (newarray.typeOf aty)).before a0 Z = true) (hn : ¬ n < 0) (hcap : n.toNatClampNeg ≤ cap) (hb : cap * 8 ≤ 536870912) (hc : cells + 1 ≤ R.cells) (hs : slots + cap ≤ R.slots) {pc' : Nat} (hp : pc + 2 = pc')
    (k : ∀ (T' : State) (b : Addr) (kA : ClassId), Wk l Z R bytes mL ret own nm p e s m args below meth c T' (cells + 1) (slots + cap) → b = T.heap.size → Keep T.heap T'.heap [] → Arv Z T'.heap b kA (newarray.typeOf aty) n [] (defaultValue (newarray.typeOf aty)) → Ends p e below s Z Q cC cS T' (mkF m pc' Ls (.ref b :: st))) : Ends p e below s Z Q cC cS T (mkF m pc Ls (.int n :: st)) := by
  subst hp; obtain ⟨q0, locs, Y, N, O⟩ := id X
  obtain ⟨T', h', kA, Y', rfl, E, A, stp⟩ := newP Y X.hx X.hZ w rfl (g := mkF m pc Ls (.int n :: st)) rfl (X.hb hd) rfl hn hcap hb hc hs
  exact E_by stp (k T' _ kA ⟨q0, locs, Y', N, Keep.old O (Keep.of_ext E) all0⟩ rfl (Keep.of_ext E) (Arv.new A hn))
theorem E_iastore (X : Wk l Z R bytes mL ret own nm p e s m args below meth c T cells slots) {a : Addr} {kA : ClassId} {z j x : Int32} {vs : List Value} {dv : Value} (i : Nat) (hd : decode bytes pc = .ok (.iastore, 1)) (V : Arv Z T.heap a kA .int z vs dv) (hj : ¬ j < 0 ∧ j < z) (hi : j.toNatClampNeg = i) (hl : i < vs.length) (ha : Z.heap.size ≤ a) {pc' : Nat} (hp : pc + 1 = pc')
    (k : ∀ (T' : State), Wk l Z R bytes mL ret own nm p e s m args below meth c T' cells slots → Keep T.heap T'.heap [a] → Arv Z T'.heap a kA .int z (vs.set i (.int (x))) dv → Ends p e below s Z Q cC cS T' (mkF m pc' Ls st)) : Ends p e below s Z Q cC cS T (mkF m pc Ls (.int x :: .int j :: .ref a :: st)) := by
  subst hp; obtain ⟨q0, locs, Y, N, O⟩ := id X
  obtain ⟨cl, A, q1, S1, N1, H1, G1⟩ := V
  obtain ⟨T', h', Y', rfl, W, stp⟩ := stI Y X.hx X.hZ rfl A (j := j) (x := x) (inb_of S1 hj) (g := mkF m pc Ls (.int x :: .int j :: .ref a :: st)) rfl rfl (X.hb hd)
  exact E_by stp (k T' ⟨q0, _, Y', Fr.snoc Y' N ha, Keep.old O (Keep.of_wr W) (allS ha all0)⟩ (Keep.of_wr W) (Arv.set A q1 S1 N1 H1 G1 (rfl) W i hi hl))
theorem E_castore (X : Wk l Z R bytes mL ret own nm p e s m args below meth c T cells slots) {a : Addr} {kA : ClassId} {z j x : Int32} {vs : List Value} {dv : Value} (i : Nat) (hd : decode bytes pc = .ok (.castore, 1)) (V : Arv Z T.heap a kA .char z vs dv) (hj : ¬ j < 0 ∧ j < z) (hi : j.toNatClampNeg = i) (hl : i < vs.length) (ha : Z.heap.size ≤ a) {pc' : Nat} (hp : pc + 1 = pc')
    (k : ∀ (T' : State), Wk l Z R bytes mL ret own nm p e s m args below meth c T' cells slots → Keep T.heap T'.heap [a] → Arv Z T'.heap a kA .char z (vs.set i (.int (nar .char x))) dv → Ends p e below s Z Q cC cS T' (mkF m pc' Ls st)) : Ends p e below s Z Q cC cS T (mkF m pc Ls (.int x :: .int j :: .ref a :: st)) := by
  subst hp; obtain ⟨q0, locs, Y, N, O⟩ := id X
  obtain ⟨cl, A, q1, S1, N1, H1, G1⟩ := V
  obtain ⟨T', h', Y', rfl, W, stp⟩ := stC Y X.hx X.hZ rfl A (j := j) (x := x) (inb_of S1 hj) (g := mkF m pc Ls (.int x :: .int j :: .ref a :: st)) rfl rfl (X.hb hd)
  exact E_by stp (k T' ⟨q0, _, Y', Fr.snoc Y' N ha, Keep.old O (Keep.of_wr W) (allS ha all0)⟩ (Keep.of_wr W) (Arv.set A q1 S1 N1 H1 G1 (fits_nar_char _) W i hi hl))
theorem E_bastore (X : Wk l Z R bytes mL ret own nm p e s m args below meth c T cells slots) {a : Addr} {kA : ClassId} {z j x : Int32} {vs : List Value} {dv : Value} (i : Nat) (hd : decode bytes pc = .ok (.bastore, 1)) (V : Arv Z T.heap a kA .byte z vs dv) (hj : ¬ j < 0 ∧ j < z) (hi : j.toNatClampNeg = i) (hl : i < vs.length) (ha : Z.heap.size ≤ a) {pc' : Nat} (hp : pc + 1 = pc')
    (k : ∀ (T' : State), Wk l Z R bytes mL ret own nm p e s m args below meth c T' cells slots → Keep T.heap T'.heap [a] → Arv Z T'.heap a kA .byte z (vs.set i (.int (x.toInt8.toInt32))) dv → Ends p e below s Z Q cC cS T' (mkF m pc' Ls st)) : Ends p e below s Z Q cC cS T (mkF m pc Ls (.int x :: .int j :: .ref a :: st)) := by
  subst hp; obtain ⟨q0, locs, Y, N, O⟩ := id X
  obtain ⟨cl, A, q1, S1, N1, H1, G1⟩ := V
  obtain ⟨T', h', Y', rfl, W, stp⟩ := stB Y X.hx X.hZ rfl A (j := j) (x := x) (inb_of S1 hj) (g := mkF m pc Ls (.int x :: .int j :: .ref a :: st)) rfl rfl (X.hb hd)
  exact E_by stp (k T' ⟨q0, _, Y', Fr.snoc Y' N ha, Keep.old O (Keep.of_wr W) (allS ha all0)⟩ (Keep.of_wr W) (Arv.set A q1 S1 N1 H1 G1 (fits_nar_byte _) W i hi hl))
theorem E_iaload (X : Wk l Z R bytes mL ret own nm p e s m args below meth c T cells slots) {a : Addr} {kA : ClassId} {z j : Int32} {vs : List Value} {dv v : Value} (hd : decode bytes pc = .ok (.iaload, 1)) (V : Arv Z T.heap a kA .int z vs dv) (hj : ¬ j < 0 ∧ j < z) (hv : vs.getD j.toNatClampNeg dv = v) {pc' : Nat} (hp : pc + 1 = pc')
    (k : Ends p e below s Z Q cC cS T (mkF m pc' Ls (v :: st))) : Ends p e below s Z Q cC cS T (mkF m pc Ls (.int j :: .ref a :: st)) := by
  subst hp; obtain ⟨q0, locs, Y, N, O⟩ := id X
  obtain ⟨cl, A, q1, S1, N1, H1, G1⟩ := V
  exact E_by (Y.iaload X.hx A.1 (State.isArrayOf_alike X.hZ.alike A.2.1) A.2.2 (inb_of S1 hj) (Has.at H1 (inb_of S1 hj) hv) (g := mkF m pc Ls (.int j :: .ref a :: st)) rfl rfl (X.hb hd)) k
theorem E_caload (X : Wk l Z R bytes mL ret own nm p e s m args below meth c T cells slots) {a : Addr} {kA : ClassId} {z j : Int32} {vs : List Value} {dv v : Value} (hd : decode bytes pc = .ok (.caload, 1)) (V : Arv Z T.heap a kA .char z vs dv) (hj : ¬ j < 0 ∧ j < z) (hv : vs.getD j.toNatClampNeg dv = v) {pc' : Nat} (hp : pc + 1 = pc')
    (k : Ends p e below s Z Q cC cS T (mkF m pc' Ls (v :: st))) : Ends p e below s Z Q cC cS T (mkF m pc Ls (.int j :: .ref a :: st)) := by
  subst hp; obtain ⟨q0, locs, Y, N, O⟩ := id X
  obtain ⟨cl, A, q1, S1, N1, H1, G1⟩ := V
  exact E_by (Y.caload X.hx A.1 (State.isArrayOf_alike X.hZ.alike A.2.1) A.2.2 (inb_of S1 hj) (Has.at H1 (inb_of S1 hj) hv) (g := mkF m pc Ls (.int j :: .ref a :: st)) rfl rfl (X.hb hd)) k
theorem E_baload (X : Wk l Z R bytes mL ret own nm p e s m args below meth c T cells slots) {a : Addr} {kA : ClassId} {z j : Int32} {vs : List Value} {dv v : Value} (hd : decode bytes pc = .ok (.baload, 1)) (V : Arv Z T.heap a kA .byte z vs dv) (hj : ¬ j < 0 ∧ j < z) (hv : vs.getD j.toNatClampNeg dv = v) {pc' : Nat} (hp : pc + 1 = pc')
    (k : Ends p e below s Z Q cC cS T (mkF m pc' Ls (v :: st))) : Ends p e below s Z Q cC cS T (mkF m pc Ls (.int j :: .ref a :: st)) := by
  subst hp; obtain ⟨q0, locs, Y, N, O⟩ := id X
  obtain ⟨cl, A, q1, S1, N1, H1, G1⟩ := V
  exact E_by (Y.baloadBytes X.hx A.1 (State.isArrayOf_alike X.hZ.alike A.2.1) A.2.2 (inb_of S1 hj) (Has.at H1 (inb_of S1 hj) hv) (g := mkF m pc Ls (.int j :: .ref a :: st)) rfl rfl (X.hb hd)) k
theorem E_aaload (X : Wk l Z R bytes mL ret own nm p e s m args below meth c T cells slots) {a : Addr} {kA : ClassId} {z j : Int32} {vs : List Value} {dv v : Value} {ty : FieldType} (hd : decode bytes pc = .ok (.aaload, 1)) (V : Arv Z T.heap a kA ty z vs dv) (hty : ty.isReference = true) (hj : ¬ j < 0 ∧ j < z) (hv : vs.getD j.toNatClampNeg dv = v) {pc' : Nat} (hp : pc + 1 = pc')
    (k : Ends p e below s Z Q cC cS T (mkF m pc' Ls (v :: st))) : Ends p e below s Z Q cC cS T (mkF m pc Ls (.int j :: .ref a :: st)) := by
  subst hp; obtain ⟨q0, locs, Y, N, O⟩ := id X
  obtain ⟨cl, A, q1, S1, N1, H1, G1⟩ := V
  exact E_by (Y.aaload X.hx A.1 (State.isArrayOf_alike X.hZ.alike A.2.1) hty A.2.2 (inb_of S1 hj) (Has.at H1 (inb_of S1 hj) hv) (g := mkF m pc Ls (.int j :: .ref a :: st)) rfl rfl (X.hb hd)) k
theorem E_arraylength (X : Wk l Z R bytes mL ret own nm p e s m args below meth c T cells slots) {a : Addr} {kA : ClassId} {z : Int32} {vs : List Value} {dv : Value} {ty : FieldType} (hd : decode bytes pc = .ok (.arraylength, 1)) (V : Arv Z T.heap a kA ty z vs dv) {pc' : Nat} (hp : pc + 1 = pc')
    (k : Ends p e below s Z Q cC cS T (mkF m pc' Ls (.int z :: st))) : Ends p e below s Z Q cC cS T (mkF m pc Ls (.ref a :: st)) := by
  subst hp; obtain ⟨q0, locs, Y, N, O⟩ := id X
  obtain ⟨cl, A, q1, S1, N1, H1, G1⟩ := V
  refine E_by (Y.arraylength X.hx A.1 (State.isArrayOf_alike X.hZ.alike A.2.1) (g := mkF m pc Ls (.ref a :: st)) rfl rfl (X.hb hd)) ?_
  rw [len_of S1 N1]; exact k
theorem E_getfield (X : Wk l Z R bytes mL ret own nm p e s m args below meth c T cells slots) {a : Addr} {O n d R0 : String} {ix : Nat} {v : Value} (hd : decode bytes pc = .ok (.getfield ix, 3)) (w : (Jvm.Cond.fieldLink own ix R0 n d).before a0 Z = true) (via : Via Z R0 O n d) (F : Fld Z T.heap a O n d v) {pc' : Nat} (hp : pc + 3 = pc')
    (k : ∀ (T' : State), Wk l Z R bytes mL ret own nm p e s m args below meth c T' cells slots → T'.heap = T.heap → Ends p e below s Z Q cC cS T' (mkF m pc' Ls (v :: st))) : Ends p e below s Z Q cC cS T (mkF m pc Ls (.ref a :: st)) := by
  subst hp; obtain ⟨q0, locs, Y, N, Od⟩ := id X
  obtain ⟨T', Y', e1, stp⟩ := getF Y X.hx X.hZ X.hown (host := "") (Or.inl w) via rfl F (g := mkF m pc Ls (.ref a :: st)) rfl rfl (X.hb hd)
  exact E_by stp (k T' ⟨q0, locs, Y', N, e1 ▸ Od⟩ e1)
theorem E_getstatic (X : Wk l Z R bytes mL ret own nm p e s m args below meth c T cells slots) {O n d R0 : String} {ix : Nat} {v : Value} (hd : decode bytes pc = .ok (.getstatic ix, 3)) (w : (Jvm.Cond.fieldLink own ix R0 n d).before a0 Z = true) (via : Via Z R0 O n d) (F : Sta Z Z.heap O n d v) {pc' : Nat} (hp : pc + 3 = pc')
    (k : ∀ (T' : State), Wk l Z R bytes mL ret own nm p e s m args below meth c T' cells slots → T'.heap = T.heap → Ends p e below s Z Q cC cS T' (mkF m pc' Ls (v :: st))) : Ends p e below s Z Q cC cS T (mkF m pc Ls st) := by
  subst hp; obtain ⟨q0, locs, Y, N, Od⟩ := id X
  obtain ⟨T', Y', e1, stp⟩ := getS Y X.hx X.hZ (host := "") X.hown w via rfl (F.ext Od) (g := mkF m pc Ls st) rfl (X.hb hd)
  exact E_by stp (k T' ⟨q0, locs, Y', N, e1 ▸ Od⟩ e1)
theorem E_putfield (X : Wk l Z R bytes mL ret own nm p e s m args below meth c T cells slots) {a : Addr} {O n d R0 C : String} {ix kk : Nat} {v old : Value} {ty : FieldType} (hd : decode bytes pc = .ok (.putfield ix, 3)) (w : (Jvm.Cond.fieldLink own ix R0 n d).before a0 Z = true) (via : Via Z R0 O n d) (F : Fld Z T.heap a O n d old) (E : Exa Z T.heap a C) (L : (Jvm.Cond.lays C O n d).before a0 Z = true ∨ ((Jvm.Cond.laysFinal C O n d).before a0 Z = true ∧ own = O ∧ nm = "<init>")) (wi : (Jvm.Cond.instantiable C kk).before a0 Z = true) (hty : parseFieldDescriptor d = some ty) (hn : narrow ty v = v) (hf : fits ty v = true) (ha : Z.heap.size ≤ a) {pc' : Nat} (hp : pc + 3 = pc')
    (k : ∀ (T' : State), Wk l Z R bytes mL ret own nm p e s m args below meth c T' cells slots → Wr T.heap T'.heap a (Jvm.RoadKit.slotOf Z O n d) v → Ends p e below s Z Q cC cS T' (mkF m pc' Ls st)) : Ends p e below s Z Q cC cS T (mkF m pc Ls (v :: .ref a :: st)) := by
  subst hp; obtain ⟨q0, locs, Y, N, Od⟩ := id X
  obtain ⟨T', h', Y', rfl, W, stp⟩ := putF Y X.hx X.hZ X.hown (host := "") (Or.inl w) via rfl F E (L.imp id fun q => ⟨q.1, q.2.1, q0.2.2.2.2.2.2.1.trans q.2.2⟩) wi hty hn hf (g := mkF m pc Ls (v :: .ref a :: st)) rfl rfl (X.hb hd)
  exact E_by stp (k T' ⟨q0, _, Y', Fr.snoc Y' N ha, Keep.old Od (Keep.of_wr W) (allS ha all0)⟩ W)
theorem E_initO (X : Wk l Z R bytes mL ret own nm p e s m args below meth c T cells slots) {a : Addr} {ix : Nat} (hd : decode bytes pc = .ok (.invokespecial ix, 3)) (w1 : (Jvm.Cond.methodLink own ix Lib.objectInit).before a0 Z = true) (w2 : (Jvm.Cond.instanceMethod Lib.objectInit).before a0 Z = true) (w3 : (Jvm.Cond.code Lib.objectInit ⟨#[0xb1]⟩ 1 none).before a0 Z = true) (hsz : Ls.size = mL) (hf : 1 ≤ R.frames) (hl : (st.map fun v => v.category).sum + 12 ≤ R.locals) {pc' : Nat} (hp : pc + 3 = pc')
    (k : ∀ (T' : State), Wk l Z R bytes mL ret own nm p e s m args below meth c T' cells slots → T'.heap = T.heap → Ends p e below s Z Q cC cS T' (mkF m pc' Ls st)) : Ends p e below s Z Q cC cS T (mkF m pc Ls (.ref a :: st)) := by
  subst hp; obtain ⟨q0, locs, Y, N, Od⟩ := id X
  obtain ⟨T', Y', e1, stp⟩ := initO Y X.hx X.hZ X.hown w1 w2 w3 rfl (g := mkF m pc Ls (.ref a :: st)) rfl (X.size hsz) rfl (X.hb hd) hf (W := (st.map fun v => v.category).sum) (by show 2 * 0 + _ ≤ _; omega) hl
  exact E_by stp (k T' ⟨q0, locs, Y', N, e1 ▸ Od⟩ e1)
theorem E_checkcast (X : Wk l Z R bytes mL ret own nm p e s m args below meth c T cells slots) {a : Addr} {K : String} {ix : Nat} (hd : decode bytes pc = .ok (.checkcast ix, 3)) (w : (Jvm.Cond.classLink own ix K).before a0 Z = true) (F : Ins Z T.heap a K true) {pc' : Nat} (hp : pc + 3 = pc')
    (k : ∀ (T' : State), Wk l Z R bytes mL ret own nm p e s m args below meth c T' cells slots → T'.heap = T.heap → Ends p e below s Z Q cC cS T' (mkF m pc' Ls (.ref a :: st))) : Ends p e below s Z Q cC cS T (mkF m pc Ls (.ref a :: st)) := by
  subst hp; obtain ⟨q0, locs, Y, N, Od⟩ := id X
  obtain ⟨T', Y', e1, stp⟩ := castY Y X.hx X.hZ X.hown w rfl F (g := mkF m pc Ls (.ref a :: st)) rfl rfl (X.hb hd)
  exact E_by stp (k T' ⟨q0, locs, Y', N, e1 ▸ Od⟩ e1)
theorem E_instY (X : Wk l Z R bytes mL ret own nm p e s m args below meth c T cells slots) {a : Addr} {K : String} {ix : Nat} (hd : decode bytes pc = .ok (.instanceof ix, 3)) (w : (Jvm.Cond.classLink own ix K).before a0 Z = true) (F : Ins Z T.heap a K true) {pc' : Nat} (hp : pc + 3 = pc')
    (k : ∀ (T' : State), Wk l Z R bytes mL ret own nm p e s m args below meth c T' cells slots → T'.heap = T.heap → Ends p e below s Z Q cC cS T' (mkF m pc' Ls (.int 1 :: st))) : Ends p e below s Z Q cC cS T (mkF m pc Ls (.ref a :: st)) := by
  subst hp; obtain ⟨q0, locs, Y, N, Od⟩ := id X
  obtain ⟨T', Y', e1, stp⟩ := instY Y X.hx X.hZ X.hown w rfl F (g := mkF m pc Ls (.ref a :: st)) rfl rfl (X.hb hd)
  exact E_by stp (k T' ⟨q0, locs, Y', N, e1 ▸ Od⟩ e1)
theorem E_staticB (X : Wk l Z R bytes mL ret own nm p e s m args below meth c T cells slots) {y : MethodName} {ix : Nat} {bytes' : ByteArray} {mL' : Nat} {ret' : Option FieldType} {Q' : Option Value → Heap → Prop} {argsL : List Value} {Q2 : Option Value → Heap → List Loc → Prop} {rC rS : Nat} (hd : decode bytes pc = .ok (.invokestatic ix, 3)) (w1 : (Jvm.Cond.methodLink own ix y).before a0 Z = true) (w2 : (Jvm.Cond.static y).before a0 Z = true) (w3 : (Jvm.Cond.initialized y.cls).before a0 Z = true) (w4 : (Jvm.Cond.code y bytes' mL' ret').before a0 Z = true) (hy : y.cls ≠ "java/lang/invoke/MethodHandle" ∧ y.cls ≠ "java/lang/invoke/VarHandle") {st0 : List Value} (hst : st0 = argsL.reverse ++ st) (hK : Back l R p e below s args y 3 ((st.map fun v => v.category).sum) (fun A aa => aa = argsL.toArray ∧ A.U.heap = T.heap ∧ A.cells + rC ≤ R.cells ∧ A.slots + rS ≤ R.slots) (fun A _ v B => ∃ L, Q2 v B.U.heap L ∧ B.locs = A.locs ++ L ∧ B.cells = A.cells + rC ∧ B.slots = A.slots + rS)) (hQ2 : ∀ v h L, Q2 v h L → Fr Z.heap.size L ∧ Ext Z.heap h ∧ Q' v h) (hlen : ∀ sig, parseMethodDescriptor y.desc = some sig → argsL.length = sig.parameters.length) (hsz : Ls.size = mL) (hcl : cells + rC ≤ R.cells) (hsl : slots + rS ≤ R.slots) {pc' : Nat} (hp : pc + 3 = pc')
    (k : ∀ (T' : State) (v : Option Value), Wk l Z R bytes mL ret own nm p e s m args below meth c T' (cells + rC) (slots + rS) → Q' v T'.heap → Ends p e below s Z Q cC cS T' (mkF m pc' Ls (v.toList ++ st))) : Ends p e below s Z Q cC cS T (mkF m pc Ls st0) := by
  subst hp hst; obtain ⟨q0, locs, Y, N, Od⟩ := id X
  obtain ⟨v, _, ⟨T', L1, k1, n1⟩, -, Y', ⟨Lc, hQ, l1, y1, z1⟩, stp⟩ := Jvm.LawKit.callS Y X.hx (y := y) X.hown (mvT X.hZ w1) (mvT X.hZ w2) (mvT X.hZ w3) (mvT X.hZ w4) hy hK (g := mkF m pc Ls (argsL.reverse ++ st)) rfl (X.size hsz) (argsL := argsL) (rest := st) hlen rfl (by show 2 * 0 + _ ≤ _; omega) (X.hb hd) (fun _ _ => ⟨rfl, rfl, hcl, hsl⟩)
  dsimp only [Pt.U, Pt.locs, Pt.cells, Pt.slots] at Y' l1 y1 z1 stp hQ
  subst l1 y1 z1
  obtain ⟨f1, f2, f3⟩ := hQ2 _ _ _ hQ
  exact E_by stp (k T' v ⟨q0, _, Y', Fr.app N f1, f2⟩ f3)
theorem E_static (X : Wk l Z R bytes mL ret own nm p e s m args below meth c T cells slots) {y : MethodName} {ix : Nat} {bytes' : ByteArray} {mL' : Nat} {ret' : Option FieldType} {Q' : Option Value → Heap → Prop} {argsL : List Value} {rm : Room} (hd : decode bytes pc = .ok (.invokestatic ix, 3)) (w1 : (Jvm.Cond.methodLink own ix y).before a0 Z = true) (w2 : (Jvm.Cond.static y).before a0 Z = true) (w3 : (Jvm.Cond.initialized y.cls).before a0 Z = true) (w4 : (Jvm.Cond.code y bytes' mL' ret').before a0 Z = true) (hy : y.cls ≠ "java/lang/invoke/MethodHandle" ∧ y.cls ≠ "java/lang/invoke/VarHandle")  {st0 : List Value} (hst : st0 = argsL.reverse ++ st) (hC : Ct l Z y bytes' mL' ret' rm argsL.toArray T.heap Q') (hlen : ∀ sig, parseMethodDescriptor y.desc = some sig → argsL.length = sig.parameters.length) (hsz : Ls.size = mL) (hcl : cells + rm.cells ≤ R.cells) (hsl : slots + rm.slots ≤ R.slots) (hfr : rm.frames + 1 ≤ R.frames) (hlo : (st.map fun v => v.category).sum + (mL' + 11) + rm.locals ≤ R.locals) {pc' : Nat} (hp : pc + 3 = pc')
    (k : ∀ (T' : State) (v : Option Value), Wk l Z R bytes mL ret own nm p e s m args below meth c T' (cells + rm.cells) (slots + rm.slots) → Q' v T'.heap → Ends p e below s Z Q cC cS T' (mkF m pc' Ls (v.toList ++ st))) : Ends p e below s Z Q cC cS T (mkF m pc Ls st0) :=
  E_staticB X hd w1 w2 w3 w4 hy hst (hC.back X.hZ w4 w3 hfr hlo) (fun _ _ _ q => q) hlen hsz hcl hsl hp k
theorem E_specialB (X : Wk l Z R bytes mL ret own nm p e s m args below meth c T cells slots) {y : MethodName} {ix : Nat} {bytes' : ByteArray} {mL' : Nat} {ret' : Option FieldType} {Q' : Option Value → Heap → Prop} {argsL : List Value} {Q2 : Option Value → Heap → List Loc → Prop} {rC rS : Nat} {a : Addr} (hd : decode bytes pc = .ok (.invokespecial ix, 3)) (hy1 : y.name = "<init>") (hret : ret' = none) (w1 : (Jvm.Cond.methodLink own ix y).before a0 Z = true) (w2 : (Jvm.Cond.instanceMethod y).before a0 Z = true) (w4 : (Jvm.Cond.code y bytes' mL' ret').before a0 Z = true) (hy : y.cls ≠ "java/lang/invoke/MethodHandle" ∧ y.cls ≠ "java/lang/invoke/VarHandle") {st0 : List Value} (hst : st0 = argsL.reverse ++ .ref a :: st) (hK : Back l R p e below s args y 3 ((st.map fun v => v.category).sum) (fun A aa => aa = (.ref a :: argsL).toArray ∧ A.U.heap = T.heap ∧ A.cells + rC ≤ R.cells ∧ A.slots + rS ≤ R.slots) (fun A _ v B => ∃ L, Q2 v B.U.heap L ∧ B.locs = A.locs ++ L ∧ B.cells = A.cells + rC ∧ B.slots = A.slots + rS)) (hQ2 : ∀ v h L, Q2 v h L → Fr Z.heap.size L ∧ Ext Z.heap h ∧ Q' v h) (hlen : ∀ sig, parseMethodDescriptor y.desc = some sig → argsL.length = sig.parameters.length) (hsz : Ls.size = mL) (hcl : cells + rC ≤ R.cells) (hsl : slots + rS ≤ R.slots) {pc' : Nat} (hp : pc + 3 = pc')
    (k : ∀ (T' : State) (v : Option Value), Wk l Z R bytes mL ret own nm p e s m args below meth c T' (cells + rC) (slots + rS) → Q' v T'.heap → Ends p e below s Z Q cC cS T' (mkF m pc' Ls (v.toList ++ st))) : Ends p e below s Z Q cC cS T (mkF m pc Ls st0) := by
  subst hp hst; obtain ⟨q0, locs, Y, N, Od⟩ := id X
  subst hret
  obtain ⟨v, _, ⟨T', L1, k1, n1⟩, -, Y', ⟨Lc, hQ, l1, y1, z1⟩, stp⟩ := Y.specialBack X.hx (y := y) hy1 X.hown (mvT X.hZ w1) (mvT X.hZ w2) (mvT X.hZ w4) hy hK (g := mkF m pc Ls (argsL.reverse ++ .ref a :: st)) rfl (X.size hsz) (Steps.refl _) (a := a) (argsL := argsL) (rest := st) hlen rfl (by show 2 * 0 + _ ≤ _; omega) (X.hb hd) (fun _ _ => ⟨rfl, rfl, hcl, hsl⟩)
  dsimp only [Pt.U, Pt.locs, Pt.cells, Pt.slots] at Y' l1 y1 z1 stp hQ
  subst l1 y1 z1
  obtain ⟨f1, f2, f3⟩ := hQ2 _ _ _ hQ
  exact E_tr stp (k T' v ⟨q0, _, Y', Fr.app N f1, f2⟩ f3)
theorem E_special (X : Wk l Z R bytes mL ret own nm p e s m args below meth c T cells slots) {y : MethodName} {ix : Nat} {bytes' : ByteArray} {mL' : Nat} {ret' : Option FieldType} {Q' : Option Value → Heap → Prop} {argsL : List Value} {rm : Room} {a : Addr} (hd : decode bytes pc = .ok (.invokespecial ix, 3)) (hy1 : y.name = "<init>") (hret : ret' = none) (w1 : (Jvm.Cond.methodLink own ix y).before a0 Z = true) (w2 : (Jvm.Cond.instanceMethod y).before a0 Z = true) (w4 : (Jvm.Cond.code y bytes' mL' ret').before a0 Z = true) (hy : y.cls ≠ "java/lang/invoke/MethodHandle" ∧ y.cls ≠ "java/lang/invoke/VarHandle") (w3 : (Jvm.Cond.initialized y.cls).before a0 Z = true) {st0 : List Value} (hst : st0 = argsL.reverse ++ .ref a :: st) (hC : Ct l Z y bytes' mL' ret' rm (.ref a :: argsL).toArray T.heap Q') (hlen : ∀ sig, parseMethodDescriptor y.desc = some sig → argsL.length = sig.parameters.length) (hsz : Ls.size = mL) (hcl : cells + rm.cells ≤ R.cells) (hsl : slots + rm.slots ≤ R.slots) (hfr : rm.frames + 1 ≤ R.frames) (hlo : (st.map fun v => v.category).sum + (mL' + 11) + rm.locals ≤ R.locals) {pc' : Nat} (hp : pc + 3 = pc')
    (k : ∀ (T' : State) (v : Option Value), Wk l Z R bytes mL ret own nm p e s m args below meth c T' (cells + rm.cells) (slots + rm.slots) → Q' v T'.heap → Ends p e below s Z Q cC cS T' (mkF m pc' Ls (v.toList ++ st))) : Ends p e below s Z Q cC cS T (mkF m pc Ls st0) :=
  E_specialB X hd hy1 hret w1 w2 w4 hy hst (hC.back X.hZ w4 w3 hfr hlo) (fun _ _ _ q => q) hlen hsz hcl hsl hp k
theorem E_virtualB (X : Wk l Z R bytes mL ret own nm p e s m args below meth c T cells slots) {y : MethodName} {ix : Nat} {Q' : Option Value → Heap → Prop} {argsL : List Value} {Q2 : Option Value → Heap → List Loc → Prop} {rC rS : Nat} {a : Addr} {z : MethodName} {D : String} (hd : decode bytes pc = .ok (.invokevirtual ix, 3)) (w1 : (Jvm.Cond.methodLink own ix y).before a0 Z = true) (w2 : (Jvm.Cond.declares y).before a0 Z = true) (w5 : (Jvm.Cond.selects D y z).before a0 Z = true) (w6 : (Jvm.Cond.instanceMethod z).before a0 Z = true) (hnf : NotFace s y) (hy : y.cls ≠ "java/lang/invoke/MethodHandle" ∧ y.cls ≠ "java/lang/invoke/VarHandle") (E : Exa Z T.heap a D) {st0 : List Value} (hst : st0 = argsL.reverse ++ .ref a :: st) (hK : Back l R p e below s args z 3 ((st.map fun v => v.category).sum) (fun A aa => aa = (.ref a :: argsL).toArray ∧ A.U.heap = T.heap ∧ A.cells + rC ≤ R.cells ∧ A.slots + rS ≤ R.slots) (fun A _ v B => ∃ L, Q2 v B.U.heap L ∧ B.locs = A.locs ++ L ∧ B.cells = A.cells + rC ∧ B.slots = A.slots + rS)) (hQ2 : ∀ v h L, Q2 v h L → Fr Z.heap.size L ∧ Ext Z.heap h ∧ Q' v h) (hlen : ∀ sig, parseMethodDescriptor y.desc = some sig → argsL.length = sig.parameters.length) (hsz : Ls.size = mL) (hcl : cells + rC ≤ R.cells) (hsl : slots + rS ≤ R.slots) {pc' : Nat} (hp : pc + 3 = pc')
    (k : ∀ (T' : State) (v : Option Value), Wk l Z R bytes mL ret own nm p e s m args below meth c T' (cells + rC) (slots + rS) → Q' v T'.heap → Ends p e below s Z Q cC cS T' (mkF m pc' Ls (v.toList ++ st))) : Ends p e below s Z Q cC cS T (mkF m pc Ls st0) := by
  subst hp hst; obtain ⟨q0, locs, Y, N, Od⟩ := id X
  obtain ⟨cq, kq, qa, qb, qc⟩ := isOf X.hZ rfl E
  obtain ⟨v, _, ⟨T', L1, k1, n1⟩, -, Y', ⟨Lc, hQ, l1, y1, z1⟩, stp⟩ := Y.virtualBack X.hx (y := y) (z := z) X.hown (mvT X.hZ w1) (mvT X.hZ w2) hnf (mvT X.hZ w5) (mvT X.hZ w6) hy hK qa qc (g := mkF m pc Ls (argsL.reverse ++ .ref a :: st)) rfl (X.size hsz) (Steps.refl _) (argsL := argsL) (rest := st) hlen rfl (by show 2 * 0 + _ ≤ _; omega) (X.hb hd) (fun _ _ => ⟨rfl, rfl, hcl, hsl⟩)
  dsimp only [Pt.U, Pt.locs, Pt.cells, Pt.slots] at Y' l1 y1 z1 stp hQ
  subst l1 y1 z1
  obtain ⟨f1, f2, f3⟩ := hQ2 _ _ _ hQ
  exact E_tr stp (k T' v ⟨q0, _, Y', Fr.app N f1, f2⟩ f3)
theorem E_virtual (X : Wk l Z R bytes mL ret own nm p e s m args below meth c T cells slots) {y : MethodName} {ix : Nat} {bytes' : ByteArray} {mL' : Nat} {ret' : Option FieldType} {Q' : Option Value → Heap → Prop} {argsL : List Value} {rm : Room} {a : Addr} {z : MethodName} {D : String} (hd : decode bytes pc = .ok (.invokevirtual ix, 3)) (w1 : (Jvm.Cond.methodLink own ix y).before a0 Z = true) (w2 : (Jvm.Cond.declares y).before a0 Z = true) (w5 : (Jvm.Cond.selects D y z).before a0 Z = true) (w6 : (Jvm.Cond.instanceMethod z).before a0 Z = true) (hnf : NotFace s y) (hy : y.cls ≠ "java/lang/invoke/MethodHandle" ∧ y.cls ≠ "java/lang/invoke/VarHandle") (E : Exa Z T.heap a D) (w3 : (Jvm.Cond.initialized z.cls).before a0 Z = true) (w4 : (Jvm.Cond.code z bytes' mL' ret').before a0 Z = true) {st0 : List Value} (hst : st0 = argsL.reverse ++ .ref a :: st) (hC : Ct l Z z bytes' mL' ret' rm (.ref a :: argsL).toArray T.heap Q') (hlen : ∀ sig, parseMethodDescriptor y.desc = some sig → argsL.length = sig.parameters.length) (hsz : Ls.size = mL) (hcl : cells + rm.cells ≤ R.cells) (hsl : slots + rm.slots ≤ R.slots) (hfr : rm.frames + 1 ≤ R.frames) (hlo : (st.map fun v => v.category).sum + (mL' + 11) + rm.locals ≤ R.locals) {pc' : Nat} (hp : pc + 3 = pc')
    (k : ∀ (T' : State) (v : Option Value), Wk l Z R bytes mL ret own nm p e s m args below meth c T' (cells + rm.cells) (slots + rm.slots) → Q' v T'.heap → Ends p e below s Z Q cC cS T' (mkF m pc' Ls (v.toList ++ st))) : Ends p e below s Z Q cC cS T (mkF m pc Ls st0) :=
  E_virtualB X hd w1 w2 w5 w6 hnf hy E hst (hC.back X.hZ w4 w3 hfr hlo) (fun _ _ _ q => q) hlen hsz hcl hsl hp k
theorem Wk.out (X : Wk l Z R bytes mL ret own nm p e s m args below meth c T cells slots) {v : Option Value} (hv : ret = none → v = none) (hQ : Q v T.heap) (h1 : cells ≤ cC) (h2 : slots ≤ cS) (hs : ∀ fs, (∀ (f : JFrame) (acts : List Action), f.method = m → f.locked = none → f.entered = [] → (doReturn e (T.setTop f) acts v).1 = T.setFrames fs) → Steps p.tables e below (T.setTop g) (T.setFrames fs)) : Ends p e below s Z Q cC cS T g := by
  obtain ⟨q0, locs, Y, N, Od⟩ := id X
  obtain ⟨fs, hr, hrun, hended, hW, hsame⟩ := Y.leave (v := v) (fun h => hv (q0.2.2.2.1.symm.trans h)) q0.2.2.2.2.1
  exact ⟨_, _, hs fs hr, hrun, hended, _, _, rfl, ⟨N, Od, hQ⟩, ⟨_, rfl⟩, hW, hsame.mono h1 h2⟩
theorem E_return (X : Wk l Z R bytes mL ret own nm p e s m args below meth c T cells slots) (hd : decode bytes pc = .ok (.return_, 1)) (hret : ret = none) (h1 : cells ≤ cC) (h2 : slots ≤ cS) (hQ : Q none T.heap) : Ends p e below s Z Q cC cS T (mkF m pc Ls []) := by
  refine X.out (v := none) (fun _ => rfl) hQ h1 h2 fun fs hr => ?_
  obtain ⟨q0, locs, Y, N, Od⟩ := id X
  exact Y.returnOut X.hx (q0.2.2.2.1.trans hret) (X.hb hd) hr
theorem E_ireturnI (X : Wk l Z R bytes mL ret own nm p e s m args below meth c T cells slots) {z : Int32} (hd : decode bytes pc = .ok (.ireturn, 1)) (hret : ret = some .int) (h1 : cells ≤ cC) (h2 : slots ≤ cS) (hQ : Q (some (.int z)) T.heap) : Ends p e below s Z Q cC cS T (mkF m pc Ls (.int z :: st)) := by
  refine X.out (v := some (.int z)) (fun h => by rw [hret] at h; cases h) hQ h1 h2 fun fs hr => ?_
  obtain ⟨q0, locs, Y, N, Od⟩ := id X
  exact retOut Y X.hx (q0.2.2.2.1.trans hret) rfl (Or.inl ⟨rfl, Or.inl rfl, z, rfl⟩) (X.hb hd) hr
theorem E_ireturnN (X : Wk l Z R bytes mL ret own nm p e s m args below meth c T cells slots) {z : Int32} {t : FieldType} (hd : decode bytes pc = .ok (.ireturn, 1)) (hret : ret = some t) (ht : t = .boolean ∨ t = .byte ∨ t = .char ∨ t = .short) (h1 : cells ≤ cC) (h2 : slots ≤ cS) (hQ : Q (some (.int (nar t z))) T.heap) : Ends p e below s Z Q cC cS T (mkF m pc Ls (.int z :: st)) := by
  refine X.out (v := some (.int (nar t z))) (fun h => by rw [hret] at h; cases h) hQ h1 h2 fun fs hr => ?_
  obtain ⟨q0, locs, Y, N, Od⟩ := id X
  exact retN Y X.hx (q0.2.2.2.1.trans hret) ht (X.hb hd) hr
theorem E_areturn (X : Wk l Z R bytes mL ret own nm p e s m args below meth c T cells slots) {v : Value} {t : FieldType} (hd : decode bytes pc = .ok (.areturn, 1)) (hret : ret = some t) (ht : t.isReference = true) (hv : v.isRef = true) (hn : narrow t v = v) (h1 : cells ≤ cC) (h2 : slots ≤ cS) (hQ : Q (some v) T.heap) : Ends p e below s Z Q cC cS T (mkF m pc Ls (v :: st)) := by
  refine X.out (v := some v) (fun h => by rw [hret] at h; cases h) hQ h1 h2 fun fs hr => ?_
  obtain ⟨q0, locs, Y, N, Od⟩ := id X
  exact retOut Y X.hx (q0.2.2.2.1.trans hret) hn (Or.inr (Or.inr (Or.inr (Or.inr ⟨rfl, ht, hv⟩)))) (X.hb hd) hr
end Own
theorem pd_0 : parseMethodDescriptor "([I)V" = some ⟨[(.array .int)], none⟩ := by decide +kernel
theorem pd_1 : parseMethodDescriptor "([IIII)I" = some ⟨[(.array .int), .int, .int, .int], some .int⟩ := by decide +kernel
theorem pd_2 : parseMethodDescriptor "([II)I" = some ⟨[(.array .int), .int], some .int⟩ := by decide +kernel
theorem pd_3 : parseMethodDescriptor "(I)Lcom/example/holdfast/holdfast/IntervalSet;" = some ⟨[.int], some (.object "com/example/holdfast/holdfast/IntervalSet")⟩ := by decide +kernel
theorem pd_4 : parseMethodDescriptor "()Z" = some ⟨[], some .boolean⟩ := by decide +kernel
theorem pd_5 : parseMethodDescriptor "()I" = some ⟨[], some .int⟩ := by decide +kernel
theorem pd_6 : parseMethodDescriptor "(I)Z" = some ⟨[.int], some .boolean⟩ := by decide +kernel
theorem own_step {x key : Int32} (h : x.toInt < 2147483647) : x < key → ¬ key < x + (1 : Int32) := by
  intro h1 h2
  have e1 := c_iadd x 1
  have r1 := rng32 x
  have r2 := rng32 (x + 1)
  have o1 : (1 : Int32).toInt = 1 := rfl
  rw [Int32.lt_iff_toInt_lt] at h1 h2
  omega
theorem own_m (x : Int32) : ((x &&& (2147483647 : Int32)) % (2147483647 : Int32)).toInt < 2147483647 := by
  have e1 := c_and x (2147483647 : Int32) (by decide)
  have e2 := (c_irem (x &&& (2147483647 : Int32)) (2147483647 : Int32) 2147483647 rfl).1 e1.1
  omega
theorem own_ne1 (x : Int32) : ¬ x + (1 : Int32) = x := by
  intro h
  have e1 := c_iadd x 1
  have o1 : (1 : Int32).toInt = 1 := rfl
  rw [h] at e1; omega
theorem own_ne2 (x : Int32) : ¬ x - (1 : Int32) = x := by
  intro h
  have e1 := c_isub x 1
  have o1 : (1 : Int32).toInt = 1 := rfl
  rw [h] at e1; omega
theorem d_init_0 : decode prog_34_method_1_code 0 = .ok (.aload_n 0, 1) := by decide +kernel
theorem d_init_1 : decode prog_34_method_1_code 1 = .ok (.invokespecial 1, 3) := by decide +kernel
theorem d_init_4 : decode prog_34_method_1_code 4 = .ok (.aload_n 0, 1) := by decide +kernel
theorem d_init_5 : decode prog_34_method_1_code 5 = .ok (.aload_n 1, 1) := by decide +kernel
theorem d_init_6 : decode prog_34_method_1_code 6 = .ok (.putfield 7, 3) := by decide +kernel
theorem d_init_9 : decode prog_34_method_1_code 9 = .ok (.return_, 1) := by decide +kernel
abbrev rm_init : Room := ({ frames := 1, cells := 0, slots := 0, locals := 12 } : Room)
def Q_init (Z : State) (a b : Addr) (u : Value) (h0 : Heap) (v : Option Value) (h : Heap) : Prop := v = none ∧ Keep h0 h [a] ∧ Fld Z h a "com/example/holdfast/holdfast/IntervalSet" "bounds" "[I" (.ref b)
set_option maxRecDepth 65536 in
set_option maxHeartbeats 40000000 in
theorem ct_init (l : Launch) (Z : State) (a0 : Array Value) (hw : ∀ d ∈ tables_1, d.before a0 Z = true)  (a b : Addr) (u : Value) {h0 : Heap} (O : Ext Z.heap h0) (E0 : Exa Z h0 a "com/example/holdfast/holdfast/IntervalSet") (F0 : Fld Z h0 a "com/example/holdfast/holdfast/IntervalSet" "bounds" "[I" u) (ga : Z.heap.size ≤ a) : Ct l Z (⟨"com/example/holdfast/holdfast/IntervalSet", "<init>", "([I)V"⟩ : MethodName) prog_34_method_1_code 2 none rm_init #[(.ref a), (.ref b)] h0 (Q_init Z a b u h0) := by
  refine Ct.of_body (Ls := #[.val (.ref a), .val (.ref b)]) (by decide +kernel) O (fun m => by first | rfl | (simp [entryFrame, mkF, argsToLocals, Value.category]; done)) ?_
  intro p e s m below meth c T0 X0 e0
  subst e0
  have K00 := Keep.refl T0.heap [a]
  refine E_aloadN X0 d_init_0 rfl rfl (pc' := 1) rfl ?_
  refine E_initO X0 d_init_1 (hw _ (List.mem_of_getElem? (i := 11) rfl)) (hw _ (List.mem_of_getElem? (i := 12) rfl)) (hw _ (List.mem_of_getElem? (i := 13) rfl)) rfl (by decide) (Nat.le_of_ble_eq_true rfl) (pc' := 4) rfl ?_
  intro T1 X2 e3
  have KK4 := own_keq K00 e3
  rw [← e3] at E0 F0
  refine E_aloadN X2 d_init_4 rfl rfl (pc' := 5) rfl ?_
  refine E_aloadN X2 d_init_5 rfl rfl (pc' := 6) rfl ?_
  refine E_putfield X2 (ty := (.array .int)) d_init_6 (hw _ (List.mem_of_getElem? (i := 14) rfl)) Via.refl F0 E0 (Or.inr ⟨(hw _ (List.mem_of_getElem? (i := 15) rfl)), rfl, rfl⟩) (hw _ (List.mem_of_getElem? (i := 6) rfl)) (by decide) rfl rfl ga (pc' := 9) rfl ?_
  intro T5 X6 W7
  have K8 := Keep.of_wr W7
  have KK9 := KK4.trans K8 (allS (Or.inl (by simp)) (fun x q => nomatch q))
  have Exa_10 := E0.keep K8
  have F11 := F0.same W7
  exact E_return X6 d_init_9 rfl (by decide) (by decide) (⟨rfl, KK9, F11⟩)
theorem d_of_0 : decode prog_34_method_2_code 0 = .ok (.new 8, 3) := by decide +kernel
theorem d_of_3 : decode prog_34_method_2_code 3 = .ok (.dup, 1) := by decide +kernel
theorem d_of_4 : decode prog_34_method_2_code 4 = .ok (.iconst 2, 1) := by decide +kernel
theorem d_of_5 : decode prog_34_method_2_code 5 = .ok (.newarray .int, 2) := by decide +kernel
theorem d_of_7 : decode prog_34_method_2_code 7 = .ok (.dup, 1) := by decide +kernel
theorem d_of_8 : decode prog_34_method_2_code 8 = .ok (.iconst 0, 1) := by decide +kernel
theorem d_of_9 : decode prog_34_method_2_code 9 = .ok (.iload_n 0, 1) := by decide +kernel
theorem d_of_10 : decode prog_34_method_2_code 10 = .ok (.iastore, 1) := by decide +kernel
theorem d_of_11 : decode prog_34_method_2_code 11 = .ok (.dup, 1) := by decide +kernel
theorem d_of_12 : decode prog_34_method_2_code 12 = .ok (.iconst 1, 1) := by decide +kernel
theorem d_of_13 : decode prog_34_method_2_code 13 = .ok (.iload_n 0, 1) := by decide +kernel
theorem d_of_14 : decode prog_34_method_2_code 14 = .ok (.iconst 1, 1) := by decide +kernel
theorem d_of_15 : decode prog_34_method_2_code 15 = .ok (.iadd, 1) := by decide +kernel
theorem d_of_16 : decode prog_34_method_2_code 16 = .ok (.iastore, 1) := by decide +kernel
theorem d_of_17 : decode prog_34_method_2_code 17 = .ok (.invokespecial 13, 3) := by decide +kernel
theorem d_of_20 : decode prog_34_method_2_code 20 = .ok (.areturn, 1) := by decide +kernel
abbrev rm_of : Room := ({ frames := 2, cells := 2, slots := 3, locals := 26 } : Room)
def Q_of (Z : State) (p1 : Int32) (h0 : Heap) (v : Option Value) (h : Heap) : Prop := ∃ a b k, v = some (.ref a) ∧ Keep h0 h [] ∧ h0.size ≤ a ∧ h0.size ≤ b ∧ Exa Z h a "com/example/holdfast/holdfast/IntervalSet" ∧ Fld Z h a "com/example/holdfast/holdfast/IntervalSet" "bounds" "[I" (.ref b) ∧ Arv Z h b k .int (2 : Int32) [(.int p1), (.int (p1 + (1 : Int32)))] (.int (0 : Int32))
set_option maxRecDepth 65536 in
set_option maxHeartbeats 40000000 in
theorem ct_of (l : Launch) (Z : State) (a0 : Array Value) (hw : ∀ d ∈ tables_1, d.before a0 Z = true)  (p1 : Int32) {h0 : Heap} (O : Ext Z.heap h0)  : Ct l Z (⟨"com/example/holdfast/holdfast/IntervalSet", "of", "(I)Lcom/example/holdfast/holdfast/IntervalSet;"⟩ : MethodName) prog_34_method_2_code 1 (some (.object "com/example/holdfast/holdfast/IntervalSet")) rm_of #[(.int p1)] h0 (Q_of Z p1 h0) := by
  refine Ct.of_body (Ls := #[.val (.int p1)]) (by decide +kernel) O (fun m => by first | rfl | (simp [entryFrame, mkF, argsToLocals, Value.category]; done)) ?_
  intro p e s m below meth c T0 X0 e0
  subst e0
  have K00 := Keep.refl T0.heap []
  refine E_new X0 d_of_0 (hw _ (List.mem_of_getElem? (i := 5) rfl)) (hw _ (List.mem_of_getElem? (i := 6) rfl)) (hw _ (List.mem_of_getElem? (i := 3) rfl)) (by decide) (by decide) (pc' := 3) rfl ?_
  intro T1 b3 X2 hb4 K5 E6 D7
  have sz8 : T0.heap.size ≤ b3 := Nat.le_trans K00.1 (Nat.le_of_eq hb4.symm)
  have KK9 := K00.trans K5 (fun x q => nomatch q)
  have g10 : Z.heap.size ≤ b3 := Nat.le_trans X0.le (Nat.le_of_eq hb4.symm)
  have F11 : Fld Z T1.heap b3 "com/example/holdfast/holdfast/IntervalSet" "bounds" "[I" .null := D7 (Or.inr (hw _ (List.mem_of_getElem? (i := 15) rfl))) (ty := (.array .int)) (by decide)
  refine E_dup X2 d_of_3 rfl (pc' := 4) rfl ?_
  refine E_iconst X2 (v := (2 : Int32)) d_of_4 rfl (pc' := 5) rfl ?_
  refine E_newarray X2 2 d_of_5 (hw _ (List.mem_of_getElem? (i := 7) rfl)) (by decide) (by decide) (by decide) (by decide) (by decide) (pc' := 7) rfl ?_
  intro T12 b14 k18 X13 hb15 K16 V17
  have sz19 : T0.heap.size ≤ b14 := Nat.le_trans KK9.1 (Nat.le_of_eq hb15.symm)
  have ne20 : b3 ≠ b14 := Nat.ne_of_lt (Nat.lt_of_lt_of_eq E6.lt hb15.symm)
  have KK21 := KK9.trans K16 (fun x q => nomatch q)
  have Exa_22 := E6.keep K16
  have Fld_23 := F11.keep K16 nin0
  have g24 : Z.heap.size ≤ b14 := Nat.le_trans X2.le (Nat.le_of_eq hb15.symm)
  have V25 : Arv Z T12.heap b14 k18 .int (2 : Int32) [(.int (0 : Int32)), (.int (0 : Int32))] (.int (0 : Int32)) := V17.pad (pad_rep [] (.int (0 : Int32)) 2)
  refine E_dup X13 d_of_7 rfl (pc' := 8) rfl ?_
  refine E_iconst X13 (v := (0 : Int32)) d_of_8 rfl (pc' := 9) rfl ?_
  refine E_iloadN X13 d_of_9 rfl (pc' := 10) rfl ?_
  refine E_iastore X13 0 d_of_10 V25 ⟨by decide, by decide⟩ rfl (Nat.le_of_ble_eq_true rfl) g24 (pc' := 11) rfl ?_
  intro T26 X27 K28 V29
  have KK30 := KK21.trans K28 (allS (Or.inr sz19) (fun x q => nomatch q))
  have Exa_31 := Exa_22.keep K28
  have Fld_32 := Fld_23.keep K28 (ninS ne20 nin0)
  have V33 : Arv Z T26.heap b14 k18 .int (2 : Int32) [(.int p1), (.int (0 : Int32))] (.int (0 : Int32)) := V29
  refine E_dup X27 d_of_11 rfl (pc' := 12) rfl ?_
  refine E_iconst X27 (v := (1 : Int32)) d_of_12 rfl (pc' := 13) rfl ?_
  refine E_iloadN X27 d_of_13 rfl (pc' := 14) rfl ?_
  refine E_iconst X27 (v := (1 : Int32)) d_of_14 rfl (pc' := 15) rfl ?_
  refine E_iadd X27 d_of_15 rfl (pc' := 16) rfl ?_
  refine E_iastore X27 1 d_of_16 V33 ⟨by decide, by decide⟩ rfl (Nat.le_of_ble_eq_true rfl) g24 (pc' := 17) rfl ?_
  intro T34 X35 K36 V37
  have KK38 := KK30.trans K36 (allS (Or.inr sz19) (fun x q => nomatch q))
  have Exa_39 := Exa_31.keep K36
  have Fld_40 := Fld_32.keep K36 (ninS ne20 nin0)
  have V41 : Arv Z T34.heap b14 k18 .int (2 : Int32) [(.int p1), (.int (p1 + (1 : Int32)))] (.int (0 : Int32)) := V37
  refine E_special X35 (rm := rm_init) (a := b3) d_of_17 rfl rfl (hw _ (List.mem_of_getElem? (i := 8) rfl)) (hw _ (List.mem_of_getElem? (i := 9) rfl)) (hw _ (List.mem_of_getElem? (i := 10) rfl)) (by decide) (hw _ (List.mem_of_getElem? (i := 3) rfl)) (argsL := [(.ref b14)]) (st := [(.ref b3)]) rfl (ct_init l Z a0 hw b3 b14 .null X35.old Exa_39 Fld_40 g10) (lenOf (pd_0) rfl) rfl (by decide) (by decide) (by decide) (Nat.le_of_ble_eq_true rfl) (pc' := 20) rfl ?_
  intro T42 _ X43 hQ44
  obtain ⟨rfl, K45, F46⟩ := hQ44
  have KK47 := KK38.trans K45 (allS (Or.inr sz8) (fun x q => nomatch q))
  have Exa_48 := Exa_39.keep K45
  have Arv_49 := V41.keep K45 (ninS (Ne.symm ne20) nin0)
  show Ends p e below s Z _ _ _ T42 (mkF m 20 #[.val (.int p1)] [(.ref b3)])
  exact E_areturn X43 (t := (.object "com/example/holdfast/holdfast/IntervalSet")) d_of_20 rfl rfl rfl rfl (by decide) (by decide) (⟨b3, b14, k18, rfl, KK47, sz8, sz19, Exa_48, F46, Arv_49⟩)
theorem d_isEmpty_0 : decode prog_34_method_5_code 0 = .ok (.aload_n 0, 1) := by decide +kernel
theorem d_isEmpty_1 : decode prog_34_method_5_code 1 = .ok (.getfield 7, 3) := by decide +kernel
theorem d_isEmpty_4 : decode prog_34_method_5_code 4 = .ok (.arraylength, 1) := by decide +kernel
theorem d_isEmpty_5 : decode prog_34_method_5_code 5 = .ok (.ifCond .ne 7, 3) := by decide +kernel
theorem d_isEmpty_12 : decode prog_34_method_5_code 12 = .ok (.iconst 0, 1) := by decide +kernel
theorem d_isEmpty_13 : decode prog_34_method_5_code 13 = .ok (.ireturn, 1) := by decide +kernel
abbrev rm_isEmpty : Room := ({ frames := 0, cells := 0, slots := 0, locals := 0 } : Room)
def Q_isEmpty (Z : State) (a b : Addr) (k : ClassId) (p1 : Int32) (h0 : Heap) (v : Option Value) (h : Heap) : Prop := v = some (.int 0) ∧ h = h0
set_option maxRecDepth 65536 in
set_option maxHeartbeats 40000000 in
theorem ct_isEmpty (l : Launch) (Z : State) (a0 : Array Value) (hw : ∀ d ∈ tables_1, d.before a0 Z = true)  (a b : Addr) (k : ClassId) (p1 : Int32) {h0 : Heap} (O : Ext Z.heap h0) (F0 : Fld Z h0 a "com/example/holdfast/holdfast/IntervalSet" "bounds" "[I" (.ref b)) (V0 : Arv Z h0 b k .int (2 : Int32) [(.int p1), (.int (p1 + (1 : Int32)))] (.int (0 : Int32))) : Ct l Z (⟨"com/example/holdfast/holdfast/IntervalSet", "isEmpty", "()Z"⟩ : MethodName) prog_34_method_5_code 1 (some .boolean) rm_isEmpty #[(.ref a)] h0 (Q_isEmpty Z a b k p1 h0) := by
  refine Ct.of_body (Ls := #[.val (.ref a)]) (by decide +kernel) O (fun m => by first | rfl | (simp [entryFrame, mkF, argsToLocals, Value.category]; done)) ?_
  intro p e s m below meth c T0 X0 e0
  subst e0
  refine E_aloadN X0 d_isEmpty_0 rfl rfl (pc' := 1) rfl ?_
  refine E_getfield X0 d_isEmpty_1 (hw _ (List.mem_of_getElem? (i := 14) rfl)) Via.refl F0 (pc' := 4) rfl ?_
  intro T1 X2 e3
  rw [← e3] at F0 V0
  refine E_arraylength X2 d_isEmpty_4 V0 (pc' := 5) rfl ?_
  refine E_ifT X2 d_isEmpty_5 (XT.i0_ne_t (by decide)) (pc' := 12) (by decide) rfl ?_
  refine E_iconst X2 (v := (0 : Int32)) d_isEmpty_12 rfl (pc' := 13) rfl ?_
  exact E_ireturnN X2 (t := .boolean) d_isEmpty_13 rfl (by simp) (by decide) (by decide) (⟨rfl, e3⟩)
theorem d_first_0 : decode prog_34_method_6_code 0 = .ok (.aload_n 0, 1) := by decide +kernel
theorem d_first_1 : decode prog_34_method_6_code 1 = .ok (.getfield 7, 3) := by decide +kernel
theorem d_first_4 : decode prog_34_method_6_code 4 = .ok (.iconst 0, 1) := by decide +kernel
theorem d_first_5 : decode prog_34_method_6_code 5 = .ok (.iaload, 1) := by decide +kernel
theorem d_first_6 : decode prog_34_method_6_code 6 = .ok (.ireturn, 1) := by decide +kernel
abbrev rm_first : Room := ({ frames := 0, cells := 0, slots := 0, locals := 0 } : Room)
def Q_first (Z : State) (a b : Addr) (k : ClassId) (p1 : Int32) (h0 : Heap) (v : Option Value) (h : Heap) : Prop := v = some (.int p1) ∧ h = h0
set_option maxRecDepth 65536 in
set_option maxHeartbeats 40000000 in
theorem ct_first (l : Launch) (Z : State) (a0 : Array Value) (hw : ∀ d ∈ tables_1, d.before a0 Z = true)  (a b : Addr) (k : ClassId) (p1 : Int32) {h0 : Heap} (O : Ext Z.heap h0) (F0 : Fld Z h0 a "com/example/holdfast/holdfast/IntervalSet" "bounds" "[I" (.ref b)) (V0 : Arv Z h0 b k .int (2 : Int32) [(.int p1), (.int (p1 + (1 : Int32)))] (.int (0 : Int32))) : Ct l Z (⟨"com/example/holdfast/holdfast/IntervalSet", "first", "()I"⟩ : MethodName) prog_34_method_6_code 1 (some .int) rm_first #[(.ref a)] h0 (Q_first Z a b k p1 h0) := by
  refine Ct.of_body (Ls := #[.val (.ref a)]) (by decide +kernel) O (fun m => by first | rfl | (simp [entryFrame, mkF, argsToLocals, Value.category]; done)) ?_
  intro p e s m below meth c T0 X0 e0
  subst e0
  refine E_aloadN X0 d_first_0 rfl rfl (pc' := 1) rfl ?_
  refine E_getfield X0 d_first_1 (hw _ (List.mem_of_getElem? (i := 14) rfl)) Via.refl F0 (pc' := 4) rfl ?_
  intro T1 X2 e3
  rw [← e3] at F0 V0
  refine E_iconst X2 (v := (0 : Int32)) d_first_4 rfl (pc' := 5) rfl ?_
  refine E_iaload X2 (v := (.int p1)) d_first_5 V0 ⟨by decide, by decide⟩ rfl (pc' := 6) rfl ?_
  exact E_ireturnI X2 d_first_6 rfl (by decide) (by decide) (⟨rfl, e3⟩)
theorem d_bs0_0 : decode jdk_65_method_59_code 0 = .ok (.iload_n 1, 1) := by decide +kernel
theorem d_bs0_1 : decode jdk_65_method_59_code 1 = .ok (.istore 4, 2) := by decide +kernel
theorem d_bs0_3 : decode jdk_65_method_59_code 3 = .ok (.iload_n 2, 1) := by decide +kernel
theorem d_bs0_4 : decode jdk_65_method_59_code 4 = .ok (.iconst 1, 1) := by decide +kernel
theorem d_bs0_5 : decode jdk_65_method_59_code 5 = .ok (.isub, 1) := by decide +kernel
theorem d_bs0_6 : decode jdk_65_method_59_code 6 = .ok (.istore 5, 2) := by decide +kernel
theorem d_bs0_8 : decode jdk_65_method_59_code 8 = .ok (.iload 4, 2) := by decide +kernel
theorem d_bs0_10 : decode jdk_65_method_59_code 10 = .ok (.iload 5, 2) := by decide +kernel
theorem d_bs0_12 : decode jdk_65_method_59_code 12 = .ok (.if_icmp .gt 54, 3) := by decide +kernel
theorem d_bs0_15 : decode jdk_65_method_59_code 15 = .ok (.iload 4, 2) := by decide +kernel
theorem d_bs0_17 : decode jdk_65_method_59_code 17 = .ok (.iload 5, 2) := by decide +kernel
theorem d_bs0_19 : decode jdk_65_method_59_code 19 = .ok (.iadd, 1) := by decide +kernel
theorem d_bs0_20 : decode jdk_65_method_59_code 20 = .ok (.iconst 1, 1) := by decide +kernel
theorem d_bs0_21 : decode jdk_65_method_59_code 21 = .ok (.iushr, 1) := by decide +kernel
theorem d_bs0_22 : decode jdk_65_method_59_code 22 = .ok (.istore 6, 2) := by decide +kernel
theorem d_bs0_24 : decode jdk_65_method_59_code 24 = .ok (.aload_n 0, 1) := by decide +kernel
theorem d_bs0_25 : decode jdk_65_method_59_code 25 = .ok (.iload 6, 2) := by decide +kernel
theorem d_bs0_27 : decode jdk_65_method_59_code 27 = .ok (.iaload, 1) := by decide +kernel
theorem d_bs0_28 : decode jdk_65_method_59_code 28 = .ok (.istore 7, 2) := by decide +kernel
theorem d_bs0_30 : decode jdk_65_method_59_code 30 = .ok (.iload 7, 2) := by decide +kernel
theorem d_bs0_32 : decode jdk_65_method_59_code 32 = .ok (.iload_n 3, 1) := by decide +kernel
theorem d_bs0_33 : decode jdk_65_method_59_code 33 = .ok (.if_icmp .ge 12, 3) := by decide +kernel
theorem d_bs0_36 : decode jdk_65_method_59_code 36 = .ok (.iload 6, 2) := by decide +kernel
theorem d_bs0_38 : decode jdk_65_method_59_code 38 = .ok (.iconst 1, 1) := by decide +kernel
theorem d_bs0_39 : decode jdk_65_method_59_code 39 = .ok (.iadd, 1) := by decide +kernel
theorem d_bs0_40 : decode jdk_65_method_59_code 40 = .ok (.istore 4, 2) := by decide +kernel
theorem d_bs0_42 : decode jdk_65_method_59_code 42 = .ok (.goto 21, 3) := by decide +kernel
theorem d_bs0_45 : decode jdk_65_method_59_code 45 = .ok (.iload 7, 2) := by decide +kernel
theorem d_bs0_47 : decode jdk_65_method_59_code 47 = .ok (.iload_n 3, 1) := by decide +kernel
theorem d_bs0_48 : decode jdk_65_method_59_code 48 = .ok (.if_icmp .le 12, 3) := by decide +kernel
theorem d_bs0_51 : decode jdk_65_method_59_code 51 = .ok (.iload 6, 2) := by decide +kernel
theorem d_bs0_53 : decode jdk_65_method_59_code 53 = .ok (.iconst 1, 1) := by decide +kernel
theorem d_bs0_54 : decode jdk_65_method_59_code 54 = .ok (.isub, 1) := by decide +kernel
theorem d_bs0_55 : decode jdk_65_method_59_code 55 = .ok (.istore 5, 2) := by decide +kernel
theorem d_bs0_57 : decode jdk_65_method_59_code 57 = .ok (.goto 6, 3) := by decide +kernel
theorem d_bs0_60 : decode jdk_65_method_59_code 60 = .ok (.iload 6, 2) := by decide +kernel
theorem d_bs0_62 : decode jdk_65_method_59_code 62 = .ok (.ireturn, 1) := by decide +kernel
theorem d_bs0_63 : decode jdk_65_method_59_code 63 = .ok (.goto (-55), 3) := by decide +kernel
theorem d_bs0_66 : decode jdk_65_method_59_code 66 = .ok (.iload 4, 2) := by decide +kernel
theorem d_bs0_68 : decode jdk_65_method_59_code 68 = .ok (.iconst 1, 1) := by decide +kernel
theorem d_bs0_69 : decode jdk_65_method_59_code 69 = .ok (.iadd, 1) := by decide +kernel
theorem d_bs0_70 : decode jdk_65_method_59_code 70 = .ok (.ineg, 1) := by decide +kernel
theorem d_bs0_71 : decode jdk_65_method_59_code 71 = .ok (.ireturn, 1) := by decide +kernel
abbrev rm_bs0 : Room := ({ frames := 0, cells := 0, slots := 0, locals := 0 } : Room)
def Q_bs0 (Z : State) (b : Addr) (k : ClassId) (p1 key : Int32) (h0 : Heap) (v : Option Value) (h : Heap) : Prop := ∃ z, v = some (.int z) ∧ h = h0 ∧ ((z = 0 ∧ key = p1) ∨ ((z = -1 ∨ z = -3 ∨ z = 1) ∧ ¬ key = p1))
set_option maxRecDepth 65536 in
set_option maxHeartbeats 40000000 in
theorem ct_bs0 (l : Launch) (Z : State) (a0 : Array Value) (hw : ∀ d ∈ tables_1, d.before a0 Z = true)  (b : Addr) (k : ClassId) (p1 key : Int32) {h0 : Heap} (O : Ext Z.heap h0) (V0 : Arv Z h0 b k .int (2 : Int32) [(.int p1), (.int (p1 + (1 : Int32)))] (.int (0 : Int32))) (hk : p1 < key → ¬ key < p1 + (1 : Int32)) : Ct l Z (⟨"java/util/Arrays", "binarySearch0", "([IIII)I"⟩ : MethodName) jdk_65_method_59_code 8 (some .int) rm_bs0 #[(.ref b), (.int (0 : Int32)), (.int (2 : Int32)), (.int key)] h0 (Q_bs0 Z b k p1 key h0) := by
  refine Ct.of_body (Ls := #[.val (.ref b), .val (.int (0 : Int32)), .val (.int (2 : Int32)), .val (.int key), .unset, .unset, .unset, .unset]) (by decide +kernel) O (fun m => by first | rfl | (simp [entryFrame, mkF, argsToLocals, Value.category]; done)) ?_
  intro p e s m below meth c T0 X0 e0
  subst e0
  refine E_iloadN X0 d_bs0_0 rfl (pc' := 1) rfl ?_
  refine E_istore X0 d_bs0_1 (l' := #[.val (.ref b), .val (.int (0 : Int32)), .val (.int (2 : Int32)), .val (.int key), .val (.int (0 : Int32)), .unset, .unset, .unset]) rfl (pc' := 3) rfl ?_
  refine E_iloadN X0 d_bs0_3 rfl (pc' := 4) rfl ?_
  refine E_iconst X0 (v := (1 : Int32)) d_bs0_4 rfl (pc' := 5) rfl ?_
  refine E_isub X0 (v := (1 : Int32)) d_bs0_5 (by decide) (pc' := 6) rfl ?_
  refine E_istore X0 d_bs0_6 (l' := #[.val (.ref b), .val (.int (0 : Int32)), .val (.int (2 : Int32)), .val (.int key), .val (.int (0 : Int32)), .val (.int (1 : Int32)), .unset, .unset]) rfl (pc' := 8) rfl ?_
  refine E_iload X0 d_bs0_8 rfl (pc' := 10) rfl ?_
  refine E_iload X0 d_bs0_10 rfl (pc' := 12) rfl ?_
  refine E_icF X0 d_bs0_12 (XT.ii_gt_f (by decide)) (pc' := 15) rfl ?_
  refine E_iload X0 d_bs0_15 rfl (pc' := 17) rfl ?_
  refine E_iload X0 d_bs0_17 rfl (pc' := 19) rfl ?_
  refine E_iadd X0 (v := (1 : Int32)) d_bs0_19 (by decide) (pc' := 20) rfl ?_
  refine E_iconst X0 (v := (1 : Int32)) d_bs0_20 rfl (pc' := 21) rfl ?_
  refine E_iushr X0 (v := (0 : Int32)) d_bs0_21 (by decide) (pc' := 22) rfl ?_
  refine E_istore X0 d_bs0_22 (l' := #[.val (.ref b), .val (.int (0 : Int32)), .val (.int (2 : Int32)), .val (.int key), .val (.int (0 : Int32)), .val (.int (1 : Int32)), .val (.int (0 : Int32)), .unset]) rfl (pc' := 24) rfl ?_
  refine E_aloadN X0 d_bs0_24 rfl rfl (pc' := 25) rfl ?_
  refine E_iload X0 d_bs0_25 rfl (pc' := 27) rfl ?_
  refine E_iaload X0 (v := (.int p1)) d_bs0_27 V0 ⟨by decide, by decide⟩ rfl (pc' := 28) rfl ?_
  refine E_istore X0 d_bs0_28 (l' := #[.val (.ref b), .val (.int (0 : Int32)), .val (.int (2 : Int32)), .val (.int key), .val (.int (0 : Int32)), .val (.int (1 : Int32)), .val (.int (0 : Int32)), .val (.int p1)]) rfl (pc' := 30) rfl ?_
  refine E_iload X0 d_bs0_30 rfl (pc' := 32) rfl ?_
  refine E_iloadN X0 d_bs0_32 rfl (pc' := 33) rfl ?_
  by_cases h1 : p1 < key
  · skip
    refine E_icF X0 d_bs0_33 (XT.ii_ge_f h1) (pc' := 36) rfl ?_
    refine E_iload X0 d_bs0_36 rfl (pc' := 38) rfl ?_
    refine E_iconst X0 (v := (1 : Int32)) d_bs0_38 rfl (pc' := 39) rfl ?_
    refine E_iadd X0 (v := (1 : Int32)) d_bs0_39 (by decide) (pc' := 40) rfl ?_
    refine E_istore X0 d_bs0_40 (l' := #[.val (.ref b), .val (.int (0 : Int32)), .val (.int (2 : Int32)), .val (.int key), .val (.int (1 : Int32)), .val (.int (1 : Int32)), .val (.int (0 : Int32)), .val (.int p1)]) rfl (pc' := 42) rfl ?_
    refine E_goto X0 d_bs0_42 (pc' := 63) (by decide) rfl ?_
    refine E_goto X0 d_bs0_63 (pc' := 8) (by decide) rfl ?_
    refine E_iload X0 d_bs0_8 rfl (pc' := 10) rfl ?_
    refine E_iload X0 d_bs0_10 rfl (pc' := 12) rfl ?_
    refine E_icF X0 d_bs0_12 (XT.ii_gt_f (by decide)) (pc' := 15) rfl ?_
    refine E_iload X0 d_bs0_15 rfl (pc' := 17) rfl ?_
    refine E_iload X0 d_bs0_17 rfl (pc' := 19) rfl ?_
    refine E_iadd X0 (v := (2 : Int32)) d_bs0_19 (by decide) (pc' := 20) rfl ?_
    refine E_iconst X0 (v := (1 : Int32)) d_bs0_20 rfl (pc' := 21) rfl ?_
    refine E_iushr X0 (v := (1 : Int32)) d_bs0_21 (by decide) (pc' := 22) rfl ?_
    refine E_istore X0 d_bs0_22 (l' := #[.val (.ref b), .val (.int (0 : Int32)), .val (.int (2 : Int32)), .val (.int key), .val (.int (1 : Int32)), .val (.int (1 : Int32)), .val (.int (1 : Int32)), .val (.int p1)]) rfl (pc' := 24) rfl ?_
    refine E_aloadN X0 d_bs0_24 rfl rfl (pc' := 25) rfl ?_
    refine E_iload X0 d_bs0_25 rfl (pc' := 27) rfl ?_
    refine E_iaload X0 (v := (.int (p1 + (1 : Int32)))) d_bs0_27 V0 ⟨by decide, by decide⟩ rfl (pc' := 28) rfl ?_
    refine E_istore X0 d_bs0_28 (l' := #[.val (.ref b), .val (.int (0 : Int32)), .val (.int (2 : Int32)), .val (.int key), .val (.int (1 : Int32)), .val (.int (1 : Int32)), .val (.int (1 : Int32)), .val (.int (p1 + (1 : Int32)))]) rfl (pc' := 30) rfl ?_
    refine E_iload X0 d_bs0_30 rfl (pc' := 32) rfl ?_
    refine E_iloadN X0 d_bs0_32 rfl (pc' := 33) rfl ?_
    by_cases h3 : (p1 + (1 : Int32)) < key
    · skip
      refine E_icF X0 d_bs0_33 (XT.ii_ge_f h3) (pc' := 36) rfl ?_
      refine E_iload X0 d_bs0_36 rfl (pc' := 38) rfl ?_
      refine E_iconst X0 (v := (1 : Int32)) d_bs0_38 rfl (pc' := 39) rfl ?_
      refine E_iadd X0 (v := (2 : Int32)) d_bs0_39 (by decide) (pc' := 40) rfl ?_
      refine E_istore X0 d_bs0_40 (l' := #[.val (.ref b), .val (.int (0 : Int32)), .val (.int (2 : Int32)), .val (.int key), .val (.int (2 : Int32)), .val (.int (1 : Int32)), .val (.int (1 : Int32)), .val (.int (p1 + (1 : Int32)))]) rfl (pc' := 42) rfl ?_
      refine E_goto X0 d_bs0_42 (pc' := 63) (by decide) rfl ?_
      refine E_goto X0 d_bs0_63 (pc' := 8) (by decide) rfl ?_
      refine E_iload X0 d_bs0_8 rfl (pc' := 10) rfl ?_
      refine E_iload X0 d_bs0_10 rfl (pc' := 12) rfl ?_
      refine E_icT X0 d_bs0_12 (XT.ii_gt_t (by decide)) (pc' := 66) (by decide) rfl ?_
      refine E_iload X0 d_bs0_66 rfl (pc' := 68) rfl ?_
      refine E_iconst X0 (v := (1 : Int32)) d_bs0_68 rfl (pc' := 69) rfl ?_
      refine E_iadd X0 (v := (3 : Int32)) d_bs0_69 (by decide) (pc' := 70) rfl ?_
      refine E_ineg X0 (v := (-3 : Int32)) d_bs0_70 (by decide) (pc' := 71) rfl ?_
      exact E_ireturnI X0 d_bs0_71 rfl (by decide) (by decide) (⟨_, rfl, rfl, Or.inr ⟨Or.inr (Or.inl rfl), fun q => by subst q; exact absurd h1 Int32.lt_irrefl⟩⟩)
    · skip
      refine E_icT X0 d_bs0_33 (XT.ii_ge_t h3) (pc' := 45) (by decide) rfl ?_
      refine E_iload X0 d_bs0_45 rfl (pc' := 47) rfl ?_
      refine E_iloadN X0 d_bs0_47 rfl (pc' := 48) rfl ?_
      refine E_icT X0 d_bs0_48 (XT.ii_le_t (hk h1)) (pc' := 60) (by decide) rfl ?_
      refine E_iload X0 d_bs0_60 rfl (pc' := 62) rfl ?_
      exact E_ireturnI X0 d_bs0_62 rfl (by decide) (by decide) (⟨_, rfl, rfl, Or.inr ⟨Or.inr (Or.inr rfl), fun q => by subst q; exact absurd h1 Int32.lt_irrefl⟩⟩)
  · skip
    refine E_icT X0 d_bs0_33 (XT.ii_ge_t h1) (pc' := 45) (by decide) rfl ?_
    refine E_iload X0 d_bs0_45 rfl (pc' := 47) rfl ?_
    refine E_iloadN X0 d_bs0_47 rfl (pc' := 48) rfl ?_
    by_cases h2 : key < p1
    · skip
      refine E_icF X0 d_bs0_48 (XT.ii_le_f h2) (pc' := 51) rfl ?_
      refine E_iload X0 d_bs0_51 rfl (pc' := 53) rfl ?_
      refine E_iconst X0 (v := (1 : Int32)) d_bs0_53 rfl (pc' := 54) rfl ?_
      refine E_isub X0 (v := (-1 : Int32)) d_bs0_54 (by decide) (pc' := 55) rfl ?_
      refine E_istore X0 d_bs0_55 (l' := #[.val (.ref b), .val (.int (0 : Int32)), .val (.int (2 : Int32)), .val (.int key), .val (.int (0 : Int32)), .val (.int (-1 : Int32)), .val (.int (0 : Int32)), .val (.int p1)]) rfl (pc' := 57) rfl ?_
      refine E_goto X0 d_bs0_57 (pc' := 63) (by decide) rfl ?_
      refine E_goto X0 d_bs0_63 (pc' := 8) (by decide) rfl ?_
      refine E_iload X0 d_bs0_8 rfl (pc' := 10) rfl ?_
      refine E_iload X0 d_bs0_10 rfl (pc' := 12) rfl ?_
      refine E_icT X0 d_bs0_12 (XT.ii_gt_t (by decide)) (pc' := 66) (by decide) rfl ?_
      refine E_iload X0 d_bs0_66 rfl (pc' := 68) rfl ?_
      refine E_iconst X0 (v := (1 : Int32)) d_bs0_68 rfl (pc' := 69) rfl ?_
      refine E_iadd X0 (v := (1 : Int32)) d_bs0_69 (by decide) (pc' := 70) rfl ?_
      refine E_ineg X0 (v := (-1 : Int32)) d_bs0_70 (by decide) (pc' := 71) rfl ?_
      exact E_ireturnI X0 d_bs0_71 rfl (by decide) (by decide) (⟨_, rfl, rfl, Or.inr ⟨Or.inl rfl, fun q => by subst q; exact absurd h2 Int32.lt_irrefl⟩⟩)
    · skip
      refine E_icT X0 d_bs0_48 (XT.ii_le_t h2) (pc' := 60) (by decide) rfl ?_
      refine E_iload X0 d_bs0_60 rfl (pc' := 62) rfl ?_
      exact E_ireturnI X0 d_bs0_62 rfl (by decide) (by decide) (⟨_, rfl, rfl, Or.inl ⟨rfl, Int32.le_antisymm (Int32.not_lt.mp h1) (Int32.not_lt.mp h2)⟩⟩)
theorem d_bs_0 : decode jdk_65_method_57_code 0 = .ok (.aload_n 0, 1) := by decide +kernel
theorem d_bs_1 : decode jdk_65_method_57_code 1 = .ok (.iconst 0, 1) := by decide +kernel
theorem d_bs_2 : decode jdk_65_method_57_code 2 = .ok (.aload_n 0, 1) := by decide +kernel
theorem d_bs_3 : decode jdk_65_method_57_code 3 = .ok (.arraylength, 1) := by decide +kernel
theorem d_bs_4 : decode jdk_65_method_57_code 4 = .ok (.iload_n 1, 1) := by decide +kernel
theorem d_bs_5 : decode jdk_65_method_57_code 5 = .ok (.invokestatic 209, 3) := by decide +kernel
theorem d_bs_8 : decode jdk_65_method_57_code 8 = .ok (.ireturn, 1) := by decide +kernel
abbrev rm_bs : Room := ({ frames := 1, cells := 0, slots := 0, locals := 19 } : Room)
def Q_bs (Z : State) (b : Addr) (k : ClassId) (p1 key : Int32) (h0 : Heap) (v : Option Value) (h : Heap) : Prop := ∃ z, v = some (.int z) ∧ h = h0 ∧ ((z = 0 ∧ key = p1) ∨ ((z = -1 ∨ z = -3 ∨ z = 1) ∧ ¬ key = p1))
set_option maxRecDepth 65536 in
set_option maxHeartbeats 40000000 in
theorem ct_bs (l : Launch) (Z : State) (a0 : Array Value) (hw : ∀ d ∈ tables_1, d.before a0 Z = true)  (b : Addr) (k : ClassId) (p1 key : Int32) {h0 : Heap} (O : Ext Z.heap h0) (V0 : Arv Z h0 b k .int (2 : Int32) [(.int p1), (.int (p1 + (1 : Int32)))] (.int (0 : Int32))) (hk : p1 < key → ¬ key < p1 + (1 : Int32)) : Ct l Z (⟨"java/util/Arrays", "binarySearch", "([II)I"⟩ : MethodName) jdk_65_method_57_code 2 (some .int) rm_bs #[(.ref b), (.int key)] h0 (Q_bs Z b k p1 key h0) := by
  refine Ct.of_body (Ls := #[.val (.ref b), .val (.int key)]) (by decide +kernel) O (fun m => by first | rfl | (simp [entryFrame, mkF, argsToLocals, Value.category]; done)) ?_
  intro p e s m below meth c T0 X0 e0
  subst e0
  refine E_aloadN X0 d_bs_0 rfl rfl (pc' := 1) rfl ?_
  refine E_iconst X0 (v := (0 : Int32)) d_bs_1 rfl (pc' := 2) rfl ?_
  refine E_aloadN X0 d_bs_2 rfl rfl (pc' := 3) rfl ?_
  refine E_arraylength X0 d_bs_3 V0 (pc' := 4) rfl ?_
  refine E_iloadN X0 d_bs_4 rfl (pc' := 5) rfl ?_
  refine E_static X0 (rm := rm_bs0) d_bs_5 (hw _ (List.mem_of_getElem? (i := 35) rfl)) (hw _ (List.mem_of_getElem? (i := 36) rfl)) (hw _ (List.mem_of_getElem? (i := 33) rfl)) (hw _ (List.mem_of_getElem? (i := 37) rfl)) (by decide) (argsL := [(.ref b), (.int (0 : Int32)), (.int (2 : Int32)), (.int key)]) (st := []) rfl (ct_bs0 l Z a0 hw b k p1 key X0.old V0 hk) (lenOf (pd_1) rfl) rfl (by decide) (by decide) (by decide) (Nat.le_of_ble_eq_true rfl) (pc' := 8) rfl ?_
  intro T1 _ X2 hQ3
  obtain ⟨z, rfl, e4, hz⟩ := hQ3
  rw [← e4] at V0
  show Ends p e below s Z _ _ _ T1 (mkF m 8 #[.val (.ref b), .val (.int key)] [(.int z)])
  exact E_ireturnI X2 d_bs_8 rfl (by decide) (by decide) (⟨z, rfl, e4, hz⟩)
theorem d_contains_0 : decode prog_34_method_4_code 0 = .ok (.aload_n 0, 1) := by decide +kernel
theorem d_contains_1 : decode prog_34_method_4_code 1 = .ok (.getfield 7, 3) := by decide +kernel
theorem d_contains_4 : decode prog_34_method_4_code 4 = .ok (.iload_n 1, 1) := by decide +kernel
theorem d_contains_5 : decode prog_34_method_4_code 5 = .ok (.invokestatic 35, 3) := by decide +kernel
theorem d_contains_8 : decode prog_34_method_4_code 8 = .ok (.istore_n 2, 1) := by decide +kernel
theorem d_contains_9 : decode prog_34_method_4_code 9 = .ok (.iload_n 2, 1) := by decide +kernel
theorem d_contains_10 : decode prog_34_method_4_code 10 = .ok (.ifCond .lt 17, 3) := by decide +kernel
theorem d_contains_13 : decode prog_34_method_4_code 13 = .ok (.iload_n 2, 1) := by decide +kernel
theorem d_contains_14 : decode prog_34_method_4_code 14 = .ok (.iconst 2, 1) := by decide +kernel
theorem d_contains_15 : decode prog_34_method_4_code 15 = .ok (.irem, 1) := by decide +kernel
theorem d_contains_16 : decode prog_34_method_4_code 16 = .ok (.ifCond .ne 7, 3) := by decide +kernel
theorem d_contains_19 : decode prog_34_method_4_code 19 = .ok (.iconst 1, 1) := by decide +kernel
theorem d_contains_20 : decode prog_34_method_4_code 20 = .ok (.goto 22, 3) := by decide +kernel
theorem d_contains_23 : decode prog_34_method_4_code 23 = .ok (.iconst 0, 1) := by decide +kernel
theorem d_contains_24 : decode prog_34_method_4_code 24 = .ok (.goto 18, 3) := by decide +kernel
theorem d_contains_27 : decode prog_34_method_4_code 27 = .ok (.iload_n 2, 1) := by decide +kernel
theorem d_contains_28 : decode prog_34_method_4_code 28 = .ok (.ineg, 1) := by decide +kernel
theorem d_contains_29 : decode prog_34_method_4_code 29 = .ok (.iconst 1, 1) := by decide +kernel
theorem d_contains_30 : decode prog_34_method_4_code 30 = .ok (.isub, 1) := by decide +kernel
theorem d_contains_31 : decode prog_34_method_4_code 31 = .ok (.iconst 2, 1) := by decide +kernel
theorem d_contains_32 : decode prog_34_method_4_code 32 = .ok (.irem, 1) := by decide +kernel
theorem d_contains_33 : decode prog_34_method_4_code 33 = .ok (.iconst 1, 1) := by decide +kernel
theorem d_contains_34 : decode prog_34_method_4_code 34 = .ok (.if_icmp .ne 7, 3) := by decide +kernel
theorem d_contains_41 : decode prog_34_method_4_code 41 = .ok (.iconst 0, 1) := by decide +kernel
theorem d_contains_42 : decode prog_34_method_4_code 42 = .ok (.ireturn, 1) := by decide +kernel
abbrev rm_contains : Room := ({ frames := 2, cells := 0, slots := 0, locals := 32 } : Room)
def Q_contains (Z : State) (a b : Addr) (k : ClassId) (p1 : Int32) (key : Int32) (h0 : Heap) (v : Option Value) (h : Heap) : Prop := ∃ z, v = some (.int z) ∧ h = h0 ∧ (key = p1 → z = 1) ∧ (¬ key = p1 → z = 0)
set_option maxRecDepth 65536 in
set_option maxHeartbeats 40000000 in
theorem ct_contains (l : Launch) (Z : State) (a0 : Array Value) (hw : ∀ d ∈ tables_1, d.before a0 Z = true)  (a b : Addr) (k : ClassId) (p1 : Int32) (key : Int32) {h0 : Heap} (O : Ext Z.heap h0) (F0 : Fld Z h0 a "com/example/holdfast/holdfast/IntervalSet" "bounds" "[I" (.ref b)) (V0 : Arv Z h0 b k .int (2 : Int32) [(.int p1), (.int (p1 + (1 : Int32)))] (.int (0 : Int32))) (hk : p1 < key → ¬ key < p1 + (1 : Int32)) : Ct l Z (⟨"com/example/holdfast/holdfast/IntervalSet", "contains", "(I)Z"⟩ : MethodName) prog_34_method_4_code 3 (some .boolean) rm_contains #[(.ref a), (.int key)] h0 (Q_contains Z a b k p1 key h0) := by
  refine Ct.of_body (Ls := #[.val (.ref a), .val (.int key), .unset]) (by decide +kernel) O (fun m => by first | rfl | (simp [entryFrame, mkF, argsToLocals, Value.category]; done)) ?_
  intro p e s m below meth c T0 X0 e0
  subst e0
  refine E_aloadN X0 d_contains_0 rfl rfl (pc' := 1) rfl ?_
  refine E_getfield X0 d_contains_1 (hw _ (List.mem_of_getElem? (i := 14) rfl)) Via.refl F0 (pc' := 4) rfl ?_
  intro T1 X2 e3
  rw [← e3] at F0 V0
  refine E_iloadN X2 d_contains_4 rfl (pc' := 5) rfl ?_
  refine E_static X2 (rm := rm_bs) d_contains_5 (hw _ (List.mem_of_getElem? (i := 31) rfl)) (hw _ (List.mem_of_getElem? (i := 32) rfl)) (hw _ (List.mem_of_getElem? (i := 33) rfl)) (hw _ (List.mem_of_getElem? (i := 34) rfl)) (by decide) (argsL := [(.ref b), (.int key)]) (st := []) rfl (ct_bs l Z a0 hw b k p1 key X2.old V0 hk) (lenOf (pd_2) rfl) rfl (by decide) (by decide) (by decide) (Nat.le_of_ble_eq_true rfl) (pc' := 8) rfl ?_
  intro T4 _ X5 hQ6
  obtain ⟨z, rfl, e7, hz⟩ := hQ6
  rw [← e7] at F0 V0
  rcases hz with ⟨rfl, hz⟩ | ⟨rfl | rfl | rfl, hz⟩
  · skip
    show Ends p e below s Z _ _ _ T4 (mkF m 8 #[.val (.ref a), .val (.int key), .unset] [(.int (0 : Int32))])
    refine E_istoreN X5 d_contains_8 (l' := #[.val (.ref a), .val (.int key), .val (.int (0 : Int32))]) rfl (pc' := 9) rfl ?_
    refine E_iloadN X5 d_contains_9 rfl (pc' := 10) rfl ?_
    refine E_ifF X5 d_contains_10 (XT.i0_lt_f (by decide)) (pc' := 13) rfl ?_
    refine E_iloadN X5 d_contains_13 rfl (pc' := 14) rfl ?_
    refine E_iconst X5 (v := (2 : Int32)) d_contains_14 rfl (pc' := 15) rfl ?_
    refine E_irem X5 (v := (0 : Int32)) d_contains_15 (by decide) (by decide) (pc' := 16) rfl ?_
    refine E_ifF X5 d_contains_16 (XT.i0_ne_f (by decide)) (pc' := 19) rfl ?_
    refine E_iconst X5 (v := (1 : Int32)) d_contains_19 rfl (pc' := 20) rfl ?_
    refine E_goto X5 d_contains_20 (pc' := 42) (by decide) rfl ?_
    exact E_ireturnN X5 (t := .boolean) d_contains_42 rfl (by simp) (by decide) (by decide) (⟨_, rfl, (e7.trans e3), fun _ => rfl, fun q => absurd hz q⟩)
  · skip
    show Ends p e below s Z _ _ _ T4 (mkF m 8 #[.val (.ref a), .val (.int key), .unset] [(.int (-1 : Int32))])
    refine E_istoreN X5 d_contains_8 (l' := #[.val (.ref a), .val (.int key), .val (.int (-1 : Int32))]) rfl (pc' := 9) rfl ?_
    refine E_iloadN X5 d_contains_9 rfl (pc' := 10) rfl ?_
    refine E_ifT X5 d_contains_10 (XT.i0_lt_t (by decide)) (pc' := 27) (by decide) rfl ?_
    refine E_iloadN X5 d_contains_27 rfl (pc' := 28) rfl ?_
    refine E_ineg X5 (v := (1 : Int32)) d_contains_28 (by decide) (pc' := 29) rfl ?_
    refine E_iconst X5 (v := (1 : Int32)) d_contains_29 rfl (pc' := 30) rfl ?_
    refine E_isub X5 (v := (0 : Int32)) d_contains_30 (by decide) (pc' := 31) rfl ?_
    refine E_iconst X5 (v := (2 : Int32)) d_contains_31 rfl (pc' := 32) rfl ?_
    refine E_irem X5 (v := (0 : Int32)) d_contains_32 (by decide) (by decide) (pc' := 33) rfl ?_
    refine E_iconst X5 (v := (1 : Int32)) d_contains_33 rfl (pc' := 34) rfl ?_
    refine E_icT X5 d_contains_34 (XT.ii_ne_t (by decide)) (pc' := 41) (by decide) rfl ?_
    refine E_iconst X5 (v := (0 : Int32)) d_contains_41 rfl (pc' := 42) rfl ?_
    exact E_ireturnN X5 (t := .boolean) d_contains_42 rfl (by simp) (by decide) (by decide) (⟨_, rfl, (e7.trans e3), fun q => absurd q hz, fun _ => rfl⟩)
  · skip
    show Ends p e below s Z _ _ _ T4 (mkF m 8 #[.val (.ref a), .val (.int key), .unset] [(.int (-3 : Int32))])
    refine E_istoreN X5 d_contains_8 (l' := #[.val (.ref a), .val (.int key), .val (.int (-3 : Int32))]) rfl (pc' := 9) rfl ?_
    refine E_iloadN X5 d_contains_9 rfl (pc' := 10) rfl ?_
    refine E_ifT X5 d_contains_10 (XT.i0_lt_t (by decide)) (pc' := 27) (by decide) rfl ?_
    refine E_iloadN X5 d_contains_27 rfl (pc' := 28) rfl ?_
    refine E_ineg X5 (v := (3 : Int32)) d_contains_28 (by decide) (pc' := 29) rfl ?_
    refine E_iconst X5 (v := (1 : Int32)) d_contains_29 rfl (pc' := 30) rfl ?_
    refine E_isub X5 (v := (2 : Int32)) d_contains_30 (by decide) (pc' := 31) rfl ?_
    refine E_iconst X5 (v := (2 : Int32)) d_contains_31 rfl (pc' := 32) rfl ?_
    refine E_irem X5 (v := (0 : Int32)) d_contains_32 (by decide) (by decide) (pc' := 33) rfl ?_
    refine E_iconst X5 (v := (1 : Int32)) d_contains_33 rfl (pc' := 34) rfl ?_
    refine E_icT X5 d_contains_34 (XT.ii_ne_t (by decide)) (pc' := 41) (by decide) rfl ?_
    refine E_iconst X5 (v := (0 : Int32)) d_contains_41 rfl (pc' := 42) rfl ?_
    exact E_ireturnN X5 (t := .boolean) d_contains_42 rfl (by simp) (by decide) (by decide) (⟨_, rfl, (e7.trans e3), fun q => absurd q hz, fun _ => rfl⟩)
  · skip
    show Ends p e below s Z _ _ _ T4 (mkF m 8 #[.val (.ref a), .val (.int key), .unset] [(.int (1 : Int32))])
    refine E_istoreN X5 d_contains_8 (l' := #[.val (.ref a), .val (.int key), .val (.int (1 : Int32))]) rfl (pc' := 9) rfl ?_
    refine E_iloadN X5 d_contains_9 rfl (pc' := 10) rfl ?_
    refine E_ifF X5 d_contains_10 (XT.i0_lt_f (by decide)) (pc' := 13) rfl ?_
    refine E_iloadN X5 d_contains_13 rfl (pc' := 14) rfl ?_
    refine E_iconst X5 (v := (2 : Int32)) d_contains_14 rfl (pc' := 15) rfl ?_
    refine E_irem X5 (v := (1 : Int32)) d_contains_15 (by decide) (by decide) (pc' := 16) rfl ?_
    refine E_ifT X5 d_contains_16 (XT.i0_ne_t (by decide)) (pc' := 23) (by decide) rfl ?_
    refine E_iconst X5 (v := (0 : Int32)) d_contains_23 rfl (pc' := 24) rfl ?_
    refine E_goto X5 d_contains_24 (pc' := 42) (by decide) rfl ?_
    exact E_ireturnN X5 (t := .boolean) d_contains_42 rfl (by simp) (by decide) (by decide) (⟨_, rfl, (e7.trans e3), fun q => absurd q hz, fun _ => rfl⟩)
set_option maxRecDepth 65536 in
set_option maxHeartbeats 40000000 in
theorem ct_law (l : Launch) (Z : State) (a0 : Array Value) (hw : ∀ d ∈ tables_1, d.before a0 Z = true) (p0 p1 p2 : Int32) (O : Ext Z.heap Z.heap)  : Ct l Z x code maxLocals ret room_1 #[(.int p0), (.int p1), (.int p2)] Z.heap (fun v _ => v = some (.int 1)) := by
  show Ct l Z (⟨"com/example/holdfast/holdfast/IntervalSetOfPinLaw", "law", "(III)Z"⟩ : MethodName) code 6 (some .boolean) ({ frames := 6, cells := 16, slots := 128, locals := 144 } : Room) _ _ _
  refine Ct.of_body (Ls := #[.val (.int p0), .val (.int p1), .val (.int p2), .unset, .unset, .unset]) (by decide +kernel) O (fun m => by first | rfl | (simp [entryFrame, mkF, argsToLocals, Value.category]; done)) ?_
  intro p e s m below meth c T0 X0 e0
  obtain ⟨q, hq0⟩ : ∃ q, q = ((p0 &&& (2147483647 : Int32)) % (2147483647 : Int32)) := ⟨_, rfl⟩
  have hm : q.toInt < 2147483647 := by rw [hq0]; exact own_m p0
  refine E_iloadN X0 at_0 rfl (pc' := 1) rfl ?_
  refine E_ldcI X0 (v := (2147483647 : Int32)) at_1 (hw _ (List.mem_of_getElem? (i := 0) rfl)) (pc' := 3) rfl ?_
  refine E_iand X0 at_3 rfl (pc' := 4) rfl ?_
  refine E_ldcI X0 (v := (2147483647 : Int32)) at_4 (hw _ (List.mem_of_getElem? (i := 0) rfl)) (pc' := 6) rfl ?_
  refine E_irem X0 (v := q) at_6 (by decide) hq0.symm (pc' := 7) rfl ?_
  refine E_istoreN X0 at_7 (l' := #[.val (.int p0), .val (.int p1), .val (.int p2), .val (.int q), .unset, .unset]) rfl (pc' := 8) rfl ?_
  refine E_iloadN X0 at_8 rfl (pc' := 9) rfl ?_
  refine E_iloadN X0 at_9 rfl (pc' := 10) rfl ?_
  refine E_bipush X0 (v := (7 : Int32)) at_10 rfl (pc' := 12) rfl ?_
  refine E_iand X0 at_12 rfl (pc' := 13) rfl ?_
  refine E_iconst X0 (v := (3 : Int32)) at_13 rfl (pc' := 14) rfl ?_
  refine E_isub X0 at_14 rfl (pc' := 15) rfl ?_
  refine E_iadd X0 at_15 rfl (pc' := 16) rfl ?_
  refine E_istore X0 at_16 (l' := #[.val (.int p0), .val (.int p1), .val (.int p2), .val (.int q), .val (.int (q + ((p2 &&& (7 : Int32)) - (3 : Int32)))), .unset]) rfl (pc' := 18) rfl ?_
  refine E_iloadN X0 at_18 rfl (pc' := 19) rfl ?_
  refine E_static X0 (rm := rm_of) at_19 (hw _ (List.mem_of_getElem? (i := 1) rfl)) (hw _ (List.mem_of_getElem? (i := 2) rfl)) (hw _ (List.mem_of_getElem? (i := 3) rfl)) (hw _ (List.mem_of_getElem? (i := 4) rfl)) (by decide) (argsL := [(.int q)]) (st := []) rfl (ct_of l Z a0 hw q X0.old) (lenOf (pd_3) rfl) rfl (by decide) (by decide) (by decide) (Nat.le_of_ble_eq_true rfl) (pc' := 22) rfl ?_
  intro T1 _ X2 hQ3
  obtain ⟨a, b, k, rfl, K1, sa, sb, EA, FA, VA⟩ := hQ3
  show Ends p e below s Z _ _ _ T1 (mkF m 22 #[.val (.int p0), .val (.int p1), .val (.int p2), .val (.int q), .val (.int (q + ((p2 &&& (7 : Int32)) - (3 : Int32)))), .unset] [(.ref a)])
  refine E_astore X2 at_22 rfl (l' := #[.val (.int p0), .val (.int p1), .val (.int p2), .val (.int q), .val (.int (q + ((p2 &&& (7 : Int32)) - (3 : Int32)))), .val (.ref a)]) rfl (pc' := 24) rfl ?_
  refine E_aload X2 at_24 rfl rfl (pc' := 26) rfl ?_
  refine E_virtual X2 (rm := rm_isEmpty) (a := a) (D := "com/example/holdfast/holdfast/IntervalSet") at_26 (hw _ (List.mem_of_getElem? (i := 16) rfl)) (hw _ (List.mem_of_getElem? (i := 17) rfl)) (hw _ (List.mem_of_getElem? (i := 19) rfl)) (hw _ (List.mem_of_getElem? (i := 18) rfl)) (notFace_of_selects (args := #[]) (mvT X2.hZ (hw _ (List.mem_of_getElem? (i := 19) rfl)))) (by decide) EA (hw _ (List.mem_of_getElem? (i := 3) rfl)) (hw _ (List.mem_of_getElem? (i := 20) rfl)) (argsL := []) (st := []) rfl (ct_isEmpty l Z a0 hw a b k q  X2.old FA VA ) (lenOf (pd_4) rfl) rfl (by decide) (by decide) (by decide) (Nat.le_of_ble_eq_true rfl) (pc' := 29) rfl ?_
  intro T5 _ X6 hQ7
  obtain ⟨rfl, e8⟩ := hQ7
  rw [← e8] at EA FA VA
  show Ends p e below s Z _ _ _ T5 (mkF m 29 #[.val (.int p0), .val (.int p1), .val (.int p2), .val (.int q), .val (.int (q + ((p2 &&& (7 : Int32)) - (3 : Int32)))), .val (.ref a)] [(.int (0 : Int32))])
  refine E_ifT X6 at_29 (XT.i0_eq_t (by decide)) (pc' := 34) (by decide) rfl ?_
  refine E_aload X6 at_34 rfl rfl (pc' := 36) rfl ?_
  refine E_virtual X6 (rm := rm_first) (a := a) (D := "com/example/holdfast/holdfast/IntervalSet") at_36 (hw _ (List.mem_of_getElem? (i := 21) rfl)) (hw _ (List.mem_of_getElem? (i := 22) rfl)) (hw _ (List.mem_of_getElem? (i := 24) rfl)) (hw _ (List.mem_of_getElem? (i := 23) rfl)) (notFace_of_selects (args := #[]) (mvT X6.hZ (hw _ (List.mem_of_getElem? (i := 24) rfl)))) (by decide) EA (hw _ (List.mem_of_getElem? (i := 3) rfl)) (hw _ (List.mem_of_getElem? (i := 25) rfl)) (argsL := []) (st := []) rfl (ct_first l Z a0 hw a b k q  X6.old FA VA ) (lenOf (pd_5) rfl) rfl (by decide) (by decide) (by decide) (Nat.le_of_ble_eq_true rfl) (pc' := 39) rfl ?_
  intro T10 _ X11 hQ12
  obtain ⟨rfl, e13⟩ := hQ12
  rw [← e13] at EA FA VA
  show Ends p e below s Z _ _ _ T10 (mkF m 39 #[.val (.int p0), .val (.int p1), .val (.int p2), .val (.int q), .val (.int (q + ((p2 &&& (7 : Int32)) - (3 : Int32)))), .val (.ref a)] [(.int q)])
  refine E_iloadN X11 at_39 rfl (pc' := 40) rfl ?_
  refine E_icT X11 at_40 (XT.ii_eq_t rfl) (pc' := 45) (by decide) rfl ?_
  refine E_aload X11 at_45 rfl rfl (pc' := 47) rfl ?_
  refine E_iloadN X11 at_47 rfl (pc' := 48) rfl ?_
  refine E_virtual X11 (rm := rm_contains) (a := a) (D := "com/example/holdfast/holdfast/IntervalSet") at_48 (hw _ (List.mem_of_getElem? (i := 26) rfl)) (hw _ (List.mem_of_getElem? (i := 27) rfl)) (hw _ (List.mem_of_getElem? (i := 29) rfl)) (hw _ (List.mem_of_getElem? (i := 28) rfl)) (notFace_of_selects (args := #[]) (mvT X11.hZ (hw _ (List.mem_of_getElem? (i := 29) rfl)))) (by decide) EA (hw _ (List.mem_of_getElem? (i := 3) rfl)) (hw _ (List.mem_of_getElem? (i := 30) rfl)) (argsL := [(.int q)]) (st := []) rfl (ct_contains l Z a0 hw a b k q q X11.old FA VA (own_step hm)) (lenOf (pd_6) rfl) rfl (by decide) (by decide) (by decide) (Nat.le_of_ble_eq_true rfl) (pc' := 51) rfl ?_
  intro T15 _ X16 hQ17
  obtain ⟨z14, rfl, e18, yz14, nz14⟩ := hQ17
  rw [← e18] at EA FA VA
  show Ends p e below s Z _ _ _ T15 (mkF m 51 #[.val (.int p0), .val (.int p1), .val (.int p2), .val (.int q), .val (.int (q + ((p2 &&& (7 : Int32)) - (3 : Int32)))), .val (.ref a)] [(.int z14)])
  refine E_ifT X16 at_51 (XT.i0_ne_t (by rw [yz14 rfl]; decide)) (pc' := 56) (by decide) rfl ?_
  refine E_aload X16 at_56 rfl rfl (pc' := 58) rfl ?_
  refine E_iloadN X16 at_58 rfl (pc' := 59) rfl ?_
  refine E_iconst X16 (v := (1 : Int32)) at_59 rfl (pc' := 60) rfl ?_
  refine E_iadd X16 at_60 rfl (pc' := 61) rfl ?_
  refine E_virtual X16 (rm := rm_contains) (a := a) (D := "com/example/holdfast/holdfast/IntervalSet") at_61 (hw _ (List.mem_of_getElem? (i := 26) rfl)) (hw _ (List.mem_of_getElem? (i := 27) rfl)) (hw _ (List.mem_of_getElem? (i := 29) rfl)) (hw _ (List.mem_of_getElem? (i := 28) rfl)) (notFace_of_selects (args := #[]) (mvT X16.hZ (hw _ (List.mem_of_getElem? (i := 29) rfl)))) (by decide) EA (hw _ (List.mem_of_getElem? (i := 3) rfl)) (hw _ (List.mem_of_getElem? (i := 30) rfl)) (argsL := [(.int (q + (1 : Int32)))]) (st := []) rfl (ct_contains l Z a0 hw a b k q (q + (1 : Int32)) X16.old FA VA (own_step hm)) (lenOf (pd_6) rfl) rfl (by decide) (by decide) (by decide) (Nat.le_of_ble_eq_true rfl) (pc' := 64) rfl ?_
  intro T20 _ X21 hQ22
  obtain ⟨z19, rfl, e23, yz19, nz19⟩ := hQ22
  rw [← e23] at EA FA VA
  show Ends p e below s Z _ _ _ T20 (mkF m 64 #[.val (.int p0), .val (.int p1), .val (.int p2), .val (.int q), .val (.int (q + ((p2 &&& (7 : Int32)) - (3 : Int32)))), .val (.ref a)] [(.int z19)])
  refine E_ifT X21 at_64 (XT.i0_eq_t (nz19 (own_ne1 _))) (pc' := 69) (by decide) rfl ?_
  refine E_aload X21 at_69 rfl rfl (pc' := 71) rfl ?_
  refine E_iloadN X21 at_71 rfl (pc' := 72) rfl ?_
  refine E_iconst X21 (v := (1 : Int32)) at_72 rfl (pc' := 73) rfl ?_
  refine E_isub X21 at_73 rfl (pc' := 74) rfl ?_
  refine E_virtual X21 (rm := rm_contains) (a := a) (D := "com/example/holdfast/holdfast/IntervalSet") at_74 (hw _ (List.mem_of_getElem? (i := 26) rfl)) (hw _ (List.mem_of_getElem? (i := 27) rfl)) (hw _ (List.mem_of_getElem? (i := 29) rfl)) (hw _ (List.mem_of_getElem? (i := 28) rfl)) (notFace_of_selects (args := #[]) (mvT X21.hZ (hw _ (List.mem_of_getElem? (i := 29) rfl)))) (by decide) EA (hw _ (List.mem_of_getElem? (i := 3) rfl)) (hw _ (List.mem_of_getElem? (i := 30) rfl)) (argsL := [(.int (q - (1 : Int32)))]) (st := []) rfl (ct_contains l Z a0 hw a b k q (q - (1 : Int32)) X21.old FA VA (own_step hm)) (lenOf (pd_6) rfl) rfl (by decide) (by decide) (by decide) (Nat.le_of_ble_eq_true rfl) (pc' := 77) rfl ?_
  intro T25 _ X26 hQ27
  obtain ⟨z24, rfl, e28, yz24, nz24⟩ := hQ27
  rw [← e28] at EA FA VA
  show Ends p e below s Z _ _ _ T25 (mkF m 77 #[.val (.int p0), .val (.int p1), .val (.int p2), .val (.int q), .val (.int (q + ((p2 &&& (7 : Int32)) - (3 : Int32)))), .val (.ref a)] [(.int z24)])
  refine E_ifT X26 at_77 (XT.i0_eq_t (nz24 (own_ne2 _))) (pc' := 82) (by decide) rfl ?_
  refine E_aload X26 at_82 rfl rfl (pc' := 84) rfl ?_
  refine E_iload X26 at_84 rfl (pc' := 86) rfl ?_
  refine E_virtual X26 (rm := rm_contains) (a := a) (D := "com/example/holdfast/holdfast/IntervalSet") at_86 (hw _ (List.mem_of_getElem? (i := 26) rfl)) (hw _ (List.mem_of_getElem? (i := 27) rfl)) (hw _ (List.mem_of_getElem? (i := 29) rfl)) (hw _ (List.mem_of_getElem? (i := 28) rfl)) (notFace_of_selects (args := #[]) (mvT X26.hZ (hw _ (List.mem_of_getElem? (i := 29) rfl)))) (by decide) EA (hw _ (List.mem_of_getElem? (i := 3) rfl)) (hw _ (List.mem_of_getElem? (i := 30) rfl)) (argsL := [(.int (q + ((p2 &&& (7 : Int32)) - (3 : Int32))))]) (st := []) rfl (ct_contains l Z a0 hw a b k q (q + ((p2 &&& (7 : Int32)) - (3 : Int32))) X26.old FA VA (own_step hm)) (lenOf (pd_6) rfl) rfl (by decide) (by decide) (by decide) (Nat.le_of_ble_eq_true rfl) (pc' := 89) rfl ?_
  intro T30 _ X31 hQ32
  obtain ⟨z29, rfl, e33, yz29, nz29⟩ := hQ32
  rw [← e33] at EA FA VA
  show Ends p e below s Z _ _ _ T30 (mkF m 89 #[.val (.int p0), .val (.int p1), .val (.int p2), .val (.int q), .val (.int (q + ((p2 &&& (7 : Int32)) - (3 : Int32)))), .val (.ref a)] [(.int z29)])
  refine E_iload X31 at_89 rfl (pc' := 91) rfl ?_
  refine E_iloadN X31 at_91 rfl (pc' := 92) rfl ?_
  by_cases hq : (q + ((p2 &&& (7 : Int32)) - (3 : Int32))) = q
  · skip
    refine E_icF X31 at_92 (XT.ii_ne_f hq) (pc' := 95) rfl ?_
    refine E_iconst X31 (v := (1 : Int32)) at_95 rfl (pc' := 96) rfl ?_
    refine E_goto X31 at_96 (pc' := 100) (by decide) rfl ?_
    refine E_icT X31 at_100 (XT.ii_eq_t (yz29 hq)) (pc' := 105) (by decide) rfl ?_
    refine E_aload X31 at_105 rfl rfl (pc' := 107) rfl ?_
    refine E_iloadN X31 at_107 rfl (pc' := 108) rfl ?_
    refine E_virtual X31 (rm := rm_contains) (a := a) (D := "com/example/holdfast/holdfast/IntervalSet") at_108 (hw _ (List.mem_of_getElem? (i := 26) rfl)) (hw _ (List.mem_of_getElem? (i := 27) rfl)) (hw _ (List.mem_of_getElem? (i := 29) rfl)) (hw _ (List.mem_of_getElem? (i := 28) rfl)) (notFace_of_selects (args := #[]) (mvT X31.hZ (hw _ (List.mem_of_getElem? (i := 29) rfl)))) (by decide) EA (hw _ (List.mem_of_getElem? (i := 3) rfl)) (hw _ (List.mem_of_getElem? (i := 30) rfl)) (argsL := [(.int p1)]) (st := []) rfl (ct_contains l Z a0 hw a b k q p1 X31.old FA VA (own_step hm)) (lenOf (pd_6) rfl) rfl (by decide) (by decide) (by decide) (Nat.le_of_ble_eq_true rfl) (pc' := 111) rfl ?_
    intro T35 _ X36 hQ37
    obtain ⟨z34, rfl, e38, yz34, nz34⟩ := hQ37
    rw [← e38] at EA FA VA
    show Ends p e below s Z _ _ _ T35 (mkF m 111 #[.val (.int p0), .val (.int p1), .val (.int p2), .val (.int q), .val (.int (q + ((p2 &&& (7 : Int32)) - (3 : Int32)))), .val (.ref a)] [(.int z34)])
    refine E_iloadN X36 at_111 rfl (pc' := 112) rfl ?_
    refine E_iloadN X36 at_112 rfl (pc' := 113) rfl ?_
    by_cases hp : p1 = q
    · skip
      refine E_icF X36 at_113 (XT.ii_ne_f hp) (pc' := 116) rfl ?_
      refine E_iconst X36 (v := (1 : Int32)) at_116 rfl (pc' := 117) rfl ?_
      refine E_goto X36 at_117 (pc' := 121) (by decide) rfl ?_
      refine E_icF X36 at_121 (XT.ii_ne_f (yz34 hp)) (pc' := 124) rfl ?_
      refine E_iconst X36 (v := (1 : Int32)) at_124 rfl (pc' := 125) rfl ?_
      refine E_goto X36 at_125 (pc' := 129) (by decide) rfl ?_
      exact E_ireturnN X36 (t := .boolean) at_129 rfl (by simp) (by decide) (by decide) (rfl)
    · skip
      refine E_icT X36 at_113 (XT.ii_ne_t hp) (pc' := 120) (by decide) rfl ?_
      refine E_iconst X36 (v := (0 : Int32)) at_120 rfl (pc' := 121) rfl ?_
      refine E_icF X36 at_121 (XT.ii_ne_f (nz34 hp)) (pc' := 124) rfl ?_
      refine E_iconst X36 (v := (1 : Int32)) at_124 rfl (pc' := 125) rfl ?_
      refine E_goto X36 at_125 (pc' := 129) (by decide) rfl ?_
      exact E_ireturnN X36 (t := .boolean) at_129 rfl (by simp) (by decide) (by decide) (rfl)
  · skip
    refine E_icT X31 at_92 (XT.ii_ne_t hq) (pc' := 99) (by decide) rfl ?_
    refine E_iconst X31 (v := (0 : Int32)) at_99 rfl (pc' := 100) rfl ?_
    refine E_icT X31 at_100 (XT.ii_eq_t (nz29 hq)) (pc' := 105) (by decide) rfl ?_
    refine E_aload X31 at_105 rfl rfl (pc' := 107) rfl ?_
    refine E_iloadN X31 at_107 rfl (pc' := 108) rfl ?_
    refine E_virtual X31 (rm := rm_contains) (a := a) (D := "com/example/holdfast/holdfast/IntervalSet") at_108 (hw _ (List.mem_of_getElem? (i := 26) rfl)) (hw _ (List.mem_of_getElem? (i := 27) rfl)) (hw _ (List.mem_of_getElem? (i := 29) rfl)) (hw _ (List.mem_of_getElem? (i := 28) rfl)) (notFace_of_selects (args := #[]) (mvT X31.hZ (hw _ (List.mem_of_getElem? (i := 29) rfl)))) (by decide) EA (hw _ (List.mem_of_getElem? (i := 3) rfl)) (hw _ (List.mem_of_getElem? (i := 30) rfl)) (argsL := [(.int p1)]) (st := []) rfl (ct_contains l Z a0 hw a b k q p1 X31.old FA VA (own_step hm)) (lenOf (pd_6) rfl) rfl (by decide) (by decide) (by decide) (Nat.le_of_ble_eq_true rfl) (pc' := 111) rfl ?_
    intro T40 _ X41 hQ42
    obtain ⟨z39, rfl, e43, yz39, nz39⟩ := hQ42
    rw [← e43] at EA FA VA
    show Ends p e below s Z _ _ _ T40 (mkF m 111 #[.val (.int p0), .val (.int p1), .val (.int p2), .val (.int q), .val (.int (q + ((p2 &&& (7 : Int32)) - (3 : Int32)))), .val (.ref a)] [(.int z39)])
    refine E_iloadN X41 at_111 rfl (pc' := 112) rfl ?_
    refine E_iloadN X41 at_112 rfl (pc' := 113) rfl ?_
    by_cases hp : p1 = q
    · skip
      refine E_icF X41 at_113 (XT.ii_ne_f hp) (pc' := 116) rfl ?_
      refine E_iconst X41 (v := (1 : Int32)) at_116 rfl (pc' := 117) rfl ?_
      refine E_goto X41 at_117 (pc' := 121) (by decide) rfl ?_
      refine E_icF X41 at_121 (XT.ii_ne_f (yz39 hp)) (pc' := 124) rfl ?_
      refine E_iconst X41 (v := (1 : Int32)) at_124 rfl (pc' := 125) rfl ?_
      refine E_goto X41 at_125 (pc' := 129) (by decide) rfl ?_
      exact E_ireturnN X41 (t := .boolean) at_129 rfl (by simp) (by decide) (by decide) (rfl)
    · skip
      refine E_icT X41 at_113 (XT.ii_ne_t hp) (pc' := 120) (by decide) rfl ?_
      refine E_iconst X41 (v := (0 : Int32)) at_120 rfl (pc' := 121) rfl ?_
      refine E_icF X41 at_121 (XT.ii_ne_f (nz39 hp)) (pc' := 124) rfl ?_
      refine E_iconst X41 (v := (1 : Int32)) at_124 rfl (pc' := 125) rfl ?_
      refine E_goto X41 at_125 (pc' := 129) (by decide) rfl ?_
      exact E_ireturnN X41 (t := .boolean) at_129 rfl (by simp) (by decide) (by decide) (rfl)
set_option maxRecDepth 65536 in
set_option maxHeartbeats 40000000 in
theorem comes_1 {Post : Tables → Env → Array Value → State → Outcome → State → Prop} (hpost : ∀ tb e args s v u, (limb_1_1.after args s (.returned v) u = true ∧ limb_1_2.after args s (.returned v) u = true ∧ True) → FrameEnd s (.returned v) u (Jvm.fieldLocs frame_1_writes args s ++ Jvm.arrayLocs frame_1_arrays args s ++ Jvm.staticLocs frame_1_statics s) 16 128 → Post tb e args s (.returned v) u) :
    ArmFor flags0 classFile x code maxLocals ret World_1 tables_1 room_1 Calls_1 rest_1 Pre_1 Post := by
  intro l hfl _ _ p e ha hc hk s m args below hf hA hF happ hP
  obtain ⟨hcalls, hrest, hpre⟩ := hP
  obtain ⟨-, -, -, hnamed, -, -, -, hat⟩ := (Spec.applies_iff hf).mp happ
  obtain ⟨hg, hn⟩ := and_e (Cond.before_iff.mp (show (Jvm.Cond.and given_1 narrow_1).before args s = true from hpre))
  obtain ⟨hcnt, g0⟩ := and_e hg
  obtain ⟨i0, g1⟩ := and_e g0
  obtain ⟨i1, g2⟩ := and_e g1
  obtain ⟨w0, w1, w2, rfl⟩ : ∃ w0 w1 w2 : Value, args = #[w0, w1, w2] := by
    have hs : args.size = 3 := by simpa [Cond.value, given_1] using hcnt
    obtain ⟨L⟩ := args
    match L, hs with
    | [w0, w1, w2], _ => exact ⟨w0, w1, w2, rfl⟩
  have hw := fun d (hd : d ∈ tables_1) => atoms_spec (ws := Jvm.Cond.code x code maxLocals ret :: tables_1) hat d (List.mem_cons_of_mem _ hd)
  have hfit : Fit s := fun {y c} hc i hi => by
    obtain ⟨ha, rfl⟩ := Array.getElem?_eq_some_iff.mp hc
    have q := List.all_eq_true.mp ((Array.all_eq_true_iff_forall_mem.mp hF) _ (Array.getElem_mem ha)) i (List.mem_range.mpr hi)
    simpa [Array.getElem?_eq_getElem hi] using q
  obtain ⟨x0, ex0⟩ := is_v i0
  obtain rfl : w0 = (.int x0) := Option.some.inj ex0
  obtain ⟨x1, ex1⟩ := is_v i1
  obtain rfl : w1 = (.int x1) := Option.some.inj ex1
  obtain ⟨x2, ex2⟩ := is_v g2
  obtain rfl : w2 = (.int x2) := Option.some.inj ex2
  obtain ⟨n, o, h1, h2, h3, _, L, rfl, ⟨N, -, rfl⟩, hq⟩ := ct_law l s _ hw x0 x1 x2  ⟨Nat.le_refl _, fun _ _ q => q⟩  tables_1 p e ha hc hk s m _ below hf ((Spec.applies_iff_loose hf).mp happ).1 ⟨rfl, State.Warmed39.refl s, rfl⟩ trivial
  refine ⟨n, _, h1, h2, h3, hpost _ _ _ _ _ _ ⟨Cond.after_iff.mpr rfl, Cond.after_iff.mpr (eq_i res_at (Term.int_eval (1)) rfl), trivial⟩ ⟨hq.1, hq.2.1, (hq.2.2.sift fun y hy => Or.inr (N y hy)).mono (by decide) (by decide)⟩⟩
theorem main_1_1 : Claimed_1_1 := comes_1 fun _ _ _ _ _ _ h hF => ⟨h.1, hF⟩
theorem main_1_2 : Claimed_1_2 := comes_1 fun _ _ _ _ _ _ h hF => ⟨h.2.1, hF⟩
end Jvm.Pilot.@@N@@
namespace Jvm.Pilot.@@N@@
open Jvm Jvm.ClassFile Sem Op Lib Jvm.Free Jvm.Stand Jvm.Pilot.@@N@@.Jvm.D
/-! MADE BY PROGRAM (witnessworld.py) out of the Statement's table words and the real class files: 10 classes; the members and pool entries that the words name. The judged class is class 1, her method 1. -/
namespace start1
open Jvm.ClassFile
def u (s : String) : CpInfo := .utf8 (stringToUtf16 s)
/-- a pool by its gaps: so many unusable entries, then the entry; so many at the end -/
def gap : Nat → List CpInfo → List CpInfo
  | 0, r => r
  | n + 1, r => .unusable :: gap n r
def poolList (es : List (Nat × CpInfo)) (last : Nat) : List CpInfo := es.foldr (fun e r => gap e.1 (e.2 :: r)) (gap last [])
def pool (es : List (Nat × CpInfo)) (last : Nat) : Array CpInfo := ⟨poolList es last⟩
def fileOf (pool : Array CpInfo) (this : Nat) (attrs : Array Attribute := #[]) (ms : Array MethodInfo := #[]) (fl : Nat := 33) (sup : Nat := 0) (ifs : Array Nat := #[]) (fds : Array FieldInfo := #[]) : ClassFile where
  minorVersion := 0
  majorVersion := 65
  constantPool := pool
  accessFlags := fl
  thisClass := this
  superClass := sup
  interfaces := ifs
  fields := fds
  methods := ms
  attributes := attrs
def plain (name : String) (sup : Option ClassId) : Class where
  name := name
  kind := .ordinary
  loader := none
  accessFlags := 33
  super := sup
  interfaces := #[]
  cf := none
  fields := #[]
  methods := #[]
  instanceTypes := #[]
  staticTypes := #[]
  resolved := #[]
  callSites := []
  init := .initialized
  statics := none
  mirror := none

def pool0 : Array CpInfo := pool [(5, u "<init>"), (0, u "()V"), (1, .class_ 10), (1, u "java/lang/Object")] 113

def k0c0 : Code := { maxStack := 0, maxLocals := 1, code := object_method_1_code, exceptionTable := #[], attributes := #[] }
def k0m0 : Method := { name := "<init>", desc := "()V", sig := { parameters := [], returnType := none }, accessFlags := 1, code := some k0c0 }
/-- java/lang/Object -/
def k0 : Class := { plain "java/lang/Object" none with
  accessFlags := 33
  interfaces := #[]
  cf := some (fileOf pool0 8 #[] #[{ accessFlags := 1, nameIndex := 5, descriptorIndex := 6, attributes := #[] }] 33 0 #[] #[])
  fields := #[]
  methods := #[k0m0]
  instanceTypes := #[]
  staticTypes := #[]
  resolved := Array.replicate 124 none
  statics := none }

def pool1 : Array CpInfo := pool [(2, .class_ 4), (1, u "java/lang/Object"), (0, u "<init>"), (0, u "()V"), (0, .integer 2147483647), (0, .methodref 9 10), (0, .class_ 11), (0, .nameAndType 12 13), (0, u "com/example/holdfast/holdfast/IntervalSet"), (0, u "of"), (0, u "(I)Lcom/example/holdfast/holdfast/IntervalSet;"), (0, .methodref 9 15), (0, .nameAndType 16 17), (0, u "isEmpty"), (0, u "()Z"), (0, .methodref 9 19), (0, .nameAndType 20 21), (0, u "first"), (0, u "()I"), (0, .methodref 9 23), (0, .nameAndType 24 25), (0, u "contains"), (0, u "(I)Z"), (0, .class_ 27), (0, u "com/example/holdfast/holdfast/IntervalSetOfPinLaw"), (2, u "law"), (0, u "(III)Z")] 3

def k1m0 : Method := { name := "<init>", desc := "()V", sig := { parameters := [], returnType := none }, accessFlags := 1, code := none }
def k1c1 : Code := { maxStack := 3, maxLocals := 6, code := code, exceptionTable := #[], attributes := #[] }
def k1m1 : Method := { name := "law", desc := "(III)Z", sig := { parameters := [.int, .int, .int], returnType := some .boolean }, accessFlags := 9, code := some k1c1 }
/-- com/example/holdfast/holdfast/IntervalSetOfPinLaw -/
def k1 : Class := { plain "com/example/holdfast/holdfast/IntervalSetOfPinLaw" (some 0) with
  accessFlags := 49
  interfaces := #[]
  cf := some (fileOf pool1 26 #[] #[{ accessFlags := 1, nameIndex := 5, descriptorIndex := 6, attributes := #[] }, { accessFlags := 9, nameIndex := 30, descriptorIndex := 31, attributes := #[] }] 49 2 #[] #[])
  fields := #[]
  methods := #[k1m0, k1m1]
  instanceTypes := #[]
  staticTypes := #[]
  resolved := Array.replicate 35 none
  statics := none }

def pool2 : Array CpInfo := pool [(1, .methodref 2 3), (0, .class_ 4), (0, .nameAndType 5 6), (0, u "java/lang/Object"), (0, u "<init>"), (0, u "()V"), (0, .fieldref 8 9), (0, .class_ 10), (0, .nameAndType 11 12), (0, u "com/example/holdfast/holdfast/IntervalSet"), (0, u "bounds"), (0, u "[I"), (0, .methodref 8 14), (0, .nameAndType 5 15), (0, u "([I)V"), (14, .class_ 32), (1, u "java/util/Arrays"), (2, .methodref 30 36), (0, .nameAndType 37 38), (0, u "binarySearch"), (0, u "([II)I"), (6, u "isEmpty"), (0, u "()Z"), (71, u "first"), (2, u "EMPTY"), (0, u "Lcom/example/holdfast/holdfast/IntervalSet;"), (0, u "UNION"), (0, u "I"), (2, u "INTERSECTION"), (1, u "MINUS"), (3, u "of"), (0, u "(I)Lcom/example/holdfast/holdfast/IntervalSet;"), (3, u "contains"), (0, u "(I)Z"), (0, u "()I")] 52

def k2c0 : Code := { maxStack := 2, maxLocals := 2, code := prog_34_method_1_code, exceptionTable := #[], attributes := #[] }
def k2m0 : Method := { name := "<init>", desc := "([I)V", sig := { parameters := [(.array .int)], returnType := none }, accessFlags := 2, code := some k2c0 }
def k2c1 : Code := { maxStack := 7, maxLocals := 1, code := prog_34_method_2_code, exceptionTable := #[], attributes := #[] }
def k2m1 : Method := { name := "of", desc := "(I)Lcom/example/holdfast/holdfast/IntervalSet;", sig := { parameters := [.int], returnType := some (.object "com/example/holdfast/holdfast/IntervalSet") }, accessFlags := 8, code := some k2c1 }
def k2c2 : Code := { maxStack := 2, maxLocals := 3, code := prog_34_method_4_code, exceptionTable := #[], attributes := #[] }
def k2m2 : Method := { name := "contains", desc := "(I)Z", sig := { parameters := [.int], returnType := some .boolean }, accessFlags := 0, code := some k2c2 }
def k2c3 : Code := { maxStack := 1, maxLocals := 1, code := prog_34_method_5_code, exceptionTable := #[], attributes := #[] }
def k2m3 : Method := { name := "isEmpty", desc := "()Z", sig := { parameters := [], returnType := some .boolean }, accessFlags := 0, code := some k2c3 }
def k2c4 : Code := { maxStack := 2, maxLocals := 1, code := prog_34_method_6_code, exceptionTable := #[], attributes := #[] }
def k2m4 : Method := { name := "first", desc := "()I", sig := { parameters := [], returnType := some .int }, accessFlags := 0, code := some k2c4 }
/-- com/example/holdfast/holdfast/IntervalSet -/
def k2 : Class := { plain "com/example/holdfast/holdfast/IntervalSet" (some 0) with
  accessFlags := 32
  interfaces := #[]
  cf := some (fileOf pool2 8 #[] #[{ accessFlags := 2, nameIndex := 5, descriptorIndex := 15, attributes := #[] }, { accessFlags := 8, nameIndex := 133, descriptorIndex := 134, attributes := #[] }, { accessFlags := 0, nameIndex := 138, descriptorIndex := 139, attributes := #[] }, { accessFlags := 0, nameIndex := 45, descriptorIndex := 46, attributes := #[] }, { accessFlags := 0, nameIndex := 118, descriptorIndex := 140, attributes := #[] }] 32 2 #[] #[{ accessFlags := 24, nameIndex := 121, descriptorIndex := 122, attributes := #[] }, { accessFlags := 26, nameIndex := 123, descriptorIndex := 124, attributes := #[] }, { accessFlags := 26, nameIndex := 127, descriptorIndex := 124, attributes := #[] }, { accessFlags := 26, nameIndex := 129, descriptorIndex := 124, attributes := #[] }, { accessFlags := 18, nameIndex := 11, descriptorIndex := 12, attributes := #[] }])
  fields := #[{ name := "EMPTY", type := (.object "com/example/holdfast/holdfast/IntervalSet"), accessFlags := 24, slot := 0, constantValue := 0 }, { name := "UNION", type := .int, accessFlags := 26, slot := 1, constantValue := 0 }, { name := "INTERSECTION", type := .int, accessFlags := 26, slot := 2, constantValue := 0 }, { name := "MINUS", type := .int, accessFlags := 26, slot := 3, constantValue := 0 }, { name := "bounds", type := (.array .int), accessFlags := 18, slot := 0, constantValue := 0 }]
  methods := #[k2m0, k2m1, k2m2, k2m3, k2m4]
  instanceTypes := #[(.array .int)]
  staticTypes := #[(.object "com/example/holdfast/holdfast/IntervalSet"), .int, .int, .int]
  resolved := Array.replicate 193 none
  statics := none }

def pool3 : Array CpInfo := pool [(2, .class_ 4), (1, u "java/lang/Object"), (0, u "<init>"), (0, u "()V"), (7, .class_ 16), (1, u "java/util/Arrays"), (57, .class_ 76), (1, u "java/util/Arrays$NaturalOrder"), (36, .class_ 115), (1, u "java/util/Arrays$LegacyMergeSort"), (1, u "Z"), (89, u "binarySearch0"), (1, .methodref 14 210), (0, .nameAndType 207 211), (0, u "([IIII)I"), (163, .class_ 376), (0, u "java/util/Arrays$ArrayList"), (68, u "$assertionsDisabled"), (269, u "MIN_ARRAY_SORT_GRAN"), (0, u "I"), (2, u "INSERTIONSORT_THRESHOLD"), (74, u "binarySearch"), (4, u "([II)I"), (175, .class_ 976), (0, u "java/util/Arrays$ArrayItr")] 52

def k3m0 : Method := { name := "<init>", desc := "()V", sig := { parameters := [], returnType := none }, accessFlags := 2, code := none }
def k3c1 : Code := { maxStack := 4, maxLocals := 2, code := jdk_65_method_57_code, exceptionTable := #[], attributes := #[] }
def k3m1 : Method := { name := "binarySearch", desc := "([II)I", sig := { parameters := [(.array .int), .int], returnType := some .int }, accessFlags := 9, code := some k3c1 }
def k3c2 : Code := { maxStack := 2, maxLocals := 8, code := jdk_65_method_59_code, exceptionTable := #[], attributes := #[] }
def k3m2 : Method := { name := "binarySearch0", desc := "([IIII)I", sig := { parameters := [(.array .int), .int, .int, .int], returnType := some .int }, accessFlags := 10, code := some k3c2 }
/-- java/util/Arrays -/
def k3 : Class := { plain "java/util/Arrays" (some 0) with
  accessFlags := 49
  interfaces := #[]
  cf := some (fileOf pool3 14 #[.nestMembers #[975, 375, 113, 74]] #[{ accessFlags := 2, nameIndex := 5, descriptorIndex := 6, attributes := #[] }, { accessFlags := 9, nameIndex := 794, descriptorIndex := 799, attributes := #[] }, { accessFlags := 10, nameIndex := 207, descriptorIndex := 211, attributes := #[] }] 49 2 #[] #[{ accessFlags := 26, nameIndex := 715, descriptorIndex := 716, attributes := #[] }, { accessFlags := 26, nameIndex := 719, descriptorIndex := 716, attributes := #[] }, { accessFlags := 4120, nameIndex := 445, descriptorIndex := 117, attributes := #[] }])
  fields := #[{ name := "MIN_ARRAY_SORT_GRAN", type := .int, accessFlags := 26, slot := 0, constantValue := 0 }, { name := "INSERTIONSORT_THRESHOLD", type := .int, accessFlags := 26, slot := 1, constantValue := 0 }, { name := "$assertionsDisabled", type := .boolean, accessFlags := 4120, slot := 2, constantValue := 0 }]
  methods := #[k3m0, k3m1, k3m2]
  instanceTypes := #[]
  staticTypes := #[.int, .int, .boolean]
  resolved := Array.replicate 1029 none
  statics := none }

def pool4 : Array CpInfo := pool [(1, u "java/lang/Cloneable"), (0, .class_ 1), (0, u "java/lang/Object"), (0, .class_ 3)] 3

/-- java/lang/Cloneable -/
def k4 : Class := { plain "java/lang/Cloneable" (some 0) with
  accessFlags := 1537
  interfaces := #[]
  cf := some (fileOf pool4 2 #[] #[] 1537 4 #[] #[])
  fields := #[]
  methods := #[]
  instanceTypes := #[]
  staticTypes := #[]
  resolved := Array.replicate 8 none
  statics := none }

def pool5 : Array CpInfo := pool [(1, u "java/io/Serializable"), (0, .class_ 1), (0, u "java/lang/Object"), (0, .class_ 3)] 3

/-- java/io/Serializable -/
def k5 : Class := { plain "java/io/Serializable" (some 0) with
  accessFlags := 1537
  interfaces := #[]
  cf := some (fileOf pool5 2 #[] #[] 1537 4 #[] #[])
  fields := #[]
  methods := #[]
  instanceTypes := #[]
  staticTypes := #[]
  resolved := Array.replicate 8 none
  statics := none }

/-- the primitive byte -/
def k6 : Class := { plain "byte" none with kind := .primitive 'B', accessFlags := 0x411 }
/-- [B -/
def k7 : Class := { plain "[B" (some 0) with kind := .array 6 .byte, interfaces := #[4, 5], accessFlags := 1041 }

/-- the primitive int -/
def k8 : Class := { plain "int" none with kind := .primitive 'I', accessFlags := 0x411 }
/-- [I -/
def k9 : Class := { plain "[I" (some 0) with kind := .array 8 .int, interfaces := #[4, 5], accessFlags := 1041 }

def heap : Heap := #[]
def classes : Array Class := #[k0, k1, k2, k3, k4, k5, k6, k7, k8, k9]
def interned : List (Array UInt16 × Addr) := []
def slotsUsed : Nat := 0
def theMethod : MethodId := ⟨1, 1⟩
def args0 : Array Value := #[.int 5, .int 6, .int 7]
def aboutOver (below : List Frame) : State where
  vm := { classes := classes, interned := interned.toArray }
  heap := heap
  slotsUsed := slotsUsed
  threads := #[{ frames := .invoking theMethod args0 :: below }]
def below0 : List Frame := [.native { method := ⟨0, 0⟩, args := #[] }]
def about1 : State := aboutOver below0
def p0 : Program := .bare "" "" ""
def e0 : Env := launch0.env 0 0 0
theorem w_frames : about1.frames = Frame.invoking theMethod args0 :: below0 := rfl
set_option maxRecDepth 65536 in
theorem w_args : argsFit about1.vm theMethod args0 = true := by decide +kernel
set_option maxRecDepth 65536 in
theorem w_heap : heapFits about1 = true := by decide +kernel
set_option maxRecDepth 65536 in
theorem w_runnable : about1.curStatus? = some .runnable := by decide +kernel
set_option maxRecDepth 65536 in
theorem w_alone : about1.alone = true := by decide +kernel
set_option maxRecDepth 65536 in
theorem w_named : about1.methodNamed? x = some theMethod := by decide +kernel
set_option maxRecDepth 65536 in
theorem w_hears : about1.hears theMethod below0 = true := by decide +kernel
set_option maxRecDepth 65536 in
theorem w_ripe : about1.ripe theMethod args0 below0 = true := by decide +kernel
theorem w_running : about1.status = .running := rfl
set_option maxRecDepth 65536 in
theorem w_room : about1.hasRoom e0.platform room_1 = true :=
  launch0.hasRoom_least _ room_1 (by decide +kernel) (by decide +kernel) (by decide +kernel) (by decide +kernel) (by decide +kernel) (by decide +kernel)
theorem allAtoms_all (ts : List Jvm.Cond) (a : Array Jvm.Value) (st : Jvm.State) : (allAtoms ts).before a st = ts.all (fun c => c.before a st) := by
  induction ts with
  | nil => rfl
  | cons c t ih =>
    show (Jvm.Cond.and c (allAtoms t)).before a st = _
    rw [Jvm.Cond.before_and, ih, List.all_cons]
def words1 : List Jvm.Cond := Jvm.Cond.code x code maxLocals ret :: tables_1
/-- a 'code' word, met by the world's own term for the bytes: nothing is compared byte by byte -/
theorem code_word {y : MethodName} {bytes : ByteArray} {mx : Nat} {rt : Option FieldType} {a : Array Value} {s : State} {m : MethodId} {meth : Method} {c : Code} (h1 : s.methodNamed? y = some m) (h2 : s.vm.method? m = some meth) (h3 : meth.code = some c) (h4 : c.code = bytes)
    (h5 : (c.maxLocals == mx && c.exceptionTable.isEmpty && decide (c.maxStack ≤ mostOperands) && decide (meth.sig.returnType = rt) && !meth.locks && decide (parseMethodDescriptor y.desc = some meth.sig)) = true) : (Jvm.Cond.code y bytes mx rt).before a s = true := by
  simp only [Bool.and_eq_true, beq_iff_eq, Bool.not_eq_true', decide_eq_true_eq] at h5
  obtain ⟨⟨⟨⟨⟨g1, g2⟩, g3⟩, g4⟩, g5⟩, g6⟩ := h5
  simp [Cond.before, Cond.holds, Cond.value, h1, h2, h3, h4, g1, g2, g3, g4, g5, g6]
def isCode : Jvm.Cond → Bool
  | .code _ _ _ _ => true
  | _ => false
theorem all_split {L : List Jvm.Cond} {P : Jvm.Cond → Bool} (h1 : L.all (fun c => isCode c || P c) = true) (h2 : ∀ c ∈ L.filter isCode, P c = true) : L.all P = true := by
  refine List.all_eq_true.mpr fun c hc => ?_
  have h := List.all_eq_true.mp h1 c hc
  rcases Bool.eq_false_or_eq_true (isCode c) with hi | hi
  · exact h2 c (List.mem_filter.mpr ⟨hc, hi⟩)
  · simpa [hi] using h
set_option maxRecDepth 65536 in
theorem w_c0 : (Jvm.Cond.code x code maxLocals ret).before args0 about1 = true := code_word (m := ⟨1, 1⟩) (meth := k1m1) (c := k1c1) (by decide +kernel) rfl rfl rfl (by decide +kernel)
set_option maxRecDepth 65536 in
theorem w_c1 : (Jvm.Cond.code ({ cls := "com/example/holdfast/holdfast/IntervalSet", name := "of", desc := "(I)Lcom/example/holdfast/holdfast/IntervalSet;" } : Jvm.MethodName) prog_34_method_2_code (1 : Nat) (Option.some (Jvm.ClassFile.FieldType.object "com/example/holdfast/holdfast/IntervalSet"))).before args0 about1 = true := code_word (m := ⟨2, 1⟩) (meth := k2m1) (c := k2c1) (by decide +kernel) rfl rfl rfl (by decide +kernel)
set_option maxRecDepth 65536 in
theorem w_c2 : (Jvm.Cond.code ({ cls := "com/example/holdfast/holdfast/IntervalSet", name := "<init>", desc := "([I)V" } : Jvm.MethodName) prog_34_method_1_code (2 : Nat) (Option.none : Option Jvm.ClassFile.FieldType)).before args0 about1 = true := code_word (m := ⟨2, 0⟩) (meth := k2m0) (c := k2c0) (by decide +kernel) rfl rfl rfl (by decide +kernel)
set_option maxRecDepth 65536 in
theorem w_c3 : (Jvm.Cond.code ({ cls := "java/lang/Object", name := "<init>", desc := "()V" } : Jvm.MethodName) object_method_1_code (1 : Nat) (Option.none : Option Jvm.ClassFile.FieldType)).before args0 about1 = true := code_word (m := ⟨0, 0⟩) (meth := k0m0) (c := k0c0) (by decide +kernel) rfl rfl rfl (by decide +kernel)
set_option maxRecDepth 65536 in
theorem w_c4 : (Jvm.Cond.code ({ cls := "com/example/holdfast/holdfast/IntervalSet", name := "isEmpty", desc := "()Z" } : Jvm.MethodName) prog_34_method_5_code (1 : Nat) (Option.some Jvm.ClassFile.FieldType.boolean)).before args0 about1 = true := code_word (m := ⟨2, 3⟩) (meth := k2m3) (c := k2c3) (by decide +kernel) rfl rfl rfl (by decide +kernel)
set_option maxRecDepth 65536 in
theorem w_c5 : (Jvm.Cond.code ({ cls := "com/example/holdfast/holdfast/IntervalSet", name := "first", desc := "()I" } : Jvm.MethodName) prog_34_method_6_code (1 : Nat) (Option.some Jvm.ClassFile.FieldType.int)).before args0 about1 = true := code_word (m := ⟨2, 4⟩) (meth := k2m4) (c := k2c4) (by decide +kernel) rfl rfl rfl (by decide +kernel)
set_option maxRecDepth 65536 in
theorem w_c6 : (Jvm.Cond.code ({ cls := "com/example/holdfast/holdfast/IntervalSet", name := "contains", desc := "(I)Z" } : Jvm.MethodName) prog_34_method_4_code (3 : Nat) (Option.some Jvm.ClassFile.FieldType.boolean)).before args0 about1 = true := code_word (m := ⟨2, 2⟩) (meth := k2m2) (c := k2c2) (by decide +kernel) rfl rfl rfl (by decide +kernel)
set_option maxRecDepth 65536 in
theorem w_c7 : (Jvm.Cond.code ({ cls := "java/util/Arrays", name := "binarySearch", desc := "([II)I" } : Jvm.MethodName) jdk_65_method_57_code (2 : Nat) (Option.some Jvm.ClassFile.FieldType.int)).before args0 about1 = true := code_word (m := ⟨3, 1⟩) (meth := k3m1) (c := k3c1) (by decide +kernel) rfl rfl rfl (by decide +kernel)
set_option maxRecDepth 65536 in
theorem w_c8 : (Jvm.Cond.code ({ cls := "java/util/Arrays", name := "binarySearch0", desc := "([IIII)I" } : Jvm.MethodName) jdk_65_method_59_code (8 : Nat) (Option.some Jvm.ClassFile.FieldType.int)).before args0 about1 = true := code_word (m := ⟨3, 2⟩) (meth := k3m2) (c := k3c2) (by decide +kernel) rfl rfl rfl (by decide +kernel)
def codes1 : List Jvm.Cond := [Jvm.Cond.code x code maxLocals ret, Jvm.Cond.code ({ cls := "com/example/holdfast/holdfast/IntervalSet", name := "of", desc := "(I)Lcom/example/holdfast/holdfast/IntervalSet;" } : Jvm.MethodName) prog_34_method_2_code (1 : Nat) (Option.some (Jvm.ClassFile.FieldType.object "com/example/holdfast/holdfast/IntervalSet")), Jvm.Cond.code ({ cls := "com/example/holdfast/holdfast/IntervalSet", name := "<init>", desc := "([I)V" } : Jvm.MethodName) prog_34_method_1_code (2 : Nat) (Option.none : Option Jvm.ClassFile.FieldType), Jvm.Cond.code ({ cls := "java/lang/Object", name := "<init>", desc := "()V" } : Jvm.MethodName) object_method_1_code (1 : Nat) (Option.none : Option Jvm.ClassFile.FieldType), Jvm.Cond.code ({ cls := "com/example/holdfast/holdfast/IntervalSet", name := "isEmpty", desc := "()Z" } : Jvm.MethodName) prog_34_method_5_code (1 : Nat) (Option.some Jvm.ClassFile.FieldType.boolean), Jvm.Cond.code ({ cls := "com/example/holdfast/holdfast/IntervalSet", name := "first", desc := "()I" } : Jvm.MethodName) prog_34_method_6_code (1 : Nat) (Option.some Jvm.ClassFile.FieldType.int), Jvm.Cond.code ({ cls := "com/example/holdfast/holdfast/IntervalSet", name := "contains", desc := "(I)Z" } : Jvm.MethodName) prog_34_method_4_code (3 : Nat) (Option.some Jvm.ClassFile.FieldType.boolean), Jvm.Cond.code ({ cls := "java/util/Arrays", name := "binarySearch", desc := "([II)I" } : Jvm.MethodName) jdk_65_method_57_code (2 : Nat) (Option.some Jvm.ClassFile.FieldType.int), Jvm.Cond.code ({ cls := "java/util/Arrays", name := "binarySearch0", desc := "([IIII)I" } : Jvm.MethodName) jdk_65_method_59_code (8 : Nat) (Option.some Jvm.ClassFile.FieldType.int)]
set_option maxRecDepth 65536 in
theorem codes_eq : words1.filter isCode = codes1 := rfl
theorem w_codes : ∀ c ∈ words1.filter isCode, c.before args0 about1 = true := by
  rw [codes_eq]
  intro c hc
  simp only [codes1, List.mem_cons, List.not_mem_nil, or_false] at hc
  rcases hc with rfl | rfl | rfl | rfl | rfl | rfl | rfl | rfl | rfl
  · exact w_c0
  · exact w_c1
  · exact w_c2
  · exact w_c3
  · exact w_c4
  · exact w_c5
  · exact w_c6
  · exact w_c7
  · exact w_c8
set_option maxRecDepth 65536 in
theorem w_t1 : (words1.take 24).all (fun c => isCode c || c.before args0 about1) = true := by decide +kernel
set_option maxRecDepth 65536 in
theorem w_t2 : (words1.drop 24).all (fun c => isCode c || c.before args0 about1) = true := by decide +kernel
theorem w_tables : (allAtoms (Jvm.Cond.code x code maxLocals ret :: tables_1)).before args0 about1 = true := by
  rw [allAtoms_all]
  show words1.all (fun c => c.before args0 about1) = true
  refine all_split ?_ w_codes
  rw [← List.take_append_drop 24 words1, List.all_append, w_t1, w_t2]
  rfl
set_option maxRecDepth 65536 in
theorem w_case : (Jvm.Cond.and given_1 narrow_1).before args0 about1 = true := by decide +kernel
theorem w_applies : (headSpec (Jvm.Cond.code x code maxLocals ret :: tables_1) room_1).applies x e0.platform about1 = true :=
  (Spec.applies_iff w_frames).mpr ⟨w_running, w_runnable, w_alone, w_named, w_hears, w_ripe, w_room, w_tables⟩
theorem atStart : AtStart classFile x code maxLocals ret World_1 tables_1 room_1 Calls_1 rest_1 Pre_1 launch0 p0 e0 about1 theMethod args0 below0 :=
  ⟨lists_1, trivial, launch0.admits_env _ _ _, launch0.least_env, fairChoices_fair.cas, fairChoices_fair.clock, w_frames, w_args, w_heap, w_applies, trivial, trivial, w_case⟩
end start1
theorem witness_1 : WitnessClaimed_1 := ⟨start1.p0, start1.e0, start1.about1, start1.theMethod, start1.args0, start1.below0, start1.atStart⟩
end Jvm.Pilot.@@N@@
