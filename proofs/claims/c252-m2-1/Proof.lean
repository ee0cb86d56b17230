import JvmDerived
import JvmDerived.Pilot.@@N@@Statement
import JvmDerived.Pilot.@@N@@Code
set_option linter.unusedVariables false
set_option linter.unusedSimpArgs false
namespace Jvm.Pilot.@@N@@
open Jvm Jvm.ClassFile Sem Op Lib Jvm.Free Jvm.Stand Jvm.LawKit Jvm.RoadKit Bundle Jvm.Pilot.@@N@@.Jvm.D
section Own
variable {p : Program} {l : Launch} {e : Env} {R : Room} {s : State} {m : MethodId} {args : Array Value} {below : List Frame} {meth : Method} {c : Code} {T T' : State} {cells slots : Nat} {Z : State} {bytes : ByteArray} {mL : Nat} {ret : Option FieldType} {own nm : String} {Q : Option Value → Heap → Prop} {cC cS : Nat} {pc : Nat} {Ls : Array Slot} {st : List Value} {a0 : Array Value} {g g' : JFrame}
/-- the walk stands at T, so many cells and slots made, nothing old written -/
def Wk (l : Launch) (Z : State) (R : Room) (bytes : ByteArray) (mL : Nat) (ret : Option FieldType) (own nm : String) (p : Program) (e : Env) (s : State) (m : MethodId) (args : Array Value) (below : List Frame) (meth : Method) (c : Code) (T : State) (cells slots : Nat) : Prop :=
  (p.tables.exec = Jvm.exec ∧ c.code = bytes ∧ c.maxLocals = mL ∧ meth.sig.returnType = ret ∧ meth.locks = false ∧ s.vm.findClass own = some m.cls ∧ meth.name = nm ∧ Z.Warmed39 s.vm) ∧
  ∃ locs, Stand p l e R s m args below meth c T locs cells slots ∧ Fr Z.heap.size locs ∧ Ext Z.heap T.heap
/-- from T with frame g the method comes to its end, and Q holds there -/
def Ends (p : Program) (e : Env) (below : List Frame) (s : State) (Z : State) (Q : Option Value → Heap → Prop) (cC cS : Nat) (T : State) (g : JFrame) : Prop :=
  ∃ t o, Steps p.tables e below (T.setTop g) t ∧ t.status = .running ∧ Ended t below o ∧ ∃ v L, o = .returned v ∧ (Fr Z.heap.size L ∧ Ext Z.heap t.heap ∧ Q v t.heap) ∧ FrameEnd s o t L cC cS
/-- a method's contract -/
def Ct (l : Launch) (Z : State) (y : MethodName) (bytes : ByteArray) (mL : Nat) (ret : Option FieldType) (rm : Room) (as' : Array Value) (h : Heap) (Q : Option Value → Heap → Prop) : Prop :=
  ∀ ws, MetFree l y (head1 (Jvm.Cond.code y bytes mL ret :: ws) rm) (fun a U => a = as' ∧ Z.Warmed39 U.vm ∧ U.heap = h) (fun _ _ _ _ _ => True) (fun _ U o U' => ∃ v L, o = .returned v ∧ (Fr Z.heap.size L ∧ Ext Z.heap U'.heap ∧ Q v U'.heap) ∧ FrameEnd U o U' L rm.cells rm.slots)
theorem Wk.hx (X : Wk l Z R bytes mL ret own nm p e s m args below meth c T cells slots) : p.tables.exec = Jvm.exec := X.1.1
theorem Wk.hb (X : Wk l Z R bytes mL ret own nm p e s m args below meth c T cells slots) {pc : Nat} {r : Except DecodeError (Instr × Nat)} (h : decode bytes pc = r) : decode c.code pc = r := X.1.2.1 ▸ h
theorem Wk.hown (X : Wk l Z R bytes mL ret own nm p e s m args below meth c T cells slots) : s.vm.findClass own = some m.cls := X.1.2.2.2.2.2.1
theorem Wk.hZ (X : Wk l Z R bytes mL ret own nm p e s m args below meth c T cells slots) : Z.Warmed39 s.vm := X.1.2.2.2.2.2.2.2
theorem Wk.at (X : Wk l Z R bytes mL ret own nm p e s m args below meth c T cells slots) : At T m c below := by obtain ⟨-, _, X, -⟩ := X; exact X.here
theorem Wk.old (X : Wk l Z R bytes mL ret own nm p e s m args below meth c T cells slots) : Ext Z.heap T.heap := by obtain ⟨-, _, -, -, X⟩ := X; exact X
theorem Wk.le (X : Wk l Z R bytes mL ret own nm p e s m args below meth c T cells slots) : Z.heap.size ≤ T.heap.size := X.old.1
theorem Wk.size (X : Wk l Z R bytes mL ret own nm p e s m args below meth c T cells slots) (h : Ls.size = mL) {pc : Nat} {st : List Value} : (mkF m pc Ls st).locals.size = c.maxLocals := h.trans X.1.2.2.1.symm
theorem Wk.more (X : Wk l Z R bytes mL ret own nm p e s m args below meth c T cells slots) {cells' slots' : Nat} (h1 : cells ≤ cells') (h2 : slots ≤ slots') : Wk l Z R bytes mL ret own nm p e s m args below meth c T cells' slots' := by
  obtain ⟨q, locs, Y, r⟩ := X; exact ⟨q, locs, Y.more h1 h2, r⟩
theorem E_by (f : ∀ target, Steps p.tables e below (T'.setTop g') target → Steps p.tables e below (T.setTop g) target) (k : Ends p e below s Z Q cC cS T' g') : Ends p e below s Z Q cC cS T g := by
  obtain ⟨t, o, h1, r⟩ := k; exact ⟨t, o, f _ h1, r⟩
theorem E_tr (f : Steps p.tables e below (T.setTop g) (T'.setTop g')) (k : Ends p e below s Z Q cC cS T' g') : Ends p e below s Z Q cC cS T g := E_by (fun _ q => f.trans q) k
theorem Keep.of_ext {h h' : Heap} (E : Ext h h') : Keep h h' [] := (Keep.refl h []).ext E
theorem own_keq {h h1 h2 : Heap} {ws : List Addr} (K : Keep h h1 ws) (q : h2 = h1) : Keep h h2 ws := q ▸ K
theorem Keep.old {h h' : Heap} {ws : List Addr} (O : Ext Z.heap h) (K : Keep h h' ws) (q : ∀ x ∈ ws, Z.heap.size ≤ x) : Ext Z.heap h' := ⟨Nat.le_trans O.1 K.1, fun x c r => K.2.1 x c (O.2 x c r) fun z => absurd (Array.getElem?_eq_some_iff.mp r).1 (Nat.not_lt.mpr (q x z))⟩
theorem Ct.of_body {y1 y2 y3 : String} {rm : Room} {as' : Array Value} {h : Heap} (pn : plainFor ⟨y1, y2, y3⟩ = true) (O : Ext Z.heap h) (ef : ∀ m, entryFrame m as' mL = mkF m 0 Ls [])
    (k : ∀ {p : Program} {e : Env} {s : State} {m : MethodId} {below : List Frame} {meth : Method} {c : Code} {T : State}, Wk l Z rm bytes mL ret y1 y2 p e s m as' below meth c T 0 0 → T.heap = h → Ends p e below s Z Q rm.cells rm.slots T (mkF m 0 Ls [])) : Ct l Z ⟨y1, y2, y3⟩ bytes mL ret rm as' h Q := by
  intro ws
  refine MetFree.of_bodySF pn hisR ?_
  intro p e s m args below meth c s₁ Bd hml0 hP hK
  obtain ⟨rfl, hZ, hh⟩ := hP
  have e0 : s₁.heap = h := by rw [← hh, Bd.state]; rfl
  have X : Wk l Z rm bytes mL ret y1 y2 p e s m args below meth c s₁ 0 0 := ⟨⟨Bd.exec, Bd.bytes, hml0, Bd.returns, Bd.notSynchronized, findClass_of_methodNamed Bd.named, (name_of_methodNamed Bd.named Bd.method).1, hZ⟩, [], Stand.of_body Bd, Fr.nil _, e0 ▸ O⟩
  obtain ⟨t, o, h1, r⟩ := k X e0
  exact ⟨t, o, castTop (ef m) h1, r⟩
theorem Ct.back {y : MethodName} {rm : Room} {as' : Array Value} {h : Heap} {mL' : Nat} {bytes' : ByteArray} {ret' : Option FieldType} {Q' : Option Value → Heap → Prop} (hC : Ct l Z y bytes' mL' ret' rm as' h Q') {len W : Nat}
    (hZ : Z.Warmed39 s.vm) (wc : (Jvm.Cond.code y bytes' mL' ret').before a0 Z = true) (wz : (Jvm.Cond.initialized y.cls).before a0 Z = true) (hf : rm.frames + 1 ≤ R.frames) (hl : W + (mL' + 11) + rm.locals ≤ R.locals) :
    Back l R p e below s args y len W (fun A a => a = as' ∧ A.U.heap = h ∧ A.cells + rm.cells ≤ R.cells ∧ A.slots + rm.slots ≤ R.slots)
      (fun A _ v B => ∃ L, (Fr Z.heap.size L ∧ Ext Z.heap B.U.heap ∧ Q' v B.U.heap) ∧ B.locs = A.locs ++ L ∧ B.cells = A.cells + rm.cells ∧ B.slots = A.slots + rm.slots) :=
  backOf (Q := fun v h L => Fr Z.heap.size L ∧ Ext Z.heap h ∧ Q' v h) (hC []) hZ wc wz hf hl

theorem E_aloadN (X : Wk l Z R bytes mL ret own nm p e s m args below meth c T cells slots) {j : Fin 4} {v : Value} (hd : decode bytes pc = .ok (.aload_n j, 1)) (hl : Ls[j.val]? = some (.val v)) (hv : v.isRef = true) {pc' : Nat} (hp : pc + 1 = pc') (k : Ends p e below s Z Q cC cS T (mkF m pc' Ls (v :: st))) : Ends p e below s Z Q cC cS T (mkF m pc Ls (st)) := by
  subst hp; exact E_by (fun _ q => XS.aloadN X.at X.hx rfl (X.hb hd) hl hv q) k
theorem E_aload (X : Wk l Z R bytes mL ret own nm p e s m args below meth c T cells slots) {j : Nat} {v : Value} (hd : decode bytes pc = .ok (.aload j, 2)) (hl : Ls[j]? = some (.val v)) (hv : v.isRef = true) {pc' : Nat} (hp : pc + 2 = pc') (k : Ends p e below s Z Q cC cS T (mkF m pc' Ls (v :: st))) : Ends p e below s Z Q cC cS T (mkF m pc Ls (st)) := by
  subst hp; exact E_by (fun _ q => XS.aload X.at X.hx rfl (X.hb hd) hl hv q) k
theorem E_iloadN (X : Wk l Z R bytes mL ret own nm p e s m args below meth c T cells slots) {j : Fin 4} {v : Int32} (hd : decode bytes pc = .ok (.iload_n j, 1)) (hl : Ls[j.val]? = some (.val (.int v))) {pc' : Nat} (hp : pc + 1 = pc') (k : Ends p e below s Z Q cC cS T (mkF m pc' Ls (.int v :: st))) : Ends p e below s Z Q cC cS T (mkF m pc Ls (st)) := by
  subst hp; exact E_by (fun _ q => XS.iloadN X.at X.hx rfl (X.hb hd) hl q) k
theorem E_iload (X : Wk l Z R bytes mL ret own nm p e s m args below meth c T cells slots) {j : Nat} {v : Int32} (hd : decode bytes pc = .ok (.iload j, 2)) (hl : Ls[j]? = some (.val (.int v))) {pc' : Nat} (hp : pc + 2 = pc') (k : Ends p e below s Z Q cC cS T (mkF m pc' Ls (.int v :: st))) : Ends p e below s Z Q cC cS T (mkF m pc Ls (st)) := by
  subst hp; exact E_by (fun _ q => XS.iload X.at X.hx rfl (X.hb hd) hl q) k
theorem E_aconstNull (X : Wk l Z R bytes mL ret own nm p e s m args below meth c T cells slots) (hd : decode bytes pc = .ok (.aconst_null, 1)) {pc' : Nat} (hp : pc + 1 = pc') (k : Ends p e below s Z Q cC cS T (mkF m pc' Ls (.null :: st))) : Ends p e below s Z Q cC cS T (mkF m pc Ls (st)) := by
  subst hp; exact E_by (fun _ q => XS.aconstNull X.at X.hx rfl (X.hb hd) q) k
theorem E_iconst (X : Wk l Z R bytes mL ret own nm p e s m args below meth c T cells slots) {i : Int} {v : Int32} (hd : decode bytes pc = .ok (.iconst i, 1)) (hv : Int32.ofInt i = v) {pc' : Nat} (hp : pc + 1 = pc') (k : Ends p e below s Z Q cC cS T (mkF m pc' Ls (.int v :: st))) : Ends p e below s Z Q cC cS T (mkF m pc Ls st) := by
  subst hp hv; exact E_by (fun _ q => XS.iconst X.at X.hx rfl (X.hb hd) q) k
theorem E_bipush (X : Wk l Z R bytes mL ret own nm p e s m args below meth c T cells slots) {i : Int} {v : Int32} (hd : decode bytes pc = .ok (.bipush i, 2)) (hv : (Int8.ofInt i).toInt32 = v) {pc' : Nat} (hp : pc + 2 = pc') (k : Ends p e below s Z Q cC cS T (mkF m pc' Ls (.int v :: st))) : Ends p e below s Z Q cC cS T (mkF m pc Ls st) := by
  subst hp hv; exact E_by (fun _ q => XS.bipush X.at X.hx rfl (X.hb hd) q) k
theorem E_sipush (X : Wk l Z R bytes mL ret own nm p e s m args below meth c T cells slots) {i : Int} {v : Int32} (hd : decode bytes pc = .ok (.sipush i, 3)) (hv : (Int16.ofInt i).toInt32 = v) {pc' : Nat} (hp : pc + 3 = pc') (k : Ends p e below s Z Q cC cS T (mkF m pc' Ls (.int v :: st))) : Ends p e below s Z Q cC cS T (mkF m pc Ls st) := by
  subst hp hv; exact E_by (fun _ q => XS.sipush X.at X.hx rfl (X.hb hd) q) k
theorem E_iadd (X : Wk l Z R bytes mL ret own nm p e s m args below meth c T cells slots) {x y v : Int32} (hd : decode bytes pc = .ok (.iadd, 1)) (hv : x + y = v) {pc' : Nat} (hp : pc + 1 = pc') (k : Ends p e below s Z Q cC cS T (mkF m pc' Ls (.int v :: st))) : Ends p e below s Z Q cC cS T (mkF m pc Ls (.int y :: .int x :: st)) := by
  subst hp hv; exact E_by (fun _ q => XS.iadd X.at X.hx rfl (X.hb hd) rfl q) k
theorem E_isub (X : Wk l Z R bytes mL ret own nm p e s m args below meth c T cells slots) {x y v : Int32} (hd : decode bytes pc = .ok (.isub, 1)) (hv : x - y = v) {pc' : Nat} (hp : pc + 1 = pc') (k : Ends p e below s Z Q cC cS T (mkF m pc' Ls (.int v :: st))) : Ends p e below s Z Q cC cS T (mkF m pc Ls (.int y :: .int x :: st)) := by
  subst hp hv; exact E_by (fun _ q => XS.isub X.at X.hx rfl (X.hb hd) rfl q) k
theorem E_imul (X : Wk l Z R bytes mL ret own nm p e s m args below meth c T cells slots) {x y v : Int32} (hd : decode bytes pc = .ok (.imul, 1)) (hv : x * y = v) {pc' : Nat} (hp : pc + 1 = pc') (k : Ends p e below s Z Q cC cS T (mkF m pc' Ls (.int v :: st))) : Ends p e below s Z Q cC cS T (mkF m pc Ls (.int y :: .int x :: st)) := by
  subst hp hv; exact E_by (fun _ q => XS.imul X.at X.hx rfl (X.hb hd) rfl q) k
theorem E_iand (X : Wk l Z R bytes mL ret own nm p e s m args below meth c T cells slots) {x y v : Int32} (hd : decode bytes pc = .ok (.iand, 1)) (hv : x &&& y = v) {pc' : Nat} (hp : pc + 1 = pc') (k : Ends p e below s Z Q cC cS T (mkF m pc' Ls (.int v :: st))) : Ends p e below s Z Q cC cS T (mkF m pc Ls (.int y :: .int x :: st)) := by
  subst hp hv; exact E_by (fun _ q => XS.iand X.at X.hx rfl (X.hb hd) rfl q) k
theorem E_ior (X : Wk l Z R bytes mL ret own nm p e s m args below meth c T cells slots) {x y v : Int32} (hd : decode bytes pc = .ok (.ior, 1)) (hv : x ||| y = v) {pc' : Nat} (hp : pc + 1 = pc') (k : Ends p e below s Z Q cC cS T (mkF m pc' Ls (.int v :: st))) : Ends p e below s Z Q cC cS T (mkF m pc Ls (.int y :: .int x :: st)) := by
  subst hp hv; exact E_by (fun _ q => XS.ior X.at X.hx rfl (X.hb hd) rfl q) k
theorem E_ixor (X : Wk l Z R bytes mL ret own nm p e s m args below meth c T cells slots) {x y v : Int32} (hd : decode bytes pc = .ok (.ixor, 1)) (hv : x ^^^ y = v) {pc' : Nat} (hp : pc + 1 = pc') (k : Ends p e below s Z Q cC cS T (mkF m pc' Ls (.int v :: st))) : Ends p e below s Z Q cC cS T (mkF m pc Ls (.int y :: .int x :: st)) := by
  subst hp hv; exact E_by (fun _ q => XS.ixor X.at X.hx rfl (X.hb hd) rfl q) k
theorem E_ishl (X : Wk l Z R bytes mL ret own nm p e s m args below meth c T cells slots) {x y v : Int32} (hd : decode bytes pc = .ok (.ishl, 1)) (hv : x <<< (y &&& 31) = v) {pc' : Nat} (hp : pc + 1 = pc') (k : Ends p e below s Z Q cC cS T (mkF m pc' Ls (.int v :: st))) : Ends p e below s Z Q cC cS T (mkF m pc Ls (.int y :: .int x :: st)) := by
  subst hp hv; exact E_by (fun _ q => XS.ishl X.at X.hx rfl (X.hb hd) rfl q) k
theorem E_ishr (X : Wk l Z R bytes mL ret own nm p e s m args below meth c T cells slots) {x y v : Int32} (hd : decode bytes pc = .ok (.ishr, 1)) (hv : x >>> (y &&& 31) = v) {pc' : Nat} (hp : pc + 1 = pc') (k : Ends p e below s Z Q cC cS T (mkF m pc' Ls (.int v :: st))) : Ends p e below s Z Q cC cS T (mkF m pc Ls (.int y :: .int x :: st)) := by
  subst hp hv; exact E_by (fun _ q => XS.ishr X.at X.hx rfl (X.hb hd) rfl q) k
theorem E_iushr (X : Wk l Z R bytes mL ret own nm p e s m args below meth c T cells slots) {x y v : Int32} (hd : decode bytes pc = .ok (.iushr, 1)) (hv : (x.toUInt32 >>> (y &&& 31).toUInt32).toInt32 = v) {pc' : Nat} (hp : pc + 1 = pc') (k : Ends p e below s Z Q cC cS T (mkF m pc' Ls (.int v :: st))) : Ends p e below s Z Q cC cS T (mkF m pc Ls (.int y :: .int x :: st)) := by
  subst hp hv; exact E_by (fun _ q => XS.iushr X.at X.hx rfl (X.hb hd) rfl q) k
theorem E_ineg (X : Wk l Z R bytes mL ret own nm p e s m args below meth c T cells slots) {x v : Int32} (hd : decode bytes pc = .ok (.ineg, 1)) (hv : -x = v) {pc' : Nat} (hp : pc + 1 = pc') (k : Ends p e below s Z Q cC cS T (mkF m pc' Ls (.int v :: st))) : Ends p e below s Z Q cC cS T (mkF m pc Ls (.int x :: st)) := by
  subst hp hv; exact E_by (fun _ q => XS.ineg X.at X.hx rfl (X.hb hd) rfl q) k
theorem E_i2c (X : Wk l Z R bytes mL ret own nm p e s m args below meth c T cells slots) {x v : Int32} (hd : decode bytes pc = .ok (.i2c, 1)) (hv : x.toUInt32.toUInt16.toUInt32.toInt32 = v) {pc' : Nat} (hp : pc + 1 = pc') (k : Ends p e below s Z Q cC cS T (mkF m pc' Ls (.int v :: st))) : Ends p e below s Z Q cC cS T (mkF m pc Ls (.int x :: st)) := by
  subst hp hv; exact E_by (fun _ q => XS.i2c X.at X.hx rfl (X.hb hd) rfl q) k
theorem E_i2b (X : Wk l Z R bytes mL ret own nm p e s m args below meth c T cells slots) {x v : Int32} (hd : decode bytes pc = .ok (.i2b, 1)) (hv : x.toInt8.toInt32 = v) {pc' : Nat} (hp : pc + 1 = pc') (k : Ends p e below s Z Q cC cS T (mkF m pc' Ls (.int v :: st))) : Ends p e below s Z Q cC cS T (mkF m pc Ls (.int x :: st)) := by
  subst hp hv; exact E_by (fun _ q => XS.i2b X.at X.hx rfl (X.hb hd) rfl q) k
theorem E_i2s (X : Wk l Z R bytes mL ret own nm p e s m args below meth c T cells slots) {x v : Int32} (hd : decode bytes pc = .ok (.i2s, 1)) (hv : x.toInt16.toInt32 = v) {pc' : Nat} (hp : pc + 1 = pc') (k : Ends p e below s Z Q cC cS T (mkF m pc' Ls (.int v :: st))) : Ends p e below s Z Q cC cS T (mkF m pc Ls (.int x :: st)) := by
  subst hp hv; exact E_by (fun _ q => XS.i2s X.at X.hx rfl (X.hb hd) rfl q) k
theorem E_dup (X : Wk l Z R bytes mL ret own nm p e s m args below meth c T cells slots) {v : Value} (hd : decode bytes pc = .ok (.dup, 1)) (hc : v.category = 1) {pc' : Nat} (hp : pc + 1 = pc') (k : Ends p e below s Z Q cC cS T (mkF m pc' Ls (v :: v :: st))) : Ends p e below s Z Q cC cS T (mkF m pc Ls (v :: st)) := by
  subst hp; exact E_by (fun _ q => XS.dup X.at X.hx rfl (X.hb hd) rfl hc q) k
theorem E_pop (X : Wk l Z R bytes mL ret own nm p e s m args below meth c T cells slots) {v : Value} (hd : decode bytes pc = .ok (.pop, 1)) (hc : v.category = 1) {pc' : Nat} (hp : pc + 1 = pc') (k : Ends p e below s Z Q cC cS T (mkF m pc' Ls (st))) : Ends p e below s Z Q cC cS T (mkF m pc Ls (v :: st)) := by
  subst hp; exact E_by (fun _ q => XS.pop X.at X.hx rfl (X.hb hd) rfl hc q) k
theorem E_istoreN (X : Wk l Z R bytes mL ret own nm p e s m args below meth c T cells slots) {j : Fin 4} {x : Int32} (hd : decode bytes pc = .ok (.istore_n j, 1)) {l' : Array Slot} (hl : storeLocals Ls j.val (.int x) = some l') {pc' : Nat} (hp : pc + 1 = pc') (k : Ends p e below s Z Q cC cS T (mkF m pc' l' (st))) : Ends p e below s Z Q cC cS T (mkF m pc Ls (.int x :: st)) := by
  subst hp; exact E_by (fun _ q => XS.istoreN X.at X.hx rfl (X.hb hd) rfl hl q) k
theorem E_istore (X : Wk l Z R bytes mL ret own nm p e s m args below meth c T cells slots) {j : Nat} {x : Int32} (hd : decode bytes pc = .ok (.istore j, 2)) {l' : Array Slot} (hl : storeLocals Ls j (.int x) = some l') {pc' : Nat} (hp : pc + 2 = pc') (k : Ends p e below s Z Q cC cS T (mkF m pc' l' (st))) : Ends p e below s Z Q cC cS T (mkF m pc Ls (.int x :: st)) := by
  subst hp; exact E_by (fun _ q => XS.istore X.at X.hx rfl (X.hb hd) rfl hl q) k
theorem E_astoreN (X : Wk l Z R bytes mL ret own nm p e s m args below meth c T cells slots) {j : Fin 4} {x : Value} (hd : decode bytes pc = .ok (.astore_n j, 1)) (hv : x.isRef = true) {l' : Array Slot} (hl : storeLocals Ls j.val x = some l') {pc' : Nat} (hp : pc + 1 = pc') (k : Ends p e below s Z Q cC cS T (mkF m pc' l' (st))) : Ends p e below s Z Q cC cS T (mkF m pc Ls (x :: st)) := by
  subst hp; exact E_by (fun _ q => XS.astoreN X.at X.hx rfl (X.hb hd) rfl hv hl q) k
theorem E_astore (X : Wk l Z R bytes mL ret own nm p e s m args below meth c T cells slots) {j : Nat} {x : Value} (hd : decode bytes pc = .ok (.astore j, 2)) (hv : x.isRef = true) {l' : Array Slot} (hl : storeLocals Ls j x = some l') {pc' : Nat} (hp : pc + 2 = pc') (k : Ends p e below s Z Q cC cS T (mkF m pc' l' (st))) : Ends p e below s Z Q cC cS T (mkF m pc Ls (x :: st)) := by
  subst hp; exact E_by (fun _ q => XS.astore X.at X.hx rfl (X.hb hd) rfl hv hl q) k
theorem E_iinc (X : Wk l Z R bytes mL ret own nm p e s m args below meth c T cells slots) {j : Nat} {i : Int} {x y : Int32} (hd : decode bytes pc = .ok (.iinc j i, 3)) (hy : x + Int32.ofInt i = y) (hl : Ls[j]? = some (.val (.int x))) {l' : Array Slot} (hl' : storeLocals Ls j (.int y) = some l') {pc' : Nat} (hp : pc + 3 = pc') (k : Ends p e below s Z Q cC cS T (mkF m pc' l' st)) : Ends p e below s Z Q cC cS T (mkF m pc Ls st) := by
  subst hp hy; exact E_by (fun _ q => XS.iinc X.at X.hx rfl (X.hb hd) hl hl' q) k
theorem E_irem (X : Wk l Z R bytes mL ret own nm p e s m args below meth c T cells slots) {x y v : Int32} (hd : decode bytes pc = .ok (.irem, 1)) (hy : y ≠ 0) (hv : x % y = v) {pc' : Nat} (hp : pc + 1 = pc') (k : Ends p e below s Z Q cC cS T (mkF m pc' Ls (.int v :: st))) : Ends p e below s Z Q cC cS T (mkF m pc Ls (.int y :: .int x :: st)) := by
  subst hp hv; obtain ⟨q, locs, Y, r⟩ := id X; exact E_by (fun _ k => iremM Y X.hx rfl (X.hb hd) rfl hy k) k
theorem E_idiv (X : Wk l Z R bytes mL ret own nm p e s m args below meth c T cells slots) {x y v : Int32} (hd : decode bytes pc = .ok (.idiv, 1)) (hy : y ≠ 0) (hv : x / y = v) {pc' : Nat} (hp : pc + 1 = pc') (k : Ends p e below s Z Q cC cS T (mkF m pc' Ls (.int v :: st))) : Ends p e below s Z Q cC cS T (mkF m pc Ls (.int y :: .int x :: st)) := by
  subst hp hv; exact E_by (fun _ k => XS.idiv X.at X.hx rfl (X.hb hd) rfl hy k) k
theorem E_goto (X : Wk l Z R bytes mL ret own nm p e s m args below meth c T cells slots) {o : Int} (hd : decode bytes pc = .ok (.goto o, 3)) {pc' : Nat} (ho : 0 ≤ (pc : Int) + o) (hp : ((pc : Int) + o).toNat = pc') (k : Ends p e below s Z Q cC cS T (mkF m pc' Ls st)) : Ends p e below s Z Q cC cS T (mkF m pc Ls st) :=
  E_by (fun _ q => XS.goto X.at X.hx rfl (pc0 := pc) rfl (X.hb hd) ho hp q) k
theorem E_ifT (X : Wk l Z R bytes mL ret own nm p e s m args below meth c T cells slots) {cd : ClassFile.Cond} {o : Int} {x : Int32} (hd : decode bytes pc = .ok (.ifCond cd o, 3)) (hc : ifCond.holds cd x = true) {pc' : Nat} (ho : 0 ≤ (pc : Int) + o) (hp : ((pc : Int) + o).toNat = pc') (k : Ends p e below s Z Q cC cS T (mkF m pc' Ls st)) : Ends p e below s Z Q cC cS T (mkF m pc Ls (.int x :: st)) :=
  E_by (fun _ q => XS.ifYes X.at X.hx rfl (pc0 := pc) rfl (X.hb hd) rfl hc ho hp q) k
theorem E_ifF (X : Wk l Z R bytes mL ret own nm p e s m args below meth c T cells slots) {cd : ClassFile.Cond} {o : Int} {x : Int32} (hd : decode bytes pc = .ok (.ifCond cd o, 3)) (hc : ifCond.holds cd x = false) {pc' : Nat} (hp : pc + 3 = pc') (k : Ends p e below s Z Q cC cS T (mkF m pc' Ls st)) : Ends p e below s Z Q cC cS T (mkF m pc Ls (.int x :: st)) := by
  subst hp; exact E_by (fun _ q => XS.ifNo X.at X.hx rfl (X.hb hd) rfl hc q) k
theorem E_icT (X : Wk l Z R bytes mL ret own nm p e s m args below meth c T cells slots) {cd : ClassFile.Cond} {o : Int} {x y : Int32} (hd : decode bytes pc = .ok (.if_icmp cd o, 3)) (hc : if_icmp.holds cd x y = true) {pc' : Nat} (ho : 0 ≤ (pc : Int) + o) (hp : ((pc : Int) + o).toNat = pc') (k : Ends p e below s Z Q cC cS T (mkF m pc' Ls st)) : Ends p e below s Z Q cC cS T (mkF m pc Ls (.int y :: .int x :: st)) :=
  E_by (fun _ q => XS.icmpYes X.at X.hx rfl (pc0 := pc) rfl (X.hb hd) rfl hc ho hp q) k
theorem E_icF (X : Wk l Z R bytes mL ret own nm p e s m args below meth c T cells slots) {cd : ClassFile.Cond} {o : Int} {x y : Int32} (hd : decode bytes pc = .ok (.if_icmp cd o, 3)) (hc : if_icmp.holds cd x y = false) {pc' : Nat} (hp : pc + 3 = pc') (k : Ends p e below s Z Q cC cS T (mkF m pc' Ls st)) : Ends p e below s Z Q cC cS T (mkF m pc Ls (.int y :: .int x :: st)) := by
  subst hp; exact E_by (fun _ q => XS.icmpNo X.at X.hx rfl (X.hb hd) rfl hc q) k
theorem E_nullT (X : Wk l Z R bytes mL ret own nm p e s m args below meth c T cells slots) {o : Int} (hd : decode bytes pc = .ok (.ifnull o, 3)) {pc' : Nat} (ho : 0 ≤ (pc : Int) + o) (hp : ((pc : Int) + o).toNat = pc') (k : Ends p e below s Z Q cC cS T (mkF m pc' Ls st)) : Ends p e below s Z Q cC cS T (mkF m pc Ls (.null :: st)) :=
  E_by (fun _ q => XS.ifnullYes X.at X.hx rfl (pc0 := pc) rfl (X.hb hd) rfl ho hp q) k
theorem E_nullF (X : Wk l Z R bytes mL ret own nm p e s m args below meth c T cells slots) {o : Int} {b : Addr} (hd : decode bytes pc = .ok (.ifnull o, 3)) {pc' : Nat} (hp : pc + 3 = pc') (k : Ends p e below s Z Q cC cS T (mkF m pc' Ls st)) : Ends p e below s Z Q cC cS T (mkF m pc Ls (.ref b :: st)) := by
  subst hp; exact E_by (fun _ q => XS.ifnullNo X.at X.hx rfl (X.hb hd) rfl q) k
theorem E_nonnullT (X : Wk l Z R bytes mL ret own nm p e s m args below meth c T cells slots) {o : Int} {b : Addr} (hd : decode bytes pc = .ok (.ifnonnull o, 3)) {pc' : Nat} (ho : 0 ≤ (pc : Int) + o) (hp : ((pc : Int) + o).toNat = pc') (k : Ends p e below s Z Q cC cS T (mkF m pc' Ls st)) : Ends p e below s Z Q cC cS T (mkF m pc Ls (.ref b :: st)) :=
  E_by (fun _ q => XT.nonnullYes X.at X.hx rfl (pc0 := pc) rfl (X.hb hd) rfl rfl (fun q => nomatch q) ho hp q) k
theorem E_nonnullF (X : Wk l Z R bytes mL ret own nm p e s m args below meth c T cells slots) {o : Int} (hd : decode bytes pc = .ok (.ifnonnull o, 3)) {pc' : Nat} (hp : pc + 3 = pc') (k : Ends p e below s Z Q cC cS T (mkF m pc' Ls st)) : Ends p e below s Z Q cC cS T (mkF m pc Ls (.null :: st)) := by
  subst hp; exact E_by (fun _ q => XT.nonnullNo X.at X.hx rfl (X.hb hd) rfl rfl q) k
theorem E_acmp (X : Wk l Z R bytes mL ret own nm p e s m args below meth c T cells slots) {cd : ACond} {o : Int} {x y : Value} (hd : decode bytes pc = .ok (.if_acmp cd o, 3)) (h1 : x.isRef = true) (h2 : y.isRef = true) (same : Bool) (hq : decide (x = y) = same) {pc' : Nat} (ho : 0 ≤ (pc : Int) + o) (hp : pc' = if acV cd same = true then ((pc : Int) + o).toNat else pc + 3) (k : Ends p e below s Z Q cC cS T (mkF m pc' Ls st)) : Ends p e below s Z Q cC cS T (mkF m pc Ls (y :: x :: st)) := by
  obtain ⟨_, locs, Y, r⟩ := id X; exact E_by (fun _ q => acmp Y X.hx rfl h1 h2 (pc0 := pc) rfl (X.hb hd) rfl hq ho hp q) k
theorem E_ldcI (X : Wk l Z R bytes mL ret own nm p e s m args below meth c T cells slots) {ix : Nat} {v : Int32} (hd : decode bytes pc = .ok (.ldc ix, 2)) (w : (Jvm.Cond.constant own ix v).before a0 Z = true) {pc' : Nat} (hp : pc + 2 = pc') (k : Ends p e below s Z Q cC cS T (mkF m pc' Ls (.int v :: st))) : Ends p e below s Z Q cC cS T (mkF m pc Ls st) := by
  subst hp; obtain ⟨_, locs, Y, r⟩ := id X; exact E_by (fun _ q => Y.ldcI X.hx X.hown (mvT X.hZ w) rfl (X.hb hd) q) k
theorem E_new (X : Wk l Z R bytes mL ret own nm p e s m args below meth c T cells slots) {C : String} {ix n : Nat} (hd : decode bytes pc = .ok (.new ix, 3)) (w1 : (Jvm.Cond.classLink own ix C).before a0 Z = true) (w2 : (Jvm.Cond.instantiable C n).before a0 Z = true) (w3 : (Jvm.Cond.initialized C).before a0 Z = true) (hc : cells + 1 ≤ R.cells) (hs : slots + n ≤ R.slots) {pc' : Nat} (hp : pc + 3 = pc')
    (k : ∀ (T' : State) (b : Addr), Wk l Z R bytes mL ret own nm p e s m args below meth c T' (cells + 1) (slots + n) → b = T.heap.size → Keep T.heap T'.heap [] → Exa Z T'.heap b C → (∀ {O nm d : String} {ty : FieldType}, Laid Z a0 C O nm d → parseFieldDescriptor d = some ty → Fld Z T'.heap b O nm d (defaultValue ty)) → Ends p e below s Z Q cC cS T' (mkF m pc' Ls (.ref b :: st))) : Ends p e below s Z Q cC cS T (mkF m pc Ls st) := by
  subst hp; obtain ⟨q0, locs, Y, N, O⟩ := id X
  obtain ⟨T', h', Y', rfl, E, A, D, -, stp⟩ := newO Y X.hx X.hZ X.hown w1 w2 w3 rfl (g := mkF m pc Ls st) rfl (X.hb hd) hc hs
  exact E_by stp (k T' _ ⟨q0, locs, Y', N, Keep.old O (Keep.of_ext E) all0⟩ rfl (Keep.of_ext E) A D)
theorem E_newarray (X : Wk l Z R bytes mL ret own nm p e s m args below meth c T cells slots) {aty : ArrayType} {n : Int32} (cap : Nat) (hd : decode bytes pc = .ok (.newarray aty, 2)) (w : (Jvm.Cond.arrayClass (newarray.typeOf aty)).before a0 Z = true) (hn : ¬ n < 0) (hcap : n.toNatClampNeg ≤ cap) (hb : cap * 8 ≤ 536870912) (hc : cells + 1 ≤ R.cells) (hs : slots + cap ≤ R.slots) {pc' : Nat} (hp : pc + 2 = pc')
    (k : ∀ (T' : State) (b : Addr) (kA : ClassId), Wk l Z R bytes mL ret own nm p e s m args below meth c T' (cells + 1) (slots + cap) → b = T.heap.size → Keep T.heap T'.heap [] → Arv Z T'.heap b kA (newarray.typeOf aty) n [] (defaultValue (newarray.typeOf aty)) → Ends p e below s Z Q cC cS T' (mkF m pc' Ls (.ref b :: st))) : Ends p e below s Z Q cC cS T (mkF m pc Ls (.int n :: st)) := by
  subst hp; obtain ⟨q0, locs, Y, N, O⟩ := id X
  obtain ⟨T', h', kA, Y', rfl, E, A, stp⟩ := newP Y X.hx X.hZ w rfl (g := mkF m pc Ls (.int n :: st)) rfl (X.hb hd) rfl hn hcap hb hc hs
  exact E_by stp (k T' _ kA ⟨q0, locs, Y', N, Keep.old O (Keep.of_ext E) all0⟩ rfl (Keep.of_ext E) (Arv.new A hn))
theorem E_iastore (X : Wk l Z R bytes mL ret own nm p e s m args below meth c T cells slots) {a : Addr} {kA : ClassId} {z j x : Int32} {vs : List Value} {dv : Value} {y : Int32} (i : Nat) (hd : decode bytes pc = .ok (.iastore, 1)) (hy : x = y) (V : Arv Z T.heap a kA .int z vs dv) (hj : ¬ j < 0 ∧ j < z) (hi : j.toNatClampNeg = i) (hl : i < vs.length) (ha : Z.heap.size ≤ a) {pc' : Nat} (hp : pc + 1 = pc')
    (k : ∀ (T' : State), Wk l Z R bytes mL ret own nm p e s m args below meth c T' cells slots → Keep T.heap T'.heap [a] → Arv Z T'.heap a kA .int z (vs.set i (.int y)) dv → Ends p e below s Z Q cC cS T' (mkF m pc' Ls st)) : Ends p e below s Z Q cC cS T (mkF m pc Ls (.int x :: .int j :: .ref a :: st)) := by
  subst hp hy; obtain ⟨q0, locs, Y, N, O⟩ := id X
  obtain ⟨cl, A, q1, S1, N1, H1, G1⟩ := V
  obtain ⟨T', h', Y', rfl, W, stp⟩ := stI Y X.hx X.hZ rfl A (j := j) (x := x) (inb_of S1 hj) (g := mkF m pc Ls (.int x :: .int j :: .ref a :: st)) rfl rfl (X.hb hd)
  exact E_by stp (k T' ⟨q0, _, Y', Fr.snoc Y' N ha, Keep.old O (Keep.of_wr W) (allS ha all0)⟩ (Keep.of_wr W) (Arv.set A q1 S1 N1 H1 G1 (rfl) W i hi hl))
theorem E_castore (X : Wk l Z R bytes mL ret own nm p e s m args below meth c T cells slots) {a : Addr} {kA : ClassId} {z j x : Int32} {vs : List Value} {dv : Value} {y : Int32} (i : Nat) (hd : decode bytes pc = .ok (.castore, 1)) (hy : nar .char x = y) (V : Arv Z T.heap a kA .char z vs dv) (hj : ¬ j < 0 ∧ j < z) (hi : j.toNatClampNeg = i) (hl : i < vs.length) (ha : Z.heap.size ≤ a) {pc' : Nat} (hp : pc + 1 = pc')
    (k : ∀ (T' : State), Wk l Z R bytes mL ret own nm p e s m args below meth c T' cells slots → Keep T.heap T'.heap [a] → Arv Z T'.heap a kA .char z (vs.set i (.int y)) dv → Ends p e below s Z Q cC cS T' (mkF m pc' Ls st)) : Ends p e below s Z Q cC cS T (mkF m pc Ls (.int x :: .int j :: .ref a :: st)) := by
  subst hp hy; obtain ⟨q0, locs, Y, N, O⟩ := id X
  obtain ⟨cl, A, q1, S1, N1, H1, G1⟩ := V
  obtain ⟨T', h', Y', rfl, W, stp⟩ := stC Y X.hx X.hZ rfl A (j := j) (x := x) (inb_of S1 hj) (g := mkF m pc Ls (.int x :: .int j :: .ref a :: st)) rfl rfl (X.hb hd)
  exact E_by stp (k T' ⟨q0, _, Y', Fr.snoc Y' N ha, Keep.old O (Keep.of_wr W) (allS ha all0)⟩ (Keep.of_wr W) (Arv.set A q1 S1 N1 H1 G1 (fits_nar_char _) W i hi hl))
theorem E_bastore (X : Wk l Z R bytes mL ret own nm p e s m args below meth c T cells slots) {a : Addr} {kA : ClassId} {z j x : Int32} {vs : List Value} {dv : Value} {y : Int32} (i : Nat) (hd : decode bytes pc = .ok (.bastore, 1)) (hy : x.toInt8.toInt32 = y) (V : Arv Z T.heap a kA .byte z vs dv) (hj : ¬ j < 0 ∧ j < z) (hi : j.toNatClampNeg = i) (hl : i < vs.length) (ha : Z.heap.size ≤ a) {pc' : Nat} (hp : pc + 1 = pc')
    (k : ∀ (T' : State), Wk l Z R bytes mL ret own nm p e s m args below meth c T' cells slots → Keep T.heap T'.heap [a] → Arv Z T'.heap a kA .byte z (vs.set i (.int y)) dv → Ends p e below s Z Q cC cS T' (mkF m pc' Ls st)) : Ends p e below s Z Q cC cS T (mkF m pc Ls (.int x :: .int j :: .ref a :: st)) := by
  subst hp hy; obtain ⟨q0, locs, Y, N, O⟩ := id X
  obtain ⟨cl, A, q1, S1, N1, H1, G1⟩ := V
  obtain ⟨T', h', Y', rfl, W, stp⟩ := stB Y X.hx X.hZ rfl A (j := j) (x := x) (inb_of S1 hj) (g := mkF m pc Ls (.int x :: .int j :: .ref a :: st)) rfl rfl (X.hb hd)
  exact E_by stp (k T' ⟨q0, _, Y', Fr.snoc Y' N ha, Keep.old O (Keep.of_wr W) (allS ha all0)⟩ (Keep.of_wr W) (Arv.set A q1 S1 N1 H1 G1 (fits_nar_byte _) W i hi hl))
theorem E_iastoreA (X : Wk l Z R bytes mL ret own nm p e s m args below meth c T cells slots) {a : Addr} {kA : ClassId} {z j x : Int32} {vs : List Value} {dv : Value} {y : Int32} (hd : decode bytes pc = .ok (.iastore, 1)) (hy : x = y) (V : Arv Z T.heap a kA .int z vs dv) (hj : ¬ j < 0 ∧ j < z) (hi : j.toNatClampNeg = vs.length) (ha : Z.heap.size ≤ a) {pc' : Nat} (hp : pc + 1 = pc')
    (k : ∀ (T' : State), Wk l Z R bytes mL ret own nm p e s m args below meth c T' cells slots → Keep T.heap T'.heap [a] → Arv Z T'.heap a kA .int z (vs ++ [.int y]) dv → Ends p e below s Z Q cC cS T' (mkF m pc' Ls st)) : Ends p e below s Z Q cC cS T (mkF m pc Ls (.int x :: .int j :: .ref a :: st)) := by
  refine E_iastore X vs.length hd hy (V.pad (pad_rep vs dv 1)) hj hi (by simp) ha hp fun T' X' K' V' => k T' X' K' ?_
  have q : (vs ++ List.replicate 1 dv).set vs.length (.int y) = vs ++ [.int y] := by simp
  rw [q] at V'; exact V'
theorem E_castoreA (X : Wk l Z R bytes mL ret own nm p e s m args below meth c T cells slots) {a : Addr} {kA : ClassId} {z j x : Int32} {vs : List Value} {dv : Value} {y : Int32} (hd : decode bytes pc = .ok (.castore, 1)) (hy : nar .char x = y) (V : Arv Z T.heap a kA .char z vs dv) (hj : ¬ j < 0 ∧ j < z) (hi : j.toNatClampNeg = vs.length) (ha : Z.heap.size ≤ a) {pc' : Nat} (hp : pc + 1 = pc')
    (k : ∀ (T' : State), Wk l Z R bytes mL ret own nm p e s m args below meth c T' cells slots → Keep T.heap T'.heap [a] → Arv Z T'.heap a kA .char z (vs ++ [.int y]) dv → Ends p e below s Z Q cC cS T' (mkF m pc' Ls st)) : Ends p e below s Z Q cC cS T (mkF m pc Ls (.int x :: .int j :: .ref a :: st)) := by
  refine E_castore X vs.length hd hy (V.pad (pad_rep vs dv 1)) hj hi (by simp) ha hp fun T' X' K' V' => k T' X' K' ?_
  have q : (vs ++ List.replicate 1 dv).set vs.length (.int y) = vs ++ [.int y] := by simp
  rw [q] at V'; exact V'
theorem E_bastoreA (X : Wk l Z R bytes mL ret own nm p e s m args below meth c T cells slots) {a : Addr} {kA : ClassId} {z j x : Int32} {vs : List Value} {dv : Value} {y : Int32} (hd : decode bytes pc = .ok (.bastore, 1)) (hy : x.toInt8.toInt32 = y) (V : Arv Z T.heap a kA .byte z vs dv) (hj : ¬ j < 0 ∧ j < z) (hi : j.toNatClampNeg = vs.length) (ha : Z.heap.size ≤ a) {pc' : Nat} (hp : pc + 1 = pc')
    (k : ∀ (T' : State), Wk l Z R bytes mL ret own nm p e s m args below meth c T' cells slots → Keep T.heap T'.heap [a] → Arv Z T'.heap a kA .byte z (vs ++ [.int y]) dv → Ends p e below s Z Q cC cS T' (mkF m pc' Ls st)) : Ends p e below s Z Q cC cS T (mkF m pc Ls (.int x :: .int j :: .ref a :: st)) := by
  refine E_bastore X vs.length hd hy (V.pad (pad_rep vs dv 1)) hj hi (by simp) ha hp fun T' X' K' V' => k T' X' K' ?_
  have q : (vs ++ List.replicate 1 dv).set vs.length (.int y) = vs ++ [.int y] := by simp
  rw [q] at V'; exact V'
theorem E_iaload (X : Wk l Z R bytes mL ret own nm p e s m args below meth c T cells slots) {a : Addr} {kA : ClassId} {z j : Int32} {vs : List Value} {dv v : Value} (hd : decode bytes pc = .ok (.iaload, 1)) (V : Arv Z T.heap a kA .int z vs dv) (hj : ¬ j < 0 ∧ j < z) (hv : vs.getD j.toNatClampNeg dv = v) {pc' : Nat} (hp : pc + 1 = pc')
    (k : Ends p e below s Z Q cC cS T (mkF m pc' Ls (v :: st))) : Ends p e below s Z Q cC cS T (mkF m pc Ls (.int j :: .ref a :: st)) := by
  subst hp; obtain ⟨q0, locs, Y, N, O⟩ := id X
  obtain ⟨cl, A, q1, S1, N1, H1, G1⟩ := V
  exact E_by (Y.iaload X.hx A.1 (State.isArrayOf_alike X.hZ.alike A.2.1) A.2.2 (inb_of S1 hj) (Has.at H1 (inb_of S1 hj) hv) (g := mkF m pc Ls (.int j :: .ref a :: st)) rfl rfl (X.hb hd)) k
theorem E_caload (X : Wk l Z R bytes mL ret own nm p e s m args below meth c T cells slots) {a : Addr} {kA : ClassId} {z j : Int32} {vs : List Value} {dv v : Value} (hd : decode bytes pc = .ok (.caload, 1)) (V : Arv Z T.heap a kA .char z vs dv) (hj : ¬ j < 0 ∧ j < z) (hv : vs.getD j.toNatClampNeg dv = v) {pc' : Nat} (hp : pc + 1 = pc')
    (k : Ends p e below s Z Q cC cS T (mkF m pc' Ls (v :: st))) : Ends p e below s Z Q cC cS T (mkF m pc Ls (.int j :: .ref a :: st)) := by
  subst hp; obtain ⟨q0, locs, Y, N, O⟩ := id X
  obtain ⟨cl, A, q1, S1, N1, H1, G1⟩ := V
  exact E_by (Y.caload X.hx A.1 (State.isArrayOf_alike X.hZ.alike A.2.1) A.2.2 (inb_of S1 hj) (Has.at H1 (inb_of S1 hj) hv) (g := mkF m pc Ls (.int j :: .ref a :: st)) rfl rfl (X.hb hd)) k
theorem E_baload (X : Wk l Z R bytes mL ret own nm p e s m args below meth c T cells slots) {a : Addr} {kA : ClassId} {z j : Int32} {vs : List Value} {dv v : Value} (hd : decode bytes pc = .ok (.baload, 1)) (V : Arv Z T.heap a kA .byte z vs dv) (hj : ¬ j < 0 ∧ j < z) (hv : vs.getD j.toNatClampNeg dv = v) {pc' : Nat} (hp : pc + 1 = pc')
    (k : Ends p e below s Z Q cC cS T (mkF m pc' Ls (v :: st))) : Ends p e below s Z Q cC cS T (mkF m pc Ls (.int j :: .ref a :: st)) := by
  subst hp; obtain ⟨q0, locs, Y, N, O⟩ := id X
  obtain ⟨cl, A, q1, S1, N1, H1, G1⟩ := V
  exact E_by (Y.baloadBytes X.hx A.1 (State.isArrayOf_alike X.hZ.alike A.2.1) A.2.2 (inb_of S1 hj) (Has.at H1 (inb_of S1 hj) hv) (g := mkF m pc Ls (.int j :: .ref a :: st)) rfl rfl (X.hb hd)) k
theorem E_aaload (X : Wk l Z R bytes mL ret own nm p e s m args below meth c T cells slots) {a : Addr} {kA : ClassId} {z j : Int32} {vs : List Value} {dv v : Value} {ty : FieldType} (hd : decode bytes pc = .ok (.aaload, 1)) (V : Arv Z T.heap a kA ty z vs dv) (hty : ty.isReference = true) (hj : ¬ j < 0 ∧ j < z) (hv : vs.getD j.toNatClampNeg dv = v) {pc' : Nat} (hp : pc + 1 = pc')
    (k : Ends p e below s Z Q cC cS T (mkF m pc' Ls (v :: st))) : Ends p e below s Z Q cC cS T (mkF m pc Ls (.int j :: .ref a :: st)) := by
  subst hp; obtain ⟨q0, locs, Y, N, O⟩ := id X
  obtain ⟨cl, A, q1, S1, N1, H1, G1⟩ := V
  exact E_by (Y.aaload X.hx A.1 (State.isArrayOf_alike X.hZ.alike A.2.1) hty A.2.2 (inb_of S1 hj) (Has.at H1 (inb_of S1 hj) hv) (g := mkF m pc Ls (.int j :: .ref a :: st)) rfl rfl (X.hb hd)) k
theorem E_arraylength (X : Wk l Z R bytes mL ret own nm p e s m args below meth c T cells slots) {a : Addr} {kA : ClassId} {z : Int32} {vs : List Value} {dv : Value} {ty : FieldType} (hd : decode bytes pc = .ok (.arraylength, 1)) (V : Arv Z T.heap a kA ty z vs dv) {pc' : Nat} (hp : pc + 1 = pc')
    (k : Ends p e below s Z Q cC cS T (mkF m pc' Ls (.int z :: st))) : Ends p e below s Z Q cC cS T (mkF m pc Ls (.ref a :: st)) := by
  subst hp; obtain ⟨q0, locs, Y, N, O⟩ := id X
  obtain ⟨cl, A, q1, S1, N1, H1, G1⟩ := V
  refine E_by (Y.arraylength X.hx A.1 (State.isArrayOf_alike X.hZ.alike A.2.1) (g := mkF m pc Ls (.ref a :: st)) rfl rfl (X.hb hd)) ?_
  rw [len_of S1 N1]; exact k
theorem E_getfield (X : Wk l Z R bytes mL ret own nm p e s m args below meth c T cells slots) {a : Addr} {O n d R0 : String} {ix : Nat} {v : Value} (hd : decode bytes pc = .ok (.getfield ix, 3)) (w : (Jvm.Cond.fieldLink own ix R0 n d).before a0 Z = true) (via : Via Z R0 O n d) (F : Fld Z T.heap a O n d v) {pc' : Nat} (hp : pc + 3 = pc')
    (k : ∀ (T' : State), Wk l Z R bytes mL ret own nm p e s m args below meth c T' cells slots → T'.heap = T.heap → Ends p e below s Z Q cC cS T' (mkF m pc' Ls (v :: st))) : Ends p e below s Z Q cC cS T (mkF m pc Ls (.ref a :: st)) := by
  subst hp; obtain ⟨q0, locs, Y, N, Od⟩ := id X
  obtain ⟨T', Y', e1, stp⟩ := getF Y X.hx X.hZ X.hown (host := "") (Or.inl w) via rfl F (g := mkF m pc Ls (.ref a :: st)) rfl rfl (X.hb hd)
  exact E_by stp (k T' ⟨q0, locs, Y', N, e1 ▸ Od⟩ e1)
theorem E_getstatic (X : Wk l Z R bytes mL ret own nm p e s m args below meth c T cells slots) {O n d R0 : String} {ix : Nat} {v : Value} (hd : decode bytes pc = .ok (.getstatic ix, 3)) (w : (Jvm.Cond.fieldLink own ix R0 n d).before a0 Z = true) (via : Via Z R0 O n d) (F : Sta Z Z.heap O n d v) {pc' : Nat} (hp : pc + 3 = pc')
    (k : ∀ (T' : State), Wk l Z R bytes mL ret own nm p e s m args below meth c T' cells slots → T'.heap = T.heap → Ends p e below s Z Q cC cS T' (mkF m pc' Ls (v :: st))) : Ends p e below s Z Q cC cS T (mkF m pc Ls st) := by
  subst hp; obtain ⟨q0, locs, Y, N, Od⟩ := id X
  obtain ⟨T', Y', e1, stp⟩ := getS Y X.hx X.hZ (host := "") X.hown w via rfl (F.ext Od) (g := mkF m pc Ls st) rfl (X.hb hd)
  exact E_by stp (k T' ⟨q0, locs, Y', N, e1 ▸ Od⟩ e1)
theorem E_putfield (X : Wk l Z R bytes mL ret own nm p e s m args below meth c T cells slots) {a : Addr} {O n d R0 C : String} {ix kk : Nat} {v old : Value} {ty : FieldType} (hd : decode bytes pc = .ok (.putfield ix, 3)) (w : (Jvm.Cond.fieldLink own ix R0 n d).before a0 Z = true) (via : Via Z R0 O n d) (F : Fld Z T.heap a O n d old) (E : Exa Z T.heap a C) (L : (Jvm.Cond.lays C O n d).before a0 Z = true ∨ ((Jvm.Cond.laysFinal C O n d).before a0 Z = true ∧ own = O ∧ nm = "<init>")) (wi : (Jvm.Cond.instantiable C kk).before a0 Z = true) (hty : parseFieldDescriptor d = some ty) (hn : narrow ty v = v) (hf : fits ty v = true) (ha : Z.heap.size ≤ a) {pc' : Nat} (hp : pc + 3 = pc')
    (k : ∀ (T' : State), Wk l Z R bytes mL ret own nm p e s m args below meth c T' cells slots → Wr T.heap T'.heap a (Jvm.RoadKit.slotOf Z O n d) v → Ends p e below s Z Q cC cS T' (mkF m pc' Ls st)) : Ends p e below s Z Q cC cS T (mkF m pc Ls (v :: .ref a :: st)) := by
  subst hp; obtain ⟨q0, locs, Y, N, Od⟩ := id X
  obtain ⟨T', h', Y', rfl, W, stp⟩ := putF Y X.hx X.hZ X.hown (host := "") (Or.inl w) via rfl F E (L.imp id fun q => ⟨q.1, q.2.1, q0.2.2.2.2.2.2.1.trans q.2.2⟩) wi hty hn hf (g := mkF m pc Ls (v :: .ref a :: st)) rfl rfl (X.hb hd)
  exact E_by stp (k T' ⟨q0, _, Y', Fr.snoc Y' N ha, Keep.old Od (Keep.of_wr W) (allS ha all0)⟩ W)
theorem E_initO (X : Wk l Z R bytes mL ret own nm p e s m args below meth c T cells slots) {a : Addr} {ix : Nat} (hd : decode bytes pc = .ok (.invokespecial ix, 3)) (w1 : (Jvm.Cond.methodLink own ix Lib.objectInit).before a0 Z = true) (w2 : (Jvm.Cond.instanceMethod Lib.objectInit).before a0 Z = true) (w3 : (Jvm.Cond.code Lib.objectInit ⟨#[0xb1]⟩ 1 none).before a0 Z = true) (hsz : Ls.size = mL) (hf : 1 ≤ R.frames) (hl : (st.map fun v => v.category).sum + 12 ≤ R.locals) {pc' : Nat} (hp : pc + 3 = pc')
    (k : ∀ (T' : State), Wk l Z R bytes mL ret own nm p e s m args below meth c T' cells slots → T'.heap = T.heap → Ends p e below s Z Q cC cS T' (mkF m pc' Ls st)) : Ends p e below s Z Q cC cS T (mkF m pc Ls (.ref a :: st)) := by
  subst hp; obtain ⟨q0, locs, Y, N, Od⟩ := id X
  obtain ⟨T', Y', e1, stp⟩ := initO Y X.hx X.hZ X.hown w1 w2 w3 rfl (g := mkF m pc Ls (.ref a :: st)) rfl (X.size hsz) rfl (X.hb hd) hf (W := (st.map fun v => v.category).sum) (by show 2 * 0 + _ ≤ _; omega) hl
  exact E_by stp (k T' ⟨q0, locs, Y', N, e1 ▸ Od⟩ e1)
theorem E_checkcast (X : Wk l Z R bytes mL ret own nm p e s m args below meth c T cells slots) {a : Addr} {K : String} {ix : Nat} (hd : decode bytes pc = .ok (.checkcast ix, 3)) (w : (Jvm.Cond.classLink own ix K).before a0 Z = true) (F : Ins Z T.heap a K true) {pc' : Nat} (hp : pc + 3 = pc')
    (k : ∀ (T' : State), Wk l Z R bytes mL ret own nm p e s m args below meth c T' cells slots → T'.heap = T.heap → Ends p e below s Z Q cC cS T' (mkF m pc' Ls (.ref a :: st))) : Ends p e below s Z Q cC cS T (mkF m pc Ls (.ref a :: st)) := by
  subst hp; obtain ⟨q0, locs, Y, N, Od⟩ := id X
  obtain ⟨T', Y', e1, stp⟩ := castY Y X.hx X.hZ X.hown w rfl F (g := mkF m pc Ls (.ref a :: st)) rfl rfl (X.hb hd)
  exact E_by stp (k T' ⟨q0, locs, Y', N, e1 ▸ Od⟩ e1)
theorem E_instY (X : Wk l Z R bytes mL ret own nm p e s m args below meth c T cells slots) {a : Addr} {K : String} {ix : Nat} (hd : decode bytes pc = .ok (.instanceof ix, 3)) (w : (Jvm.Cond.classLink own ix K).before a0 Z = true) (F : Ins Z T.heap a K true) {pc' : Nat} (hp : pc + 3 = pc')
    (k : ∀ (T' : State), Wk l Z R bytes mL ret own nm p e s m args below meth c T' cells slots → T'.heap = T.heap → Ends p e below s Z Q cC cS T' (mkF m pc' Ls (.int 1 :: st))) : Ends p e below s Z Q cC cS T (mkF m pc Ls (.ref a :: st)) := by
  subst hp; obtain ⟨q0, locs, Y, N, Od⟩ := id X
  obtain ⟨T', Y', e1, stp⟩ := instY Y X.hx X.hZ X.hown w rfl F (g := mkF m pc Ls (.ref a :: st)) rfl rfl (X.hb hd)
  exact E_by stp (k T' ⟨q0, locs, Y', N, e1 ▸ Od⟩ e1)
theorem E_staticB (X : Wk l Z R bytes mL ret own nm p e s m args below meth c T cells slots) {y : MethodName} {ix : Nat} {bytes' : ByteArray} {mL' : Nat} {ret' : Option FieldType} {Q' : Option Value → Heap → Prop} {argsL : List Value} {Q2 : Option Value → Heap → List Loc → Prop} {rC rS : Nat} (hd : decode bytes pc = .ok (.invokestatic ix, 3)) (w1 : (Jvm.Cond.methodLink own ix y).before a0 Z = true) (w2 : (Jvm.Cond.static y).before a0 Z = true) (w3 : (Jvm.Cond.initialized y.cls).before a0 Z = true) (w4 : (Jvm.Cond.code y bytes' mL' ret').before a0 Z = true) (hy : y.cls ≠ "java/lang/invoke/MethodHandle" ∧ y.cls ≠ "java/lang/invoke/VarHandle") {st0 : List Value} (hst : st0 = argsL.reverse ++ st) (hK : Back l R p e below s args y 3 ((st.map fun v => v.category).sum) (fun A aa => aa = argsL.toArray ∧ A.U.heap = T.heap ∧ A.cells + rC ≤ R.cells ∧ A.slots + rS ≤ R.slots) (fun A _ v B => ∃ L, Q2 v B.U.heap L ∧ B.locs = A.locs ++ L ∧ B.cells = A.cells + rC ∧ B.slots = A.slots + rS)) (hQ2 : ∀ v h L, Q2 v h L → Fr Z.heap.size L ∧ Ext Z.heap h ∧ Q' v h) (hlen : ∀ sig, parseMethodDescriptor y.desc = some sig → argsL.length = sig.parameters.length) (hsz : Ls.size = mL) (hcl : cells + rC ≤ R.cells) (hsl : slots + rS ≤ R.slots) {pc' : Nat} (hp : pc + 3 = pc')
    (k : ∀ (T' : State) (v : Option Value), Wk l Z R bytes mL ret own nm p e s m args below meth c T' (cells + rC) (slots + rS) → Q' v T'.heap → Ends p e below s Z Q cC cS T' (mkF m pc' Ls (v.toList ++ st))) : Ends p e below s Z Q cC cS T (mkF m pc Ls st0) := by
  subst hp hst; obtain ⟨q0, locs, Y, N, Od⟩ := id X
  obtain ⟨v, _, ⟨T', L1, k1, n1⟩, -, Y', ⟨Lc, hQ, l1, y1, z1⟩, stp⟩ := Jvm.LawKit.callS Y X.hx (y := y) X.hown (mvT X.hZ w1) (mvT X.hZ w2) (mvT X.hZ w3) (mvT X.hZ w4) hy hK (g := mkF m pc Ls (argsL.reverse ++ st)) rfl (X.size hsz) (argsL := argsL) (rest := st) hlen rfl (by show 2 * 0 + _ ≤ _; omega) (X.hb hd) (fun _ _ => ⟨rfl, rfl, hcl, hsl⟩)
  dsimp only [Pt.U, Pt.locs, Pt.cells, Pt.slots] at Y' l1 y1 z1 stp hQ
  subst l1 y1 z1
  obtain ⟨f1, f2, f3⟩ := hQ2 _ _ _ hQ
  exact E_by stp (k T' v ⟨q0, _, Y', Fr.app N f1, f2⟩ f3)
theorem E_static (X : Wk l Z R bytes mL ret own nm p e s m args below meth c T cells slots) {y : MethodName} {ix : Nat} {bytes' : ByteArray} {mL' : Nat} {ret' : Option FieldType} {Q' : Option Value → Heap → Prop} {argsL : List Value} {rm : Room} (hd : decode bytes pc = .ok (.invokestatic ix, 3)) (w1 : (Jvm.Cond.methodLink own ix y).before a0 Z = true) (w2 : (Jvm.Cond.static y).before a0 Z = true) (w3 : (Jvm.Cond.initialized y.cls).before a0 Z = true) (w4 : (Jvm.Cond.code y bytes' mL' ret').before a0 Z = true) (hy : y.cls ≠ "java/lang/invoke/MethodHandle" ∧ y.cls ≠ "java/lang/invoke/VarHandle")  {st0 : List Value} (hst : st0 = argsL.reverse ++ st) (hC : Ct l Z y bytes' mL' ret' rm argsL.toArray T.heap Q') (hlen : ∀ sig, parseMethodDescriptor y.desc = some sig → argsL.length = sig.parameters.length) (hsz : Ls.size = mL) (hcl : cells + rm.cells ≤ R.cells) (hsl : slots + rm.slots ≤ R.slots) (hfr : rm.frames + 1 ≤ R.frames) (hlo : (st.map fun v => v.category).sum + (mL' + 11) + rm.locals ≤ R.locals) {pc' : Nat} (hp : pc + 3 = pc')
    (k : ∀ (T' : State) (v : Option Value), Wk l Z R bytes mL ret own nm p e s m args below meth c T' (cells + rm.cells) (slots + rm.slots) → Q' v T'.heap → Ends p e below s Z Q cC cS T' (mkF m pc' Ls (v.toList ++ st))) : Ends p e below s Z Q cC cS T (mkF m pc Ls st0) :=
  E_staticB X hd w1 w2 w3 w4 hy hst (hC.back X.hZ w4 w3 hfr hlo) (fun _ _ _ q => q) hlen hsz hcl hsl hp k
theorem E_specialB (X : Wk l Z R bytes mL ret own nm p e s m args below meth c T cells slots) {y : MethodName} {ix : Nat} {bytes' : ByteArray} {mL' : Nat} {ret' : Option FieldType} {Q' : Option Value → Heap → Prop} {argsL : List Value} {Q2 : Option Value → Heap → List Loc → Prop} {rC rS : Nat} {a : Addr} (hd : decode bytes pc = .ok (.invokespecial ix, 3)) (hy1 : y.name = "<init>") (hret : ret' = none) (w1 : (Jvm.Cond.methodLink own ix y).before a0 Z = true) (w2 : (Jvm.Cond.instanceMethod y).before a0 Z = true) (w4 : (Jvm.Cond.code y bytes' mL' ret').before a0 Z = true) (hy : y.cls ≠ "java/lang/invoke/MethodHandle" ∧ y.cls ≠ "java/lang/invoke/VarHandle") {st0 : List Value} (hst : st0 = argsL.reverse ++ .ref a :: st) (hK : Back l R p e below s args y 3 ((st.map fun v => v.category).sum) (fun A aa => aa = (.ref a :: argsL).toArray ∧ A.U.heap = T.heap ∧ A.cells + rC ≤ R.cells ∧ A.slots + rS ≤ R.slots) (fun A _ v B => ∃ L, Q2 v B.U.heap L ∧ B.locs = A.locs ++ L ∧ B.cells = A.cells + rC ∧ B.slots = A.slots + rS)) (hQ2 : ∀ v h L, Q2 v h L → Fr Z.heap.size L ∧ Ext Z.heap h ∧ Q' v h) (hlen : ∀ sig, parseMethodDescriptor y.desc = some sig → argsL.length = sig.parameters.length) (hsz : Ls.size = mL) (hcl : cells + rC ≤ R.cells) (hsl : slots + rS ≤ R.slots) {pc' : Nat} (hp : pc + 3 = pc')
    (k : ∀ (T' : State) (v : Option Value), Wk l Z R bytes mL ret own nm p e s m args below meth c T' (cells + rC) (slots + rS) → Q' v T'.heap → Ends p e below s Z Q cC cS T' (mkF m pc' Ls (v.toList ++ st))) : Ends p e below s Z Q cC cS T (mkF m pc Ls st0) := by
  subst hp hst; obtain ⟨q0, locs, Y, N, Od⟩ := id X
  subst hret
  obtain ⟨v, _, ⟨T', L1, k1, n1⟩, -, Y', ⟨Lc, hQ, l1, y1, z1⟩, stp⟩ := Y.specialBack X.hx (y := y) hy1 X.hown (mvT X.hZ w1) (mvT X.hZ w2) (mvT X.hZ w4) hy hK (g := mkF m pc Ls (argsL.reverse ++ .ref a :: st)) rfl (X.size hsz) (Steps.refl _) (a := a) (argsL := argsL) (rest := st) hlen rfl (by show 2 * 0 + _ ≤ _; omega) (X.hb hd) (fun _ _ => ⟨rfl, rfl, hcl, hsl⟩)
  dsimp only [Pt.U, Pt.locs, Pt.cells, Pt.slots] at Y' l1 y1 z1 stp hQ
  subst l1 y1 z1
  obtain ⟨f1, f2, f3⟩ := hQ2 _ _ _ hQ
  exact E_tr stp (k T' v ⟨q0, _, Y', Fr.app N f1, f2⟩ f3)
theorem E_special (X : Wk l Z R bytes mL ret own nm p e s m args below meth c T cells slots) {y : MethodName} {ix : Nat} {bytes' : ByteArray} {mL' : Nat} {ret' : Option FieldType} {Q' : Option Value → Heap → Prop} {argsL : List Value} {rm : Room} {a : Addr} (hd : decode bytes pc = .ok (.invokespecial ix, 3)) (hy1 : y.name = "<init>") (hret : ret' = none) (w1 : (Jvm.Cond.methodLink own ix y).before a0 Z = true) (w2 : (Jvm.Cond.instanceMethod y).before a0 Z = true) (w4 : (Jvm.Cond.code y bytes' mL' ret').before a0 Z = true) (hy : y.cls ≠ "java/lang/invoke/MethodHandle" ∧ y.cls ≠ "java/lang/invoke/VarHandle") (w3 : (Jvm.Cond.initialized y.cls).before a0 Z = true) {st0 : List Value} (hst : st0 = argsL.reverse ++ .ref a :: st) (hC : Ct l Z y bytes' mL' ret' rm (.ref a :: argsL).toArray T.heap Q') (hlen : ∀ sig, parseMethodDescriptor y.desc = some sig → argsL.length = sig.parameters.length) (hsz : Ls.size = mL) (hcl : cells + rm.cells ≤ R.cells) (hsl : slots + rm.slots ≤ R.slots) (hfr : rm.frames + 1 ≤ R.frames) (hlo : (st.map fun v => v.category).sum + (mL' + 11) + rm.locals ≤ R.locals) {pc' : Nat} (hp : pc + 3 = pc')
    (k : ∀ (T' : State) (v : Option Value), Wk l Z R bytes mL ret own nm p e s m args below meth c T' (cells + rm.cells) (slots + rm.slots) → Q' v T'.heap → Ends p e below s Z Q cC cS T' (mkF m pc' Ls (v.toList ++ st))) : Ends p e below s Z Q cC cS T (mkF m pc Ls st0) :=
  E_specialB X hd hy1 hret w1 w2 w4 hy hst (hC.back X.hZ w4 w3 hfr hlo) (fun _ _ _ q => q) hlen hsz hcl hsl hp k
theorem E_virtualB (X : Wk l Z R bytes mL ret own nm p e s m args below meth c T cells slots) {y : MethodName} {ix : Nat} {Q' : Option Value → Heap → Prop} {argsL : List Value} {Q2 : Option Value → Heap → List Loc → Prop} {rC rS : Nat} {a : Addr} {z : MethodName} {D : String} (hd : decode bytes pc = .ok (.invokevirtual ix, 3)) (w1 : (Jvm.Cond.methodLink own ix y).before a0 Z = true) (w2 : (Jvm.Cond.declares y).before a0 Z = true) (w5 : (Jvm.Cond.selects D y z).before a0 Z = true) (w6 : (Jvm.Cond.instanceMethod z).before a0 Z = true) (hnf : NotFace s y) (hy : y.cls ≠ "java/lang/invoke/MethodHandle" ∧ y.cls ≠ "java/lang/invoke/VarHandle") (E : Exa Z T.heap a D) {st0 : List Value} (hst : st0 = argsL.reverse ++ .ref a :: st) (hK : Back l R p e below s args z 3 ((st.map fun v => v.category).sum) (fun A aa => aa = (.ref a :: argsL).toArray ∧ A.U.heap = T.heap ∧ A.cells + rC ≤ R.cells ∧ A.slots + rS ≤ R.slots) (fun A _ v B => ∃ L, Q2 v B.U.heap L ∧ B.locs = A.locs ++ L ∧ B.cells = A.cells + rC ∧ B.slots = A.slots + rS)) (hQ2 : ∀ v h L, Q2 v h L → Fr Z.heap.size L ∧ Ext Z.heap h ∧ Q' v h) (hlen : ∀ sig, parseMethodDescriptor y.desc = some sig → argsL.length = sig.parameters.length) (hsz : Ls.size = mL) (hcl : cells + rC ≤ R.cells) (hsl : slots + rS ≤ R.slots) {pc' : Nat} (hp : pc + 3 = pc')
    (k : ∀ (T' : State) (v : Option Value), Wk l Z R bytes mL ret own nm p e s m args below meth c T' (cells + rC) (slots + rS) → Q' v T'.heap → Ends p e below s Z Q cC cS T' (mkF m pc' Ls (v.toList ++ st))) : Ends p e below s Z Q cC cS T (mkF m pc Ls st0) := by
  subst hp hst; obtain ⟨q0, locs, Y, N, Od⟩ := id X
  obtain ⟨cq, kq, qa, qb, qc⟩ := isOf X.hZ rfl E
  obtain ⟨v, _, ⟨T', L1, k1, n1⟩, -, Y', ⟨Lc, hQ, l1, y1, z1⟩, stp⟩ := Y.virtualBack X.hx (y := y) (z := z) X.hown (mvT X.hZ w1) (mvT X.hZ w2) hnf (mvT X.hZ w5) (mvT X.hZ w6) hy hK qa qc (g := mkF m pc Ls (argsL.reverse ++ .ref a :: st)) rfl (X.size hsz) (Steps.refl _) (argsL := argsL) (rest := st) hlen rfl (by show 2 * 0 + _ ≤ _; omega) (X.hb hd) (fun _ _ => ⟨rfl, rfl, hcl, hsl⟩)
  dsimp only [Pt.U, Pt.locs, Pt.cells, Pt.slots] at Y' l1 y1 z1 stp hQ
  subst l1 y1 z1
  obtain ⟨f1, f2, f3⟩ := hQ2 _ _ _ hQ
  exact E_tr stp (k T' v ⟨q0, _, Y', Fr.app N f1, f2⟩ f3)
theorem E_virtual (X : Wk l Z R bytes mL ret own nm p e s m args below meth c T cells slots) {y : MethodName} {ix : Nat} {bytes' : ByteArray} {mL' : Nat} {ret' : Option FieldType} {Q' : Option Value → Heap → Prop} {argsL : List Value} {rm : Room} {a : Addr} {z : MethodName} {D : String} (hd : decode bytes pc = .ok (.invokevirtual ix, 3)) (w1 : (Jvm.Cond.methodLink own ix y).before a0 Z = true) (w2 : (Jvm.Cond.declares y).before a0 Z = true) (w5 : (Jvm.Cond.selects D y z).before a0 Z = true) (w6 : (Jvm.Cond.instanceMethod z).before a0 Z = true) (hnf : NotFace s y) (hy : y.cls ≠ "java/lang/invoke/MethodHandle" ∧ y.cls ≠ "java/lang/invoke/VarHandle") (E : Exa Z T.heap a D) (w3 : (Jvm.Cond.initialized z.cls).before a0 Z = true) (w4 : (Jvm.Cond.code z bytes' mL' ret').before a0 Z = true) {st0 : List Value} (hst : st0 = argsL.reverse ++ .ref a :: st) (hC : Ct l Z z bytes' mL' ret' rm (.ref a :: argsL).toArray T.heap Q') (hlen : ∀ sig, parseMethodDescriptor y.desc = some sig → argsL.length = sig.parameters.length) (hsz : Ls.size = mL) (hcl : cells + rm.cells ≤ R.cells) (hsl : slots + rm.slots ≤ R.slots) (hfr : rm.frames + 1 ≤ R.frames) (hlo : (st.map fun v => v.category).sum + (mL' + 11) + rm.locals ≤ R.locals) {pc' : Nat} (hp : pc + 3 = pc')
    (k : ∀ (T' : State) (v : Option Value), Wk l Z R bytes mL ret own nm p e s m args below meth c T' (cells + rm.cells) (slots + rm.slots) → Q' v T'.heap → Ends p e below s Z Q cC cS T' (mkF m pc' Ls (v.toList ++ st))) : Ends p e below s Z Q cC cS T (mkF m pc Ls st0) :=
  E_virtualB X hd w1 w2 w5 w6 hnf hy E hst (hC.back X.hZ w4 w3 hfr hlo) (fun _ _ _ q => q) hlen hsz hcl hsl hp k
theorem E_interfaceB (X : Wk l Z R bytes mL ret own nm p e s m args below meth c T cells slots) {y : MethodName} {ix : Nat} {Q' : Option Value → Heap → Prop} {argsL : List Value} {Q2 : Option Value → Heap → List Loc → Prop} {rC rS : Nat} {a : Addr} {z : MethodName} {D : String} {ct : Nat} (hd : decode bytes pc = .ok (.invokeinterface ix ct, 5)) (w1 : (Jvm.Cond.methodLink own ix y).before a0 Z = true) (w2 : (Jvm.Cond.declares y).before a0 Z = true) (w5 : (Jvm.Cond.selects D y z).before a0 Z = true) (w6 : (Jvm.Cond.instanceMethod z).before a0 Z = true) (w7 : (Jvm.Cond.interfaceMethod y.cls y.cls y.name y.desc).before a0 Z = true) (hif : ((Jvm.Cond.interfaceMethod y.cls y.cls y.name y.desc).onTables && (Jvm.Cond.interfaceMethod y.cls y.cls y.name y.desc).keepsFace) = true) (w8 : (Jvm.Cond.publicMethod z).before a0 Z = true) (w9 : (Jvm.Cond.unhidden D y.name y.desc).before a0 Z = true) (wc : (Jvm.Cond.castable D y.cls).before a0 Z = true) (hy : y.cls ≠ "java/lang/invoke/MethodHandle" ∧ y.cls ≠ "java/lang/invoke/VarHandle") (E : Exa Z T.heap a D) {st0 : List Value} (hst : st0 = argsL.reverse ++ .ref a :: st) (hK : Back l R p e below s args z 5 ((st.map fun v => v.category).sum) (fun A aa => aa = (.ref a :: argsL).toArray ∧ A.U.heap = T.heap ∧ A.cells + rC ≤ R.cells ∧ A.slots + rS ≤ R.slots) (fun A _ v B => ∃ L, Q2 v B.U.heap L ∧ B.locs = A.locs ++ L ∧ B.cells = A.cells + rC ∧ B.slots = A.slots + rS)) (hQ2 : ∀ v h L, Q2 v h L → Fr Z.heap.size L ∧ Ext Z.heap h ∧ Q' v h) (hlen : ∀ sig, parseMethodDescriptor y.desc = some sig → argsL.length = sig.parameters.length) (hsz : Ls.size = mL) (hcl : cells + rC ≤ R.cells) (hsl : slots + rS ≤ R.slots) {pc' : Nat} (hp : pc + 5 = pc')
    (k : ∀ (T' : State) (v : Option Value), Wk l Z R bytes mL ret own nm p e s m args below meth c T' (cells + rC) (slots + rS) → Q' v T'.heap → Ends p e below s Z Q cC cS T' (mkF m pc' Ls (v.toList ++ st))) : Ends p e below s Z Q cC cS T (mkF m pc Ls st0) := by
  subst hp hst; obtain ⟨q0, locs, Y, N, Od⟩ := id X
  obtain ⟨cq, kq, qa, qb, qc⟩ := isOf X.hZ rfl E
  obtain ⟨v, _, ⟨T', L1, k1, n1⟩, -, Y', ⟨Lc, hQ, l1, y1, z1⟩, stp⟩ := Y.interfaceBack X.hx (xi := y) (y := z) X.hown (mvT X.hZ w1) (mvT X.hZ w2) (mvT X.hZ w7 hif) (mvT X.hZ w5) (mvT X.hZ w6) (mvT X.hZ w8) (mvT X.hZ w9) (mvT X.hZ wc) hy hK qa qb qc (g := mkF m pc Ls (argsL.reverse ++ .ref a :: st)) rfl (X.size hsz) (Steps.refl _) (argsL := argsL) (rest := st) hlen rfl (by show 2 * 0 + _ ≤ _; omega) (X.hb hd) (fun _ _ => ⟨rfl, rfl, hcl, hsl⟩)
  dsimp only [Pt.U, Pt.locs, Pt.cells, Pt.slots] at Y' l1 y1 z1 stp hQ
  subst l1 y1 z1
  obtain ⟨f1, f2, f3⟩ := hQ2 _ _ _ hQ
  exact E_tr stp (k T' v ⟨q0, _, Y', Fr.app N f1, f2⟩ f3)
theorem E_interface (X : Wk l Z R bytes mL ret own nm p e s m args below meth c T cells slots) {y : MethodName} {ix : Nat} {bytes' : ByteArray} {mL' : Nat} {ret' : Option FieldType} {Q' : Option Value → Heap → Prop} {argsL : List Value} {rm : Room} {a : Addr} {z : MethodName} {D : String} {ct : Nat} (hd : decode bytes pc = .ok (.invokeinterface ix ct, 5)) (w1 : (Jvm.Cond.methodLink own ix y).before a0 Z = true) (w2 : (Jvm.Cond.declares y).before a0 Z = true) (w5 : (Jvm.Cond.selects D y z).before a0 Z = true) (w6 : (Jvm.Cond.instanceMethod z).before a0 Z = true) (w7 : (Jvm.Cond.interfaceMethod y.cls y.cls y.name y.desc).before a0 Z = true) (hif : ((Jvm.Cond.interfaceMethod y.cls y.cls y.name y.desc).onTables && (Jvm.Cond.interfaceMethod y.cls y.cls y.name y.desc).keepsFace) = true) (w8 : (Jvm.Cond.publicMethod z).before a0 Z = true) (w9 : (Jvm.Cond.unhidden D y.name y.desc).before a0 Z = true) (wc : (Jvm.Cond.castable D y.cls).before a0 Z = true) (hy : y.cls ≠ "java/lang/invoke/MethodHandle" ∧ y.cls ≠ "java/lang/invoke/VarHandle") (E : Exa Z T.heap a D) (w3 : (Jvm.Cond.initialized z.cls).before a0 Z = true) (w4 : (Jvm.Cond.code z bytes' mL' ret').before a0 Z = true) {st0 : List Value} (hst : st0 = argsL.reverse ++ .ref a :: st) (hC : Ct l Z z bytes' mL' ret' rm (.ref a :: argsL).toArray T.heap Q') (hlen : ∀ sig, parseMethodDescriptor y.desc = some sig → argsL.length = sig.parameters.length) (hsz : Ls.size = mL) (hcl : cells + rm.cells ≤ R.cells) (hsl : slots + rm.slots ≤ R.slots) (hfr : rm.frames + 1 ≤ R.frames) (hlo : (st.map fun v => v.category).sum + (mL' + 11) + rm.locals ≤ R.locals) {pc' : Nat} (hp : pc + 5 = pc')
    (k : ∀ (T' : State) (v : Option Value), Wk l Z R bytes mL ret own nm p e s m args below meth c T' (cells + rm.cells) (slots + rm.slots) → Q' v T'.heap → Ends p e below s Z Q cC cS T' (mkF m pc' Ls (v.toList ++ st))) : Ends p e below s Z Q cC cS T (mkF m pc Ls st0) :=
  E_interfaceB X hd w1 w2 w5 w6 w7 hif w8 w9 wc hy E hst (hC.back X.hZ w4 w3 hfr hlo) (fun _ _ _ q => q) hlen hsz hcl hsl hp k
theorem Wk.out (X : Wk l Z R bytes mL ret own nm p e s m args below meth c T cells slots) {v : Option Value} (hv : ret = none → v = none) (hQ : Q v T.heap) (h1 : cells ≤ cC) (h2 : slots ≤ cS) (hs : ∀ fs, (∀ (f : JFrame) (acts : List Action), f.method = m → f.locked = none → f.entered = [] → (doReturn e (T.setTop f) acts v).1 = T.setFrames fs) → Steps p.tables e below (T.setTop g) (T.setFrames fs)) : Ends p e below s Z Q cC cS T g := by
  obtain ⟨q0, locs, Y, N, Od⟩ := id X
  obtain ⟨fs, hr, hrun, hended, hW, hsame⟩ := Y.leave (v := v) (fun h => hv (q0.2.2.2.1.symm.trans h)) q0.2.2.2.2.1
  exact ⟨_, _, hs fs hr, hrun, hended, _, _, rfl, ⟨N, Od, hQ⟩, ⟨_, rfl⟩, hW, hsame.mono h1 h2⟩
theorem E_return (X : Wk l Z R bytes mL ret own nm p e s m args below meth c T cells slots) (hd : decode bytes pc = .ok (.return_, 1)) (hret : ret = none) (h1 : cells ≤ cC) (h2 : slots ≤ cS) (hQ : Q none T.heap) : Ends p e below s Z Q cC cS T (mkF m pc Ls []) := by
  refine X.out (v := none) (fun _ => rfl) hQ h1 h2 fun fs hr => ?_
  obtain ⟨q0, locs, Y, N, Od⟩ := id X
  exact Y.returnOut X.hx (q0.2.2.2.1.trans hret) (X.hb hd) hr
theorem E_ireturnI (X : Wk l Z R bytes mL ret own nm p e s m args below meth c T cells slots) {z : Int32} (hd : decode bytes pc = .ok (.ireturn, 1)) (hret : ret = some .int) (h1 : cells ≤ cC) (h2 : slots ≤ cS) (hQ : Q (some (.int z)) T.heap) : Ends p e below s Z Q cC cS T (mkF m pc Ls (.int z :: st)) := by
  refine X.out (v := some (.int z)) (fun h => by rw [hret] at h; cases h) hQ h1 h2 fun fs hr => ?_
  obtain ⟨q0, locs, Y, N, Od⟩ := id X
  exact retOut Y X.hx (q0.2.2.2.1.trans hret) rfl (Or.inl ⟨rfl, Or.inl rfl, z, rfl⟩) (X.hb hd) hr
theorem E_ireturnN (X : Wk l Z R bytes mL ret own nm p e s m args below meth c T cells slots) {z : Int32} {t : FieldType} (hd : decode bytes pc = .ok (.ireturn, 1)) (hret : ret = some t) (ht : t = .boolean ∨ t = .byte ∨ t = .char ∨ t = .short) (h1 : cells ≤ cC) (h2 : slots ≤ cS) (hQ : Q (some (.int (nar t z))) T.heap) : Ends p e below s Z Q cC cS T (mkF m pc Ls (.int z :: st)) := by
  refine X.out (v := some (.int (nar t z))) (fun h => by rw [hret] at h; cases h) hQ h1 h2 fun fs hr => ?_
  obtain ⟨q0, locs, Y, N, Od⟩ := id X
  exact retN Y X.hx (q0.2.2.2.1.trans hret) ht (X.hb hd) hr
theorem E_areturn (X : Wk l Z R bytes mL ret own nm p e s m args below meth c T cells slots) {v : Value} {t : FieldType} (hd : decode bytes pc = .ok (.areturn, 1)) (hret : ret = some t) (ht : t.isReference = true) (hv : v.isRef = true) (hn : narrow t v = v) (h1 : cells ≤ cC) (h2 : slots ≤ cS) (hQ : Q (some v) T.heap) : Ends p e below s Z Q cC cS T (mkF m pc Ls (v :: st)) := by
  refine X.out (v := some v) (fun h => by rw [hret] at h; cases h) hQ h1 h2 fun fs hr => ?_
  obtain ⟨q0, locs, Y, N, Od⟩ := id X
  exact retOut Y X.hx (q0.2.2.2.1.trans hret) hn (Or.inr (Or.inr (Or.inr (Or.inr ⟨rfl, ht, hv⟩)))) (X.hb hd) hr
end Own
section OwnW
variable {p : Program} {l : Launch} {e : Env} {R : Room} {s : State} {m : MethodId} {args : Array Value} {below : List Frame} {meth : Method} {c : Code} {T T' : State} {cells slots : Nat} {Z : State} {bytes : ByteArray} {mL : Nat} {ret : Option FieldType} {own nm : String} {Q : Option Value → Heap → Prop} {cC cS : Nat} {pc : Nat} {Ls : Array Slot} {st : List Value} {a0 : Array Value} {g g' : JFrame} {vm : Vm}
abbrev EL : List (String × Nat) := consts_1
/-- the walk stands at T over the start with the tables vm; it may have loaded String constants -/
def Ww (l : Launch) (Z : State) (R : Room) (bytes : ByteArray) (mL : Nat) (ret : Option FieldType) (own nm : String) (p : Program) (e : Env) (s : State) (m : MethodId) (args : Array Value) (below : List Frame) (meth : Method) (c : Code) (vm : Vm) (T : State) (cells slots : Nat) : Prop :=
  (p.tables.exec = Jvm.exec ∧ c.code = bytes ∧ c.maxLocals = mL ∧ meth.sig.returnType = ret ∧ meth.locks = false ∧ vm.findClass own = some m.cls ∧ meth.name = nm ∧ Z.Warmed39 vm) ∧
  ((∃ k0, s.Since vm k0 ∧ k0 ≤ T.heap.size) ∧ (∃ a1, EW Z a1 EL) ∧ CHr Z EL s.vm s.heap vm T.heap) ∧
  ∃ locs, Stand p l e R (s.setVm vm) m args below meth c T locs cells slots ∧ Fr Z.heap.size locs ∧ Ext Z.heap T.heap
def EndW (p : Program) (e : Env) (below : List Frame) (s : State) (Z : State) (Q : Option Value → Heap → Prop) (cC cS : Nat) (T : State) (g : JFrame) : Prop :=
  ∃ t o, Steps p.tables e below (T.setTop g) t ∧ t.status = .running ∧ Ended t below o ∧ ∃ v L, o = .returned v ∧ (Fr Z.heap.size L ∧ Ext Z.heap t.heap ∧ Q v t.heap) ∧ CHr Z EL s.vm s.heap t.vm t.heap ∧ ReturnedEndW s o t L cC cS
def CtW (l : Launch) (Z : State) (y : MethodName) (bytes : ByteArray) (mL : Nat) (ret : Option FieldType) (rm : Room) (as' : Array Value) (h : Heap) (Q : Option Value → Heap → Prop) : Prop :=
  ∀ ws, MetFree l y (head1 (Jvm.Cond.code y bytes mL ret :: ws) rm) (fun a U => a = as' ∧ Z.Warmed39 U.vm ∧ U.heap = h ∧ CHv Z EL U.vm h) (fun _ _ _ _ _ => True) (fun _ U o U' => ∃ v L, o = .returned v ∧ (Fr Z.heap.size L ∧ Ext Z.heap U'.heap ∧ Q v U'.heap) ∧ CHr Z EL U.vm U.heap U'.vm U'.heap ∧ ReturnedEndW U o U' L rm.cells rm.slots)
theorem Ww.hx (X : Ww l Z R bytes mL ret own nm p e s m args below meth c vm T cells slots) : p.tables.exec = Jvm.exec := X.1.1
theorem Ww.hb (X : Ww l Z R bytes mL ret own nm p e s m args below meth c vm T cells slots) {pc : Nat} {r : Except DecodeError (Instr × Nat)} (h : decode bytes pc = r) : decode c.code pc = r := X.1.2.1 ▸ h
theorem Ww.hown (X : Ww l Z R bytes mL ret own nm p e s m args below meth c vm T cells slots) : vm.findClass own = some m.cls := X.1.2.2.2.2.2.1
theorem Ww.hZ (X : Ww l Z R bytes mL ret own nm p e s m args below meth c vm T cells slots) : Z.Warmed39 vm := X.1.2.2.2.2.2.2.2
theorem Ww.at (X : Ww l Z R bytes mL ret own nm p e s m args below meth c vm T cells slots) : At T m c below := by obtain ⟨-, -, _, X, -⟩ := X; exact X.here
theorem Ww.old (X : Ww l Z R bytes mL ret own nm p e s m args below meth c vm T cells slots) : Ext Z.heap T.heap := by obtain ⟨-, -, _, -, -, X⟩ := X; exact X
theorem Ww.le (X : Ww l Z R bytes mL ret own nm p e s m args below meth c vm T cells slots) : Z.heap.size ≤ T.heap.size := X.old.1
theorem Ww.size (X : Ww l Z R bytes mL ret own nm p e s m args below meth c vm T cells slots) (h : Ls.size = mL) {pc : Nat} {st : List Value} : (mkF m pc Ls st).locals.size = c.maxLocals := h.trans X.1.2.2.1.symm
theorem Ww.more (X : Ww l Z R bytes mL ret own nm p e s m args below meth c vm T cells slots) {cells' slots' : Nat} (h1 : cells ≤ cells') (h2 : slots ≤ slots') : Ww l Z R bytes mL ret own nm p e s m args below meth c vm T cells' slots' := by
  obtain ⟨q, q2, locs, Y, r⟩ := X; exact ⟨q, q2, locs, Y.more h1 h2, r⟩

theorem Ww.ch (X : Ww l Z R bytes mL ret own nm p e s m args below meth c vm T cells slots) : CHv Z EL vm T.heap := X.2.1.2.2.1
theorem Ww.al (X : Ww l Z R bytes mL ret own nm p e s m args below meth c vm T cells slots) : Z.vm.Alike vm := X.hZ.alike
theorem F_by (f : ∀ target, Steps p.tables e below (T'.setTop g') target → Steps p.tables e below (T.setTop g) target) (k : EndW p e below s Z Q cC cS T' g') : EndW p e below s Z Q cC cS T g := by
  obtain ⟨t, o, h1, r⟩ := k; exact ⟨t, o, f _ h1, r⟩
theorem F_tr (f : Steps p.tables e below (T.setTop g) (T'.setTop g')) (k : EndW p e below s Z Q cC cS T' g') : EndW p e below s Z Q cC cS T g := F_by (fun _ q => f.trans q) k
theorem own_ks {h h' : Heap} (q : h' = h) : Keep h h' [] := q ▸ Keep.refl _ _
/-- the walk goes on: same tables, heap kept but for safe places -/
theorem Ww.go {ws : List Addr} {T' : State} {cells' slots' : Nat} {locs' : List Loc} (X : Ww l Z R bytes mL ret own nm p e s m args below meth c vm T cells slots) (Y : Stand p l e R (s.setVm vm) m args below meth c T' locs' cells' slots') (N : Fr Z.heap.size locs') (K : Keep T.heap T'.heap ws) (hw : ∀ x ∈ ws, Z.heap.size ≤ x) (hs : ∀ x ∈ ws, Safe Z EL vm T.heap x) : Ww l Z R bytes mL ret own nm p e s m args below meth c vm T' cells' slots' := by
  obtain ⟨q0, ⟨⟨k0, hS, hk⟩, hE, hC⟩, locs, Y0, N0, O⟩ := X
  exact ⟨q0, ⟨⟨k0, hS, Nat.le_trans hk K.1⟩, hE, hC.trans (CHr.keep K hs hC.1)⟩, locs', Y, N, Keep.old O K hw⟩
theorem Ww.go2 {ws : List Addr} {T' : State} {cells' slots' : Nat} {locs' : List Loc} (X : Ww l Z R bytes mL ret own nm p e s m args below meth c vm T cells slots) (Y : Stand p l e R (s.setVm vm) m args below meth c T' locs' cells' slots') (N : Fr Z.heap.size locs') (O' : Ext Z.heap T'.heap) (K : Keep T.heap T'.heap ws) (hs : ∀ x ∈ ws, Safe Z EL vm T.heap x) : Ww l Z R bytes mL ret own nm p e s m args below meth c vm T' cells' slots' := by
  obtain ⟨q0, ⟨⟨k0, hS, hk⟩, hE, hC⟩, locs, Y0, N0, O⟩ := X
  exact ⟨q0, ⟨⟨k0, hS, Nat.le_trans hk K.1⟩, hE, hC.trans (CHr.keep K hs hC.1)⟩, locs', Y, N, O'⟩
/-- a String whose array isn't set is no booked one -/
theorem own_safe {h : Heap} {x : Addr} (hal : Z.vm.Alike vm) (E : Exa Z h x "java/lang/String") (F : Fld Z h x "java/lang/String" "value" "[B" .null) (wi : (Jvm.Cond.instantiable "java/lang/String" 4).before a0 Z = true) : Safe Z EL vm h x := fun B => by
  obtain ⟨cell, cf, k, i, f, h1, h2, h3, h4, h5, h6, h7⟩ := F
  obtain ⟨pr, -, u, a, -, q, -, G, rfl | rfl⟩ := B
  · have ha := G.ha
    obtain ⟨cS, ⟨⟨-, -, -, ⟨cv, kv, iv, s4, -⟩, -, -, -, s8, -⟩, -⟩, -⟩ := G
    cases (show h[q.sa]? = some q.sC from ha).symm.trans h1
    obtain ⟨kv', z4⟩ := ff_back (U := Wst Z vm h) hal s4
    have e4 := z4.symm.trans h2
    simp only [Option.some.injEq, Prod.mk.injEq] at e4
    rw [e4.2.2.2, h7] at s8
    cases s8
  · have hd := G.hd
    obtain ⟨cS, ⟨⟨-, -, -, -, -, -, -, -, -, -, ⟨-, kB, hkB, compB, hkindB⟩, -⟩, -, -⟩, -⟩ := G
    obtain ⟨cell2, k2, e1, e2, e3, -⟩ := E
    cases (show h[q.sd]? = some q.SA from hd).symm.trans e1
    obtain ⟨c4, k4, i1, i2, i3, -⟩ := Cond.instantiable_spec wi
    cases e2.symm.trans i1
    obtain ⟨k5, q1, q2⟩ := hal.2.2 _ _ i2
    cases (show vm.classes[q.SA.cls]? = some kB from hkB).symm.trans q1
    rw [q2] at hkindB
    have := i3.symm.trans hkindB
    cases this
theorem CtW.of_body {y1 y2 y3 : String} {rm : Room} {as' : Array Value} {h : Heap} (pn : plainFor ⟨y1, y2, y3⟩ = true) (O : Ext Z.heap h) (hE : EW Z a0 EL) (ef : ∀ m, entryFrame m as' mL = mkF m 0 Ls [])
    (k : ∀ {p : Program} {e : Env} {s : State} {m : MethodId} {below : List Frame} {meth : Method} {c : Code} {T : State}, Ww l Z rm bytes mL ret y1 y2 p e s m as' below meth c s.vm T 0 0 → T.heap = h → EndW p e below s Z Q rm.cells rm.slots T (mkF m 0 Ls [])) : CtW l Z ⟨y1, y2, y3⟩ bytes mL ret rm as' h Q := by
  intro ws
  refine MetFree.of_bodySF pn hisR ?_
  intro p e s m args below meth c s₁ Bd hml0 hP hK
  obtain ⟨rfl, hZ, hh, hC⟩ := hP
  have e0 : s₁.heap = h := by rw [← hh, Bd.state]; rfl
  have X : Ww l Z rm bytes mL ret y1 y2 p e s m args below meth c s.vm s₁ 0 0 := ⟨⟨Bd.exec, Bd.bytes, hml0, Bd.returns, Bd.notSynchronized, findClass_of_methodNamed Bd.named, (name_of_methodNamed Bd.named Bd.method).1, hZ⟩, ⟨⟨0, (State.WarmedH.refl s).since 0, Nat.zero_le _⟩, ⟨_, hE⟩, by rw [hh, e0]; exact CHr.refl hC⟩, [], by rw [State.setVm_self]; exact Stand.of_body Bd, Fr.nil _, e0 ▸ O⟩
  obtain ⟨t, o, h1, r⟩ := k X e0
  exact ⟨t, o, castTop (ef m) h1, r⟩
theorem CtW.back {y : MethodName} {rm : Room} {as' : Array Value} {h : Heap} {mL' : Nat} {bytes' : ByteArray} {ret' : Option FieldType} {Q' : Option Value → Heap → Prop} (hC : CtW l Z y bytes' mL' ret' rm as' h Q') {len W : Nat}
    (hZ : Z.Warmed39 vm) (wc : (Jvm.Cond.code y bytes' mL' ret').before a0 Z = true) (wz : (Jvm.Cond.initialized y.cls).before a0 Z = true) (hf : rm.frames + 1 ≤ R.frames) (hl : W + (mL' + 11) + rm.locals ≤ R.locals) {a1 : Array Value} (hE : EW Z a1 EL) (H : CHv Z EL vm h) :
    BackS l R p e below (s.setVm vm) args y len W (fun A aa => aa = as' ∧ A.U.heap = h ∧ A.cells + rm.cells ≤ R.cells ∧ A.slots + rm.slots ≤ R.slots)
      (fun A _ v B => ∃ L, (Fr Z.heap.size L ∧ Ext Z.heap B.U.heap ∧ Q' v B.U.heap) ∧ B.locs = A.locs ++ L ∧ B.cells = A.cells + rm.cells ∧ B.slots = A.slots + rm.slots ∧ CHr Z EL vm h B.U.vm B.U.heap) :=
  backOfSH (Q := fun v h L => Fr Z.heap.size L ∧ Ext Z.heap h ∧ Q' v h) (hC []) hZ wc wz hf hl hE H

theorem F_aloadN (X : Ww l Z R bytes mL ret own nm p e s m args below meth c vm T cells slots) {j : Fin 4} {v : Value} (hd : decode bytes pc = .ok (.aload_n j, 1)) (hl : Ls[j.val]? = some (.val v)) (hv : v.isRef = true) {pc' : Nat} (hp : pc + 1 = pc') (k : EndW p e below s Z Q cC cS T (mkF m pc' Ls (v :: st))) : EndW p e below s Z Q cC cS T (mkF m pc Ls (st)) := by
  subst hp; exact F_by (fun _ q => XS.aloadN X.at X.hx rfl (X.hb hd) hl hv q) k
theorem F_aload (X : Ww l Z R bytes mL ret own nm p e s m args below meth c vm T cells slots) {j : Nat} {v : Value} (hd : decode bytes pc = .ok (.aload j, 2)) (hl : Ls[j]? = some (.val v)) (hv : v.isRef = true) {pc' : Nat} (hp : pc + 2 = pc') (k : EndW p e below s Z Q cC cS T (mkF m pc' Ls (v :: st))) : EndW p e below s Z Q cC cS T (mkF m pc Ls (st)) := by
  subst hp; exact F_by (fun _ q => XS.aload X.at X.hx rfl (X.hb hd) hl hv q) k
theorem F_iloadN (X : Ww l Z R bytes mL ret own nm p e s m args below meth c vm T cells slots) {j : Fin 4} {v : Int32} (hd : decode bytes pc = .ok (.iload_n j, 1)) (hl : Ls[j.val]? = some (.val (.int v))) {pc' : Nat} (hp : pc + 1 = pc') (k : EndW p e below s Z Q cC cS T (mkF m pc' Ls (.int v :: st))) : EndW p e below s Z Q cC cS T (mkF m pc Ls (st)) := by
  subst hp; exact F_by (fun _ q => XS.iloadN X.at X.hx rfl (X.hb hd) hl q) k
theorem F_iload (X : Ww l Z R bytes mL ret own nm p e s m args below meth c vm T cells slots) {j : Nat} {v : Int32} (hd : decode bytes pc = .ok (.iload j, 2)) (hl : Ls[j]? = some (.val (.int v))) {pc' : Nat} (hp : pc + 2 = pc') (k : EndW p e below s Z Q cC cS T (mkF m pc' Ls (.int v :: st))) : EndW p e below s Z Q cC cS T (mkF m pc Ls (st)) := by
  subst hp; exact F_by (fun _ q => XS.iload X.at X.hx rfl (X.hb hd) hl q) k
theorem F_aconstNull (X : Ww l Z R bytes mL ret own nm p e s m args below meth c vm T cells slots) (hd : decode bytes pc = .ok (.aconst_null, 1)) {pc' : Nat} (hp : pc + 1 = pc') (k : EndW p e below s Z Q cC cS T (mkF m pc' Ls (.null :: st))) : EndW p e below s Z Q cC cS T (mkF m pc Ls (st)) := by
  subst hp; exact F_by (fun _ q => XS.aconstNull X.at X.hx rfl (X.hb hd) q) k
theorem F_iconst (X : Ww l Z R bytes mL ret own nm p e s m args below meth c vm T cells slots) {i : Int} {v : Int32} (hd : decode bytes pc = .ok (.iconst i, 1)) (hv : Int32.ofInt i = v) {pc' : Nat} (hp : pc + 1 = pc') (k : EndW p e below s Z Q cC cS T (mkF m pc' Ls (.int v :: st))) : EndW p e below s Z Q cC cS T (mkF m pc Ls st) := by
  subst hp hv; exact F_by (fun _ q => XS.iconst X.at X.hx rfl (X.hb hd) q) k
theorem F_bipush (X : Ww l Z R bytes mL ret own nm p e s m args below meth c vm T cells slots) {i : Int} {v : Int32} (hd : decode bytes pc = .ok (.bipush i, 2)) (hv : (Int8.ofInt i).toInt32 = v) {pc' : Nat} (hp : pc + 2 = pc') (k : EndW p e below s Z Q cC cS T (mkF m pc' Ls (.int v :: st))) : EndW p e below s Z Q cC cS T (mkF m pc Ls st) := by
  subst hp hv; exact F_by (fun _ q => XS.bipush X.at X.hx rfl (X.hb hd) q) k
theorem F_sipush (X : Ww l Z R bytes mL ret own nm p e s m args below meth c vm T cells slots) {i : Int} {v : Int32} (hd : decode bytes pc = .ok (.sipush i, 3)) (hv : (Int16.ofInt i).toInt32 = v) {pc' : Nat} (hp : pc + 3 = pc') (k : EndW p e below s Z Q cC cS T (mkF m pc' Ls (.int v :: st))) : EndW p e below s Z Q cC cS T (mkF m pc Ls st) := by
  subst hp hv; exact F_by (fun _ q => XS.sipush X.at X.hx rfl (X.hb hd) q) k
theorem F_iadd (X : Ww l Z R bytes mL ret own nm p e s m args below meth c vm T cells slots) {x y v : Int32} (hd : decode bytes pc = .ok (.iadd, 1)) (hv : x + y = v) {pc' : Nat} (hp : pc + 1 = pc') (k : EndW p e below s Z Q cC cS T (mkF m pc' Ls (.int v :: st))) : EndW p e below s Z Q cC cS T (mkF m pc Ls (.int y :: .int x :: st)) := by
  subst hp hv; exact F_by (fun _ q => XS.iadd X.at X.hx rfl (X.hb hd) rfl q) k
theorem F_isub (X : Ww l Z R bytes mL ret own nm p e s m args below meth c vm T cells slots) {x y v : Int32} (hd : decode bytes pc = .ok (.isub, 1)) (hv : x - y = v) {pc' : Nat} (hp : pc + 1 = pc') (k : EndW p e below s Z Q cC cS T (mkF m pc' Ls (.int v :: st))) : EndW p e below s Z Q cC cS T (mkF m pc Ls (.int y :: .int x :: st)) := by
  subst hp hv; exact F_by (fun _ q => XS.isub X.at X.hx rfl (X.hb hd) rfl q) k
theorem F_imul (X : Ww l Z R bytes mL ret own nm p e s m args below meth c vm T cells slots) {x y v : Int32} (hd : decode bytes pc = .ok (.imul, 1)) (hv : x * y = v) {pc' : Nat} (hp : pc + 1 = pc') (k : EndW p e below s Z Q cC cS T (mkF m pc' Ls (.int v :: st))) : EndW p e below s Z Q cC cS T (mkF m pc Ls (.int y :: .int x :: st)) := by
  subst hp hv; exact F_by (fun _ q => XS.imul X.at X.hx rfl (X.hb hd) rfl q) k
theorem F_iand (X : Ww l Z R bytes mL ret own nm p e s m args below meth c vm T cells slots) {x y v : Int32} (hd : decode bytes pc = .ok (.iand, 1)) (hv : x &&& y = v) {pc' : Nat} (hp : pc + 1 = pc') (k : EndW p e below s Z Q cC cS T (mkF m pc' Ls (.int v :: st))) : EndW p e below s Z Q cC cS T (mkF m pc Ls (.int y :: .int x :: st)) := by
  subst hp hv; exact F_by (fun _ q => XS.iand X.at X.hx rfl (X.hb hd) rfl q) k
theorem F_ior (X : Ww l Z R bytes mL ret own nm p e s m args below meth c vm T cells slots) {x y v : Int32} (hd : decode bytes pc = .ok (.ior, 1)) (hv : x ||| y = v) {pc' : Nat} (hp : pc + 1 = pc') (k : EndW p e below s Z Q cC cS T (mkF m pc' Ls (.int v :: st))) : EndW p e below s Z Q cC cS T (mkF m pc Ls (.int y :: .int x :: st)) := by
  subst hp hv; exact F_by (fun _ q => XS.ior X.at X.hx rfl (X.hb hd) rfl q) k
theorem F_ixor (X : Ww l Z R bytes mL ret own nm p e s m args below meth c vm T cells slots) {x y v : Int32} (hd : decode bytes pc = .ok (.ixor, 1)) (hv : x ^^^ y = v) {pc' : Nat} (hp : pc + 1 = pc') (k : EndW p e below s Z Q cC cS T (mkF m pc' Ls (.int v :: st))) : EndW p e below s Z Q cC cS T (mkF m pc Ls (.int y :: .int x :: st)) := by
  subst hp hv; exact F_by (fun _ q => XS.ixor X.at X.hx rfl (X.hb hd) rfl q) k
theorem F_ishl (X : Ww l Z R bytes mL ret own nm p e s m args below meth c vm T cells slots) {x y v : Int32} (hd : decode bytes pc = .ok (.ishl, 1)) (hv : x <<< (y &&& 31) = v) {pc' : Nat} (hp : pc + 1 = pc') (k : EndW p e below s Z Q cC cS T (mkF m pc' Ls (.int v :: st))) : EndW p e below s Z Q cC cS T (mkF m pc Ls (.int y :: .int x :: st)) := by
  subst hp hv; exact F_by (fun _ q => XS.ishl X.at X.hx rfl (X.hb hd) rfl q) k
theorem F_ishr (X : Ww l Z R bytes mL ret own nm p e s m args below meth c vm T cells slots) {x y v : Int32} (hd : decode bytes pc = .ok (.ishr, 1)) (hv : x >>> (y &&& 31) = v) {pc' : Nat} (hp : pc + 1 = pc') (k : EndW p e below s Z Q cC cS T (mkF m pc' Ls (.int v :: st))) : EndW p e below s Z Q cC cS T (mkF m pc Ls (.int y :: .int x :: st)) := by
  subst hp hv; exact F_by (fun _ q => XS.ishr X.at X.hx rfl (X.hb hd) rfl q) k
theorem F_iushr (X : Ww l Z R bytes mL ret own nm p e s m args below meth c vm T cells slots) {x y v : Int32} (hd : decode bytes pc = .ok (.iushr, 1)) (hv : (x.toUInt32 >>> (y &&& 31).toUInt32).toInt32 = v) {pc' : Nat} (hp : pc + 1 = pc') (k : EndW p e below s Z Q cC cS T (mkF m pc' Ls (.int v :: st))) : EndW p e below s Z Q cC cS T (mkF m pc Ls (.int y :: .int x :: st)) := by
  subst hp hv; exact F_by (fun _ q => XS.iushr X.at X.hx rfl (X.hb hd) rfl q) k
theorem F_ineg (X : Ww l Z R bytes mL ret own nm p e s m args below meth c vm T cells slots) {x v : Int32} (hd : decode bytes pc = .ok (.ineg, 1)) (hv : -x = v) {pc' : Nat} (hp : pc + 1 = pc') (k : EndW p e below s Z Q cC cS T (mkF m pc' Ls (.int v :: st))) : EndW p e below s Z Q cC cS T (mkF m pc Ls (.int x :: st)) := by
  subst hp hv; exact F_by (fun _ q => XS.ineg X.at X.hx rfl (X.hb hd) rfl q) k
theorem F_i2c (X : Ww l Z R bytes mL ret own nm p e s m args below meth c vm T cells slots) {x v : Int32} (hd : decode bytes pc = .ok (.i2c, 1)) (hv : x.toUInt32.toUInt16.toUInt32.toInt32 = v) {pc' : Nat} (hp : pc + 1 = pc') (k : EndW p e below s Z Q cC cS T (mkF m pc' Ls (.int v :: st))) : EndW p e below s Z Q cC cS T (mkF m pc Ls (.int x :: st)) := by
  subst hp hv; exact F_by (fun _ q => XS.i2c X.at X.hx rfl (X.hb hd) rfl q) k
theorem F_i2b (X : Ww l Z R bytes mL ret own nm p e s m args below meth c vm T cells slots) {x v : Int32} (hd : decode bytes pc = .ok (.i2b, 1)) (hv : x.toInt8.toInt32 = v) {pc' : Nat} (hp : pc + 1 = pc') (k : EndW p e below s Z Q cC cS T (mkF m pc' Ls (.int v :: st))) : EndW p e below s Z Q cC cS T (mkF m pc Ls (.int x :: st)) := by
  subst hp hv; exact F_by (fun _ q => XS.i2b X.at X.hx rfl (X.hb hd) rfl q) k
theorem F_i2s (X : Ww l Z R bytes mL ret own nm p e s m args below meth c vm T cells slots) {x v : Int32} (hd : decode bytes pc = .ok (.i2s, 1)) (hv : x.toInt16.toInt32 = v) {pc' : Nat} (hp : pc + 1 = pc') (k : EndW p e below s Z Q cC cS T (mkF m pc' Ls (.int v :: st))) : EndW p e below s Z Q cC cS T (mkF m pc Ls (.int x :: st)) := by
  subst hp hv; exact F_by (fun _ q => XS.i2s X.at X.hx rfl (X.hb hd) rfl q) k
theorem F_dup (X : Ww l Z R bytes mL ret own nm p e s m args below meth c vm T cells slots) {v : Value} (hd : decode bytes pc = .ok (.dup, 1)) (hc : v.category = 1) {pc' : Nat} (hp : pc + 1 = pc') (k : EndW p e below s Z Q cC cS T (mkF m pc' Ls (v :: v :: st))) : EndW p e below s Z Q cC cS T (mkF m pc Ls (v :: st)) := by
  subst hp; exact F_by (fun _ q => XS.dup X.at X.hx rfl (X.hb hd) rfl hc q) k
theorem F_pop (X : Ww l Z R bytes mL ret own nm p e s m args below meth c vm T cells slots) {v : Value} (hd : decode bytes pc = .ok (.pop, 1)) (hc : v.category = 1) {pc' : Nat} (hp : pc + 1 = pc') (k : EndW p e below s Z Q cC cS T (mkF m pc' Ls (st))) : EndW p e below s Z Q cC cS T (mkF m pc Ls (v :: st)) := by
  subst hp; exact F_by (fun _ q => XS.pop X.at X.hx rfl (X.hb hd) rfl hc q) k
theorem F_istoreN (X : Ww l Z R bytes mL ret own nm p e s m args below meth c vm T cells slots) {j : Fin 4} {x : Int32} (hd : decode bytes pc = .ok (.istore_n j, 1)) {l' : Array Slot} (hl : storeLocals Ls j.val (.int x) = some l') {pc' : Nat} (hp : pc + 1 = pc') (k : EndW p e below s Z Q cC cS T (mkF m pc' l' (st))) : EndW p e below s Z Q cC cS T (mkF m pc Ls (.int x :: st)) := by
  subst hp; exact F_by (fun _ q => XS.istoreN X.at X.hx rfl (X.hb hd) rfl hl q) k
theorem F_istore (X : Ww l Z R bytes mL ret own nm p e s m args below meth c vm T cells slots) {j : Nat} {x : Int32} (hd : decode bytes pc = .ok (.istore j, 2)) {l' : Array Slot} (hl : storeLocals Ls j (.int x) = some l') {pc' : Nat} (hp : pc + 2 = pc') (k : EndW p e below s Z Q cC cS T (mkF m pc' l' (st))) : EndW p e below s Z Q cC cS T (mkF m pc Ls (.int x :: st)) := by
  subst hp; exact F_by (fun _ q => XS.istore X.at X.hx rfl (X.hb hd) rfl hl q) k
theorem F_astoreN (X : Ww l Z R bytes mL ret own nm p e s m args below meth c vm T cells slots) {j : Fin 4} {x : Value} (hd : decode bytes pc = .ok (.astore_n j, 1)) (hv : x.isRef = true) {l' : Array Slot} (hl : storeLocals Ls j.val x = some l') {pc' : Nat} (hp : pc + 1 = pc') (k : EndW p e below s Z Q cC cS T (mkF m pc' l' (st))) : EndW p e below s Z Q cC cS T (mkF m pc Ls (x :: st)) := by
  subst hp; exact F_by (fun _ q => XS.astoreN X.at X.hx rfl (X.hb hd) rfl hv hl q) k
theorem F_astore (X : Ww l Z R bytes mL ret own nm p e s m args below meth c vm T cells slots) {j : Nat} {x : Value} (hd : decode bytes pc = .ok (.astore j, 2)) (hv : x.isRef = true) {l' : Array Slot} (hl : storeLocals Ls j x = some l') {pc' : Nat} (hp : pc + 2 = pc') (k : EndW p e below s Z Q cC cS T (mkF m pc' l' (st))) : EndW p e below s Z Q cC cS T (mkF m pc Ls (x :: st)) := by
  subst hp; exact F_by (fun _ q => XS.astore X.at X.hx rfl (X.hb hd) rfl hv hl q) k
theorem F_iinc (X : Ww l Z R bytes mL ret own nm p e s m args below meth c vm T cells slots) {j : Nat} {i : Int} {x y : Int32} (hd : decode bytes pc = .ok (.iinc j i, 3)) (hy : x + Int32.ofInt i = y) (hl : Ls[j]? = some (.val (.int x))) {l' : Array Slot} (hl' : storeLocals Ls j (.int y) = some l') {pc' : Nat} (hp : pc + 3 = pc') (k : EndW p e below s Z Q cC cS T (mkF m pc' l' st)) : EndW p e below s Z Q cC cS T (mkF m pc Ls st) := by
  subst hp hy; exact F_by (fun _ q => XS.iinc X.at X.hx rfl (X.hb hd) hl hl' q) k
theorem F_irem (X : Ww l Z R bytes mL ret own nm p e s m args below meth c vm T cells slots) {x y v : Int32} (hd : decode bytes pc = .ok (.irem, 1)) (hy : y ≠ 0) (hv : x % y = v) {pc' : Nat} (hp : pc + 1 = pc') (k : EndW p e below s Z Q cC cS T (mkF m pc' Ls (.int v :: st))) : EndW p e below s Z Q cC cS T (mkF m pc Ls (.int y :: .int x :: st)) := by
  subst hp hv; obtain ⟨q, q2, locs, Y, r⟩ := id X; exact F_by (fun _ k => iremM Y X.hx rfl (X.hb hd) rfl hy k) k
theorem F_idiv (X : Ww l Z R bytes mL ret own nm p e s m args below meth c vm T cells slots) {x y v : Int32} (hd : decode bytes pc = .ok (.idiv, 1)) (hy : y ≠ 0) (hv : x / y = v) {pc' : Nat} (hp : pc + 1 = pc') (k : EndW p e below s Z Q cC cS T (mkF m pc' Ls (.int v :: st))) : EndW p e below s Z Q cC cS T (mkF m pc Ls (.int y :: .int x :: st)) := by
  subst hp hv; exact F_by (fun _ k => XS.idiv X.at X.hx rfl (X.hb hd) rfl hy k) k
theorem F_goto (X : Ww l Z R bytes mL ret own nm p e s m args below meth c vm T cells slots) {o : Int} (hd : decode bytes pc = .ok (.goto o, 3)) {pc' : Nat} (ho : 0 ≤ (pc : Int) + o) (hp : ((pc : Int) + o).toNat = pc') (k : EndW p e below s Z Q cC cS T (mkF m pc' Ls st)) : EndW p e below s Z Q cC cS T (mkF m pc Ls st) :=
  F_by (fun _ q => XS.goto X.at X.hx rfl (pc0 := pc) rfl (X.hb hd) ho hp q) k
theorem F_ifT (X : Ww l Z R bytes mL ret own nm p e s m args below meth c vm T cells slots) {cd : ClassFile.Cond} {o : Int} {x : Int32} (hd : decode bytes pc = .ok (.ifCond cd o, 3)) (hc : ifCond.holds cd x = true) {pc' : Nat} (ho : 0 ≤ (pc : Int) + o) (hp : ((pc : Int) + o).toNat = pc') (k : EndW p e below s Z Q cC cS T (mkF m pc' Ls st)) : EndW p e below s Z Q cC cS T (mkF m pc Ls (.int x :: st)) :=
  F_by (fun _ q => XS.ifYes X.at X.hx rfl (pc0 := pc) rfl (X.hb hd) rfl hc ho hp q) k
theorem F_ifF (X : Ww l Z R bytes mL ret own nm p e s m args below meth c vm T cells slots) {cd : ClassFile.Cond} {o : Int} {x : Int32} (hd : decode bytes pc = .ok (.ifCond cd o, 3)) (hc : ifCond.holds cd x = false) {pc' : Nat} (hp : pc + 3 = pc') (k : EndW p e below s Z Q cC cS T (mkF m pc' Ls st)) : EndW p e below s Z Q cC cS T (mkF m pc Ls (.int x :: st)) := by
  subst hp; exact F_by (fun _ q => XS.ifNo X.at X.hx rfl (X.hb hd) rfl hc q) k
theorem F_icT (X : Ww l Z R bytes mL ret own nm p e s m args below meth c vm T cells slots) {cd : ClassFile.Cond} {o : Int} {x y : Int32} (hd : decode bytes pc = .ok (.if_icmp cd o, 3)) (hc : if_icmp.holds cd x y = true) {pc' : Nat} (ho : 0 ≤ (pc : Int) + o) (hp : ((pc : Int) + o).toNat = pc') (k : EndW p e below s Z Q cC cS T (mkF m pc' Ls st)) : EndW p e below s Z Q cC cS T (mkF m pc Ls (.int y :: .int x :: st)) :=
  F_by (fun _ q => XS.icmpYes X.at X.hx rfl (pc0 := pc) rfl (X.hb hd) rfl hc ho hp q) k
theorem F_icF (X : Ww l Z R bytes mL ret own nm p e s m args below meth c vm T cells slots) {cd : ClassFile.Cond} {o : Int} {x y : Int32} (hd : decode bytes pc = .ok (.if_icmp cd o, 3)) (hc : if_icmp.holds cd x y = false) {pc' : Nat} (hp : pc + 3 = pc') (k : EndW p e below s Z Q cC cS T (mkF m pc' Ls st)) : EndW p e below s Z Q cC cS T (mkF m pc Ls (.int y :: .int x :: st)) := by
  subst hp; exact F_by (fun _ q => XS.icmpNo X.at X.hx rfl (X.hb hd) rfl hc q) k
theorem F_nullT (X : Ww l Z R bytes mL ret own nm p e s m args below meth c vm T cells slots) {o : Int} (hd : decode bytes pc = .ok (.ifnull o, 3)) {pc' : Nat} (ho : 0 ≤ (pc : Int) + o) (hp : ((pc : Int) + o).toNat = pc') (k : EndW p e below s Z Q cC cS T (mkF m pc' Ls st)) : EndW p e below s Z Q cC cS T (mkF m pc Ls (.null :: st)) :=
  F_by (fun _ q => XS.ifnullYes X.at X.hx rfl (pc0 := pc) rfl (X.hb hd) rfl ho hp q) k
theorem F_nullF (X : Ww l Z R bytes mL ret own nm p e s m args below meth c vm T cells slots) {o : Int} {b : Addr} (hd : decode bytes pc = .ok (.ifnull o, 3)) {pc' : Nat} (hp : pc + 3 = pc') (k : EndW p e below s Z Q cC cS T (mkF m pc' Ls st)) : EndW p e below s Z Q cC cS T (mkF m pc Ls (.ref b :: st)) := by
  subst hp; exact F_by (fun _ q => XS.ifnullNo X.at X.hx rfl (X.hb hd) rfl q) k
theorem F_nonnullT (X : Ww l Z R bytes mL ret own nm p e s m args below meth c vm T cells slots) {o : Int} {b : Addr} (hd : decode bytes pc = .ok (.ifnonnull o, 3)) {pc' : Nat} (ho : 0 ≤ (pc : Int) + o) (hp : ((pc : Int) + o).toNat = pc') (k : EndW p e below s Z Q cC cS T (mkF m pc' Ls st)) : EndW p e below s Z Q cC cS T (mkF m pc Ls (.ref b :: st)) :=
  F_by (fun _ q => XT.nonnullYes X.at X.hx rfl (pc0 := pc) rfl (X.hb hd) rfl rfl (fun q => nomatch q) ho hp q) k
theorem F_nonnullF (X : Ww l Z R bytes mL ret own nm p e s m args below meth c vm T cells slots) {o : Int} (hd : decode bytes pc = .ok (.ifnonnull o, 3)) {pc' : Nat} (hp : pc + 3 = pc') (k : EndW p e below s Z Q cC cS T (mkF m pc' Ls st)) : EndW p e below s Z Q cC cS T (mkF m pc Ls (.null :: st)) := by
  subst hp; exact F_by (fun _ q => XT.nonnullNo X.at X.hx rfl (X.hb hd) rfl rfl q) k
theorem F_acmp (X : Ww l Z R bytes mL ret own nm p e s m args below meth c vm T cells slots) {cd : ACond} {o : Int} {x y : Value} (hd : decode bytes pc = .ok (.if_acmp cd o, 3)) (h1 : x.isRef = true) (h2 : y.isRef = true) (same : Bool) (hq : decide (x = y) = same) {pc' : Nat} (ho : 0 ≤ (pc : Int) + o) (hp : pc' = if acV cd same = true then ((pc : Int) + o).toNat else pc + 3) (k : EndW p e below s Z Q cC cS T (mkF m pc' Ls st)) : EndW p e below s Z Q cC cS T (mkF m pc Ls (y :: x :: st)) := by
  obtain ⟨_, _, locs, Y, r⟩ := id X; exact F_by (fun _ q => acmp Y X.hx rfl h1 h2 (pc0 := pc) rfl (X.hb hd) rfl hq ho hp q) k
theorem F_ldcI (X : Ww l Z R bytes mL ret own nm p e s m args below meth c vm T cells slots) {ix : Nat} {v : Int32} (hd : decode bytes pc = .ok (.ldc ix, 2)) (w : (Jvm.Cond.constant own ix v).before a0 Z = true) {pc' : Nat} (hp : pc + 2 = pc') (k : EndW p e below s Z Q cC cS T (mkF m pc' Ls (.int v :: st))) : EndW p e below s Z Q cC cS T (mkF m pc Ls st) := by
  subst hp; obtain ⟨_, _, locs, Y, r⟩ := id X; exact F_by (fun _ q => Y.ldcI X.hx X.hown (mvT X.hZ w) rfl (X.hb hd) q) k

theorem F_new (X : Ww l Z R bytes mL ret own nm p e s m args below meth c vm T cells slots) {C : String} {ix n : Nat} (hd : decode bytes pc = .ok (.new ix, 3)) (w1 : (Jvm.Cond.classLink own ix C).before a0 Z = true) (w2 : (Jvm.Cond.instantiable C n).before a0 Z = true) (w3 : (Jvm.Cond.initialized C).before a0 Z = true) (hc : cells + 1 ≤ R.cells) (hs : slots + n ≤ R.slots) {pc' : Nat} (hp : pc + 3 = pc')
    (k : ∀ (T' : State) (b : Addr), Ww l Z R bytes mL ret own nm p e s m args below meth c vm T' (cells + 1) (slots + n) → b = T.heap.size → Keep T.heap T'.heap [] → Exa Z T'.heap b C → (∀ {O nm d : String} {ty : FieldType}, Laid Z a0 C O nm d → parseFieldDescriptor d = some ty → Fld Z T'.heap b O nm d (defaultValue ty)) → EndW p e below s Z Q cC cS T' (mkF m pc' Ls (.ref b :: st))) : EndW p e below s Z Q cC cS T (mkF m pc Ls st) := by
  subst hp; obtain ⟨q0, qq, locs, Y, N, O⟩ := id X
  obtain ⟨T', h', Y', rfl, E, A, D, -, stp⟩ := newO Y X.hx X.hZ X.hown w1 w2 w3 rfl (g := mkF m pc Ls st) rfl (X.hb hd) hc hs
  exact F_by stp (k T' _ (X.go Y' N (Keep.of_ext E) all0 sf0) rfl (Keep.of_ext E) A D)
theorem F_newarray (X : Ww l Z R bytes mL ret own nm p e s m args below meth c vm T cells slots) {aty : ArrayType} {n : Int32} (cap : Nat) (hd : decode bytes pc = .ok (.newarray aty, 2)) (w : (Jvm.Cond.arrayClass (newarray.typeOf aty)).before a0 Z = true) (hn : ¬ n < 0) (hcap : n.toNatClampNeg ≤ cap) (hb : cap * 8 ≤ 536870912) (hc : cells + 1 ≤ R.cells) (hs : slots + cap ≤ R.slots) {pc' : Nat} (hp : pc + 2 = pc')
    (k : ∀ (T' : State) (b : Addr) (kA : ClassId), Ww l Z R bytes mL ret own nm p e s m args below meth c vm T' (cells + 1) (slots + cap) → b = T.heap.size → Keep T.heap T'.heap [] → Arv Z T'.heap b kA (newarray.typeOf aty) n [] (defaultValue (newarray.typeOf aty)) → EndW p e below s Z Q cC cS T' (mkF m pc' Ls (.ref b :: st))) : EndW p e below s Z Q cC cS T (mkF m pc Ls (.int n :: st)) := by
  subst hp; obtain ⟨q0, qq, locs, Y, N, O⟩ := id X
  obtain ⟨T', h', kA, Y', rfl, E, A, stp⟩ := newP Y X.hx X.hZ w rfl (g := mkF m pc Ls (.int n :: st)) rfl (X.hb hd) rfl hn hcap hb hc hs
  exact F_by stp (k T' _ kA (X.go Y' N (Keep.of_ext E) all0 sf0) rfl (Keep.of_ext E) (Arv.new A hn))
theorem F_iastore (X : Ww l Z R bytes mL ret own nm p e s m args below meth c vm T cells slots) {a : Addr} {kA : ClassId} {z j x : Int32} {vs : List Value} {dv : Value} {y : Int32} (i : Nat) (hd : decode bytes pc = .ok (.iastore, 1)) (hy : x = y) (V : Arv Z T.heap a kA .int z vs dv) (hj : ¬ j < 0 ∧ j < z) (hi : j.toNatClampNeg = i) (hl : i < vs.length) (ha : Z.heap.size ≤ a) {pc' : Nat} (hp : pc + 1 = pc')
    (k : ∀ (T' : State), Ww l Z R bytes mL ret own nm p e s m args below meth c vm T' cells slots → Keep T.heap T'.heap [a] → Arv Z T'.heap a kA .int z (vs.set i (.int y)) dv → EndW p e below s Z Q cC cS T' (mkF m pc' Ls st)) : EndW p e below s Z Q cC cS T (mkF m pc Ls (.int x :: .int j :: .ref a :: st)) := by
  subst hp hy; obtain ⟨q0, qq, locs, Y, N, O⟩ := id X
  obtain ⟨cl, A, q1, S1, N1, H1, G1⟩ := V
  obtain ⟨T', h', Y', rfl, W, stp⟩ := stI Y X.hx X.hZ rfl A (j := j) (x := x) (inb_of S1 hj) (g := mkF m pc Ls (.int x :: .int j :: .ref a :: st)) rfl rfl (X.hb hd)
  exact F_by stp (k T' (X.go Y' (Fr.snoc Y' N ha) (Keep.of_wr W) (allS ha all0) (sfS (Safe.arr X.al A (by simp)) sf0)) (Keep.of_wr W) (Arv.set A q1 S1 N1 H1 G1 (rfl) W i hi hl))
theorem F_castore (X : Ww l Z R bytes mL ret own nm p e s m args below meth c vm T cells slots) {a : Addr} {kA : ClassId} {z j x : Int32} {vs : List Value} {dv : Value} {y : Int32} (i : Nat) (hd : decode bytes pc = .ok (.castore, 1)) (hy : nar .char x = y) (V : Arv Z T.heap a kA .char z vs dv) (hj : ¬ j < 0 ∧ j < z) (hi : j.toNatClampNeg = i) (hl : i < vs.length) (ha : Z.heap.size ≤ a) {pc' : Nat} (hp : pc + 1 = pc')
    (k : ∀ (T' : State), Ww l Z R bytes mL ret own nm p e s m args below meth c vm T' cells slots → Keep T.heap T'.heap [a] → Arv Z T'.heap a kA .char z (vs.set i (.int y)) dv → EndW p e below s Z Q cC cS T' (mkF m pc' Ls st)) : EndW p e below s Z Q cC cS T (mkF m pc Ls (.int x :: .int j :: .ref a :: st)) := by
  subst hp hy; obtain ⟨q0, qq, locs, Y, N, O⟩ := id X
  obtain ⟨cl, A, q1, S1, N1, H1, G1⟩ := V
  obtain ⟨T', h', Y', rfl, W, stp⟩ := stC Y X.hx X.hZ rfl A (j := j) (x := x) (inb_of S1 hj) (g := mkF m pc Ls (.int x :: .int j :: .ref a :: st)) rfl rfl (X.hb hd)
  exact F_by stp (k T' (X.go Y' (Fr.snoc Y' N ha) (Keep.of_wr W) (allS ha all0) (sfS (Safe.arr X.al A (by simp)) sf0)) (Keep.of_wr W) (Arv.set A q1 S1 N1 H1 G1 (fits_nar_char _) W i hi hl))
theorem F_iastoreA (X : Ww l Z R bytes mL ret own nm p e s m args below meth c vm T cells slots) {a : Addr} {kA : ClassId} {z j x : Int32} {vs : List Value} {dv : Value} {y : Int32} (hd : decode bytes pc = .ok (.iastore, 1)) (hy : x = y) (V : Arv Z T.heap a kA .int z vs dv) (hj : ¬ j < 0 ∧ j < z) (hi : j.toNatClampNeg = vs.length) (ha : Z.heap.size ≤ a) {pc' : Nat} (hp : pc + 1 = pc')
    (k : ∀ (T' : State), Ww l Z R bytes mL ret own nm p e s m args below meth c vm T' cells slots → Keep T.heap T'.heap [a] → Arv Z T'.heap a kA .int z (vs ++ [.int y]) dv → EndW p e below s Z Q cC cS T' (mkF m pc' Ls st)) : EndW p e below s Z Q cC cS T (mkF m pc Ls (.int x :: .int j :: .ref a :: st)) := by
  refine F_iastore X vs.length hd hy (V.pad (pad_rep vs dv 1)) hj hi (by simp) ha hp fun T' X' K' V' => k T' X' K' ?_
  have q : (vs ++ List.replicate 1 dv).set vs.length (.int y) = vs ++ [.int y] := by simp
  rw [q] at V'; exact V'
theorem F_castoreA (X : Ww l Z R bytes mL ret own nm p e s m args below meth c vm T cells slots) {a : Addr} {kA : ClassId} {z j x : Int32} {vs : List Value} {dv : Value} {y : Int32} (hd : decode bytes pc = .ok (.castore, 1)) (hy : nar .char x = y) (V : Arv Z T.heap a kA .char z vs dv) (hj : ¬ j < 0 ∧ j < z) (hi : j.toNatClampNeg = vs.length) (ha : Z.heap.size ≤ a) {pc' : Nat} (hp : pc + 1 = pc')
    (k : ∀ (T' : State), Ww l Z R bytes mL ret own nm p e s m args below meth c vm T' cells slots → Keep T.heap T'.heap [a] → Arv Z T'.heap a kA .char z (vs ++ [.int y]) dv → EndW p e below s Z Q cC cS T' (mkF m pc' Ls st)) : EndW p e below s Z Q cC cS T (mkF m pc Ls (.int x :: .int j :: .ref a :: st)) := by
  refine F_castore X vs.length hd hy (V.pad (pad_rep vs dv 1)) hj hi (by simp) ha hp fun T' X' K' V' => k T' X' K' ?_
  have q : (vs ++ List.replicate 1 dv).set vs.length (.int y) = vs ++ [.int y] := by simp
  rw [q] at V'; exact V'
theorem F_iaload (X : Ww l Z R bytes mL ret own nm p e s m args below meth c vm T cells slots) {a : Addr} {kA : ClassId} {z j : Int32} {vs : List Value} {dv v : Value} (hd : decode bytes pc = .ok (.iaload, 1)) (V : Arv Z T.heap a kA .int z vs dv) (hj : ¬ j < 0 ∧ j < z) (hv : vs.getD j.toNatClampNeg dv = v) {pc' : Nat} (hp : pc + 1 = pc')
    (k : EndW p e below s Z Q cC cS T (mkF m pc' Ls (v :: st))) : EndW p e below s Z Q cC cS T (mkF m pc Ls (.int j :: .ref a :: st)) := by
  subst hp; obtain ⟨q0, qq, locs, Y, N, O⟩ := id X
  obtain ⟨cl, A, q1, S1, N1, H1, G1⟩ := V
  exact F_by (Y.iaload X.hx A.1 (State.isArrayOf_alike X.hZ.alike A.2.1) A.2.2 (inb_of S1 hj) (Has.at H1 (inb_of S1 hj) hv) (g := mkF m pc Ls (.int j :: .ref a :: st)) rfl rfl (X.hb hd)) k
theorem F_caload (X : Ww l Z R bytes mL ret own nm p e s m args below meth c vm T cells slots) {a : Addr} {kA : ClassId} {z j : Int32} {vs : List Value} {dv v : Value} (hd : decode bytes pc = .ok (.caload, 1)) (V : Arv Z T.heap a kA .char z vs dv) (hj : ¬ j < 0 ∧ j < z) (hv : vs.getD j.toNatClampNeg dv = v) {pc' : Nat} (hp : pc + 1 = pc')
    (k : EndW p e below s Z Q cC cS T (mkF m pc' Ls (v :: st))) : EndW p e below s Z Q cC cS T (mkF m pc Ls (.int j :: .ref a :: st)) := by
  subst hp; obtain ⟨q0, qq, locs, Y, N, O⟩ := id X
  obtain ⟨cl, A, q1, S1, N1, H1, G1⟩ := V
  exact F_by (Y.caload X.hx A.1 (State.isArrayOf_alike X.hZ.alike A.2.1) A.2.2 (inb_of S1 hj) (Has.at H1 (inb_of S1 hj) hv) (g := mkF m pc Ls (.int j :: .ref a :: st)) rfl rfl (X.hb hd)) k
theorem F_baload (X : Ww l Z R bytes mL ret own nm p e s m args below meth c vm T cells slots) {a : Addr} {kA : ClassId} {z j : Int32} {vs : List Value} {dv v : Value} (hd : decode bytes pc = .ok (.baload, 1)) (V : Arv Z T.heap a kA .byte z vs dv) (hj : ¬ j < 0 ∧ j < z) (hv : vs.getD j.toNatClampNeg dv = v) {pc' : Nat} (hp : pc + 1 = pc')
    (k : EndW p e below s Z Q cC cS T (mkF m pc' Ls (v :: st))) : EndW p e below s Z Q cC cS T (mkF m pc Ls (.int j :: .ref a :: st)) := by
  subst hp; obtain ⟨q0, qq, locs, Y, N, O⟩ := id X
  obtain ⟨cl, A, q1, S1, N1, H1, G1⟩ := V
  exact F_by (Y.baloadBytes X.hx A.1 (State.isArrayOf_alike X.hZ.alike A.2.1) A.2.2 (inb_of S1 hj) (Has.at H1 (inb_of S1 hj) hv) (g := mkF m pc Ls (.int j :: .ref a :: st)) rfl rfl (X.hb hd)) k
theorem F_aaload (X : Ww l Z R bytes mL ret own nm p e s m args below meth c vm T cells slots) {a : Addr} {kA : ClassId} {z j : Int32} {vs : List Value} {dv v : Value} {ty : FieldType} (hd : decode bytes pc = .ok (.aaload, 1)) (V : Arv Z T.heap a kA ty z vs dv) (hty : ty.isReference = true) (hj : ¬ j < 0 ∧ j < z) (hv : vs.getD j.toNatClampNeg dv = v) {pc' : Nat} (hp : pc + 1 = pc')
    (k : EndW p e below s Z Q cC cS T (mkF m pc' Ls (v :: st))) : EndW p e below s Z Q cC cS T (mkF m pc Ls (.int j :: .ref a :: st)) := by
  subst hp; obtain ⟨q0, qq, locs, Y, N, O⟩ := id X
  obtain ⟨cl, A, q1, S1, N1, H1, G1⟩ := V
  exact F_by (Y.aaload X.hx A.1 (State.isArrayOf_alike X.hZ.alike A.2.1) hty A.2.2 (inb_of S1 hj) (Has.at H1 (inb_of S1 hj) hv) (g := mkF m pc Ls (.int j :: .ref a :: st)) rfl rfl (X.hb hd)) k
theorem F_arraylength (X : Ww l Z R bytes mL ret own nm p e s m args below meth c vm T cells slots) {a : Addr} {kA : ClassId} {z : Int32} {vs : List Value} {dv : Value} {ty : FieldType} (hd : decode bytes pc = .ok (.arraylength, 1)) (V : Arv Z T.heap a kA ty z vs dv) {pc' : Nat} (hp : pc + 1 = pc')
    (k : EndW p e below s Z Q cC cS T (mkF m pc' Ls (.int z :: st))) : EndW p e below s Z Q cC cS T (mkF m pc Ls (.ref a :: st)) := by
  subst hp; obtain ⟨q0, qq, locs, Y, N, O⟩ := id X
  obtain ⟨cl, A, q1, S1, N1, H1, G1⟩ := V
  refine F_by (Y.arraylength X.hx A.1 (State.isArrayOf_alike X.hZ.alike A.2.1) (g := mkF m pc Ls (.ref a :: st)) rfl rfl (X.hb hd)) ?_
  rw [len_of S1 N1]; exact k
theorem F_getfield (X : Ww l Z R bytes mL ret own nm p e s m args below meth c vm T cells slots) {a : Addr} {O n d R0 : String} {ix : Nat} {v : Value} (hd : decode bytes pc = .ok (.getfield ix, 3)) (w : (Jvm.Cond.fieldLink own ix R0 n d).before a0 Z = true) (via : Via Z R0 O n d) (F : Fld Z T.heap a O n d v) {pc' : Nat} (hp : pc + 3 = pc')
    (k : ∀ (T' : State), Ww l Z R bytes mL ret own nm p e s m args below meth c vm T' cells slots → T'.heap = T.heap → EndW p e below s Z Q cC cS T' (mkF m pc' Ls (v :: st))) : EndW p e below s Z Q cC cS T (mkF m pc Ls (.ref a :: st)) := by
  subst hp; obtain ⟨q0, qq, locs, Y, N, Od⟩ := id X
  obtain ⟨T', Y', e1, stp⟩ := getF Y X.hx X.hZ X.hown (host := "") (Or.inl w) via rfl F (g := mkF m pc Ls (.ref a :: st)) rfl rfl (X.hb hd)
  exact F_by stp (k T' (X.go Y' N (own_ks e1) all0 sf0) e1)
theorem F_getstatic (X : Ww l Z R bytes mL ret own nm p e s m args below meth c vm T cells slots) {O n d R0 : String} {ix : Nat} {v : Value} (hd : decode bytes pc = .ok (.getstatic ix, 3)) (w : (Jvm.Cond.fieldLink own ix R0 n d).before a0 Z = true) (via : Via Z R0 O n d) (F : Sta Z Z.heap O n d v) {pc' : Nat} (hp : pc + 3 = pc')
    (k : ∀ (T' : State), Ww l Z R bytes mL ret own nm p e s m args below meth c vm T' cells slots → T'.heap = T.heap → EndW p e below s Z Q cC cS T' (mkF m pc' Ls (v :: st))) : EndW p e below s Z Q cC cS T (mkF m pc Ls st) := by
  subst hp; obtain ⟨q0, qq, locs, Y, N, Od⟩ := id X
  obtain ⟨T', Y', e1, stp⟩ := getS Y X.hx X.hZ (host := "") X.hown w via rfl (F.ext Od) (g := mkF m pc Ls st) rfl (X.hb hd)
  exact F_by stp (k T' (X.go Y' N (own_ks e1) all0 sf0) e1)
theorem F_putfield (X : Ww l Z R bytes mL ret own nm p e s m args below meth c vm T cells slots) {a : Addr} {O n d R0 C : String} {ix kk : Nat} {v old : Value} {ty : FieldType} (hd : decode bytes pc = .ok (.putfield ix, 3)) (w : (Jvm.Cond.fieldLink own ix R0 n d).before a0 Z = true) (via : Via Z R0 O n d) (F : Fld Z T.heap a O n d old) (E : Exa Z T.heap a C) (L : (Jvm.Cond.lays C O n d).before a0 Z = true ∨ ((Jvm.Cond.laysFinal C O n d).before a0 Z = true ∧ own = O ∧ nm = "<init>")) (wi : (Jvm.Cond.instantiable C kk).before a0 Z = true) (hty : parseFieldDescriptor d = some ty) (hn : narrow ty v = v) (hf : fits ty v = true) (ha : Z.heap.size ≤ a) (hsf : Safe Z EL vm T.heap a) {pc' : Nat} (hp : pc + 3 = pc')
    (k : ∀ (T' : State), Ww l Z R bytes mL ret own nm p e s m args below meth c vm T' cells slots → Wr T.heap T'.heap a (Jvm.RoadKit.slotOf Z O n d) v → EndW p e below s Z Q cC cS T' (mkF m pc' Ls st)) : EndW p e below s Z Q cC cS T (mkF m pc Ls (v :: .ref a :: st)) := by
  subst hp; obtain ⟨q0, qq, locs, Y, N, Od⟩ := id X
  obtain ⟨T', h', Y', rfl, W, stp⟩ := putF Y X.hx X.hZ X.hown (host := "") (Or.inl w) via rfl F E (L.imp id fun q => ⟨q.1, q.2.1, q0.2.2.2.2.2.2.1.trans q.2.2⟩) wi hty hn hf (g := mkF m pc Ls (v :: .ref a :: st)) rfl rfl (X.hb hd)
  exact F_by stp (k T' (X.go Y' (Fr.snoc Y' N ha) (Keep.of_wr W) (allS ha all0) (sfS hsf sf0)) W)
theorem F_initO (X : Ww l Z R bytes mL ret own nm p e s m args below meth c vm T cells slots) {a : Addr} {ix : Nat} (hd : decode bytes pc = .ok (.invokespecial ix, 3)) (w1 : (Jvm.Cond.methodLink own ix Lib.objectInit).before a0 Z = true) (w2 : (Jvm.Cond.instanceMethod Lib.objectInit).before a0 Z = true) (w3 : (Jvm.Cond.code Lib.objectInit ⟨#[0xb1]⟩ 1 none).before a0 Z = true) (hsz : Ls.size = mL) (hf : 1 ≤ R.frames) (hl : (st.map fun v => v.category).sum + 12 ≤ R.locals) {pc' : Nat} (hp : pc + 3 = pc')
    (k : ∀ (T' : State), Ww l Z R bytes mL ret own nm p e s m args below meth c vm T' cells slots → T'.heap = T.heap → EndW p e below s Z Q cC cS T' (mkF m pc' Ls st)) : EndW p e below s Z Q cC cS T (mkF m pc Ls (.ref a :: st)) := by
  subst hp; obtain ⟨q0, qq, locs, Y, N, Od⟩ := id X
  obtain ⟨T', Y', e1, stp⟩ := initO Y X.hx X.hZ X.hown w1 w2 w3 rfl (g := mkF m pc Ls (.ref a :: st)) rfl (X.size hsz) rfl (X.hb hd) hf (W := (st.map fun v => v.category).sum) (by show 2 * 0 + _ ≤ _; omega) hl
  exact F_by stp (k T' (X.go Y' N (own_ks e1) all0 sf0) e1)
theorem F_checkcast (X : Ww l Z R bytes mL ret own nm p e s m args below meth c vm T cells slots) {a : Addr} {K : String} {ix : Nat} (hd : decode bytes pc = .ok (.checkcast ix, 3)) (w : (Jvm.Cond.classLink own ix K).before a0 Z = true) (F : Ins Z T.heap a K true) {pc' : Nat} (hp : pc + 3 = pc')
    (k : ∀ (T' : State), Ww l Z R bytes mL ret own nm p e s m args below meth c vm T' cells slots → T'.heap = T.heap → EndW p e below s Z Q cC cS T' (mkF m pc' Ls (.ref a :: st))) : EndW p e below s Z Q cC cS T (mkF m pc Ls (.ref a :: st)) := by
  subst hp; obtain ⟨q0, qq, locs, Y, N, Od⟩ := id X
  obtain ⟨T', Y', e1, stp⟩ := castY Y X.hx X.hZ X.hown w rfl F (g := mkF m pc Ls (.ref a :: st)) rfl rfl (X.hb hd)
  exact F_by stp (k T' (X.go Y' N (own_ks e1) all0 sf0) e1)
theorem F_instY (X : Ww l Z R bytes mL ret own nm p e s m args below meth c vm T cells slots) {a : Addr} {K : String} {ix : Nat} (hd : decode bytes pc = .ok (.instanceof ix, 3)) (w : (Jvm.Cond.classLink own ix K).before a0 Z = true) (F : Ins Z T.heap a K true) {pc' : Nat} (hp : pc + 3 = pc')
    (k : ∀ (T' : State), Ww l Z R bytes mL ret own nm p e s m args below meth c vm T' cells slots → T'.heap = T.heap → EndW p e below s Z Q cC cS T' (mkF m pc' Ls (.int 1 :: st))) : EndW p e below s Z Q cC cS T (mkF m pc Ls (.ref a :: st)) := by
  subst hp; obtain ⟨q0, qq, locs, Y, N, Od⟩ := id X
  obtain ⟨T', Y', e1, stp⟩ := instY Y X.hx X.hZ X.hown w rfl F (g := mkF m pc Ls (.ref a :: st)) rfl rfl (X.hb hd)
  exact F_by stp (k T' (X.go Y' N (own_ks e1) all0 sf0) e1)

theorem F_ldcS (X : Ww l Z R bytes mL ret own nm p e s m args below meth c vm T cells slots) {ix n : Nat} {text : String} {vs : List Value} {z : Int32} (hd : decode bytes pc = .ok (.ldc ix, 2)) (w : (Jvm.Cond.stringLink own ix text).before a0 Z = true) (wS : ∀ a ∈ Bundle.stringAtoms, a.before a0 Z = true) (hE : EW Z a0 EL) (hmem : (own, ix) ∈ EL) (ht : (∀ c ∈ text.toList, c.toNat < 256) ∧ text.toList.map (fun c => Value.int (Jvm.Lit.byteI c.toNat.toUInt16)) = vs) (hz : ¬ z < 0) (hl : z.toNatClampNeg = vs.length) (hn : 4 * text.toList.length ≤ n) (hbig : n ≤ 536870912) (hc : cells + 2 ≤ R.cells) (hs : slots + (n + 4) ≤ R.slots) {pc' : Nat} (hp : pc + 2 = pc')
    (k : ∀ (T' : State) (a b : Addr) (kb : ClassId), Ww l Z R bytes mL ret own nm p e s m args below meth c T'.vm T' (cells + 2) (slots + (n + 4)) → Keep T.heap T'.heap [] → Exa Z T'.heap a "java/lang/String" → Fld Z T'.heap a "java/lang/String" "coder" "B" (.int 0) → Fld Z T'.heap a "java/lang/String" "value" "[B" (.ref b) → Arv Z T'.heap b kb .byte z vs (.int 0) → (∀ x, x < T.heap.size → Safe Z EL vm T.heap x → Safe Z EL T'.vm T'.heap x ∧ x ≠ a ∧ x ≠ b) → EndW p e below s Z Q cC cS T' (mkF m pc' Ls (.ref a :: st))) : EndW p e below s Z Q cC cS T (mkF m pc Ls st) := by
  subst hp; obtain ⟨q0, ⟨⟨k0, hS, hk⟩, hE1, hC⟩, locs, Y, N, O⟩ := id X
  obtain ⟨a, T', h', k1, b, kb, Y', rfl, E, hS', hk', hW', hf', x1, x2, x3, x4, l1, l2, hC', hL, hsf, stp⟩ := ldcCH Y X.hx X.hZ X.hown w wS rfl hS hk hE hmem X.ch ht hz hl (g := mkF m pc Ls st) rfl (X.hb hd) hn hbig hc hs
  refine F_by stp (k T' a b kb ⟨⟨q0.1, q0.2.1, q0.2.2.1, q0.2.2.2.1, q0.2.2.2.2.1, hf', q0.2.2.2.2.2.2.1, hW'⟩, ⟨⟨k1, hS', hk'⟩, hE1, hC.trans hC'⟩, locs, Y', N, Keep.old O (Keep.of_ext E) all0⟩ (Keep.of_ext E) x1 x2 x3 x4 fun x hx hs => ?_)
  have q := hC'.safe hx hs
  exact ⟨q, hsf x q⟩
theorem F_staticB (X : Ww l Z R bytes mL ret own nm p e s m args below meth c vm T cells slots) {y : MethodName} {ix : Nat} {bytes' : ByteArray} {mL' : Nat} {ret' : Option FieldType} {Q' : Option Value → Heap → Prop} {argsL : List Value} {Q2 : Option Value → Heap → List Loc → Prop} {rC rS : Nat} (hd : decode bytes pc = .ok (.invokestatic ix, 3)) (w1 : (Jvm.Cond.methodLink own ix y).before a0 Z = true) (w2 : (Jvm.Cond.static y).before a0 Z = true) (w3 : (Jvm.Cond.initialized y.cls).before a0 Z = true) (w4 : (Jvm.Cond.code y bytes' mL' ret').before a0 Z = true) (hy : y.cls ≠ "java/lang/invoke/MethodHandle" ∧ y.cls ≠ "java/lang/invoke/VarHandle") {st0 : List Value} (hst : st0 = argsL.reverse ++ st) (hK : Back l R p e below (s.setVm vm) args y 3 ((st.map fun v => v.category).sum) (fun A aa => aa = argsL.toArray ∧ A.U.heap = T.heap ∧ A.cells + rC ≤ R.cells ∧ A.slots + rS ≤ R.slots) (fun A _ v B => ∃ L, Q2 v B.U.heap L ∧ B.locs = A.locs ++ L ∧ B.cells = A.cells + rC ∧ B.slots = A.slots + rS)) (hQ2 : ∀ v h L, Q2 v h L → Fr Z.heap.size L ∧ Ext Z.heap h ∧ Q' v h) (hlen : ∀ sig, parseMethodDescriptor y.desc = some sig → argsL.length = sig.parameters.length) (hsz : Ls.size = mL) (hcl : cells + rC ≤ R.cells) (hsl : slots + rS ≤ R.slots) (ws : List Addr) (hkp : ∀ v h, Q' v h → Keep T.heap h ws) (hsf : ∀ x ∈ ws, Safe Z EL vm T.heap x) {pc' : Nat} (hp : pc + 3 = pc')
    (k : ∀ (T' : State) (v : Option Value), Ww l Z R bytes mL ret own nm p e s m args below meth c vm T' (cells + rC) (slots + rS) → Q' v T'.heap → EndW p e below s Z Q cC cS T' (mkF m pc' Ls (v.toList ++ st))) : EndW p e below s Z Q cC cS T (mkF m pc Ls st0) := by
  subst hp hst; obtain ⟨q0, qq, locs, Y, N, Od⟩ := id X
  obtain ⟨v, _, ⟨T', L1, k1, n1⟩, -, Y', ⟨Lc, hQ, l1, y1, z1⟩, stp⟩ := Jvm.LawKit.callS Y X.hx (y := y) X.hown (mvT X.hZ w1) (mvT X.hZ w2) (mvT X.hZ w3) (mvT X.hZ w4) hy hK (g := mkF m pc Ls (argsL.reverse ++ st)) rfl (X.size hsz) (argsL := argsL) (rest := st) hlen rfl (by show 2 * 0 + _ ≤ _; omega) (X.hb hd) (fun _ _ => ⟨rfl, rfl, hcl, hsl⟩)
  dsimp only [Pt.U, Pt.locs, Pt.cells, Pt.slots] at Y' l1 y1 z1 stp hQ
  subst l1 y1 z1
  obtain ⟨f1, f2, f3⟩ := hQ2 _ _ _ hQ
  exact F_by stp (k T' v (X.go2 Y' (Fr.app N f1) f2 (hkp _ _ f3) hsf) f3)

theorem F_static (X : Ww l Z R bytes mL ret own nm p e s m args below meth c vm T cells slots) {y : MethodName} {ix : Nat} {bytes' : ByteArray} {mL' : Nat} {ret' : Option FieldType} {Q' : Option Value → Heap → Prop} {argsL : List Value} {rm : Room} (hd : decode bytes pc = .ok (.invokestatic ix, 3)) (w1 : (Jvm.Cond.methodLink own ix y).before a0 Z = true) (w2 : (Jvm.Cond.static y).before a0 Z = true) (w3 : (Jvm.Cond.initialized y.cls).before a0 Z = true) (w4 : (Jvm.Cond.code y bytes' mL' ret').before a0 Z = true) (hy : y.cls ≠ "java/lang/invoke/MethodHandle" ∧ y.cls ≠ "java/lang/invoke/VarHandle")  {st0 : List Value} (hst : st0 = argsL.reverse ++ st) (hC : Ct l Z y bytes' mL' ret' rm argsL.toArray T.heap Q') (hlen : ∀ sig, parseMethodDescriptor y.desc = some sig → argsL.length = sig.parameters.length) (hsz : Ls.size = mL) (hcl : cells + rm.cells ≤ R.cells) (hsl : slots + rm.slots ≤ R.slots) (hfr : rm.frames + 1 ≤ R.frames) (hlo : (st.map fun v => v.category).sum + (mL' + 11) + rm.locals ≤ R.locals) (ws : List Addr) (hkp : ∀ v h, Q' v h → Keep T.heap h ws) (hsf : ∀ x ∈ ws, Safe Z EL vm T.heap x) {pc' : Nat} (hp : pc + 3 = pc')
    (k : ∀ (T' : State) (v : Option Value), Ww l Z R bytes mL ret own nm p e s m args below meth c vm T' (cells + rm.cells) (slots + rm.slots) → Q' v T'.heap → EndW p e below s Z Q cC cS T' (mkF m pc' Ls (v.toList ++ st))) : EndW p e below s Z Q cC cS T (mkF m pc Ls st0) :=
  F_staticB X hd w1 w2 w3 w4 hy hst (hC.back X.hZ w4 w3 hfr hlo) (fun _ _ _ q => q) hlen hsz hcl hsl ws hkp hsf hp k

theorem G_static (X : Ww l Z R bytes mL ret own nm p e s m args below meth c vm T cells slots) {y : MethodName} {ix : Nat} {bytes' : ByteArray} {mL' : Nat} {ret' : Option FieldType} {Q' : Option Value → Heap → Prop} {argsL : List Value} {rm : Room} (hd : decode bytes pc = .ok (.invokestatic ix, 3)) (w1 : (Jvm.Cond.methodLink own ix y).before a0 Z = true) (w2 : (Jvm.Cond.static y).before a0 Z = true) (w3 : (Jvm.Cond.initialized y.cls).before a0 Z = true) (w4 : (Jvm.Cond.code y bytes' mL' ret').before a0 Z = true) (hy : y.cls ≠ "java/lang/invoke/MethodHandle" ∧ y.cls ≠ "java/lang/invoke/VarHandle")  {st0 : List Value} (hst : st0 = argsL.reverse ++ st) (hC : CtW l Z y bytes' mL' ret' rm argsL.toArray T.heap Q') (hlen : ∀ sig, parseMethodDescriptor y.desc = some sig → argsL.length = sig.parameters.length) (hsz : Ls.size = mL) (hcl : cells + rm.cells ≤ R.cells) (hsl : slots + rm.slots ≤ R.slots) (hfr : rm.frames + 1 ≤ R.frames) (hlo : (st.map fun v => v.category).sum + (mL' + 11) + rm.locals ≤ R.locals) {pc' : Nat} (hp : pc + 3 = pc')
    (k : ∀ (T' : State) (v : Option Value), Ww l Z R bytes mL ret own nm p e s m args below meth c T'.vm T' (cells + rm.cells) (slots + rm.slots) → Q' v T'.heap → (∀ x, x < T.heap.size → Safe Z EL vm T.heap x → Safe Z EL T'.vm T'.heap x) → EndW p e below s Z Q cC cS T' (mkF m pc' Ls (v.toList ++ st))) : EndW p e below s Z Q cC cS T (mkF m pc Ls st0) := by
  subst hp hst; obtain ⟨q0, ⟨⟨k0, hS, hk⟩, ⟨a1, hE1⟩, hC0⟩, locs, Y, N, Od⟩ := id X
  obtain ⟨v, _, ⟨T', L1, k1, n1⟩, -, Y', hS2, hgr, ⟨Lc, hQ, l1, y1, z1, hC1⟩, stp⟩ := callSS Y X.hx (y := y) X.hown (mvT (s := s.setVm vm) X.hZ w1) (mvT (s := s.setVm vm) X.hZ w2) (mvT (s := s.setVm vm) X.hZ w3) (mvT (s := s.setVm vm) X.hZ w4) hy (hC.back X.hZ w4 w3 hfr hlo hE1 X.ch) (g := mkF m pc Ls (argsL.reverse ++ st)) rfl (X.size hsz) (argsL := argsL) (rest := st) hlen rfl (by show 2 * 0 + _ ≤ _; omega) (X.hb hd) (fun _ _ => ⟨rfl, rfl, hcl, hsl⟩)
  dsimp only [Pt.U, Pt.locs, Pt.cells, Pt.slots] at Y' l1 y1 z1 stp hQ hS2 hgr hC1
  subst l1 y1 z1
  have hW2 : Z.Warmed39 T'.vm := State.Warmed39.trans (t := s.setVm vm) X.hZ hS2.1
  have hf2 : T'.vm.findClass own = some m.cls := by rw [hS2.1.alike.findClass]; exact X.hown
  exact F_tr stp (k T' v ⟨⟨q0.1, q0.2.1, q0.2.2.1, q0.2.2.2.1, q0.2.2.2.2.1, hf2, q0.2.2.2.2.2.2.1, hW2⟩, ⟨⟨_, foldS hS hk hS2 hgr, Nat.le_refl _⟩, ⟨a1, hE1⟩, hC0.trans hC1⟩, _, Y', Fr.app N hQ.1, hQ.2.1⟩ hQ.2.2 (fun x hx hs => hC1.safe hx hs))

theorem F_specialB (X : Ww l Z R bytes mL ret own nm p e s m args below meth c vm T cells slots) {y : MethodName} {ix : Nat} {bytes' : ByteArray} {mL' : Nat} {ret' : Option FieldType} {Q' : Option Value → Heap → Prop} {argsL : List Value} {Q2 : Option Value → Heap → List Loc → Prop} {rC rS : Nat} {a : Addr} (hd : decode bytes pc = .ok (.invokespecial ix, 3)) (hy1 : y.name = "<init>") (hret : ret' = none) (w1 : (Jvm.Cond.methodLink own ix y).before a0 Z = true) (w2 : (Jvm.Cond.instanceMethod y).before a0 Z = true) (w4 : (Jvm.Cond.code y bytes' mL' ret').before a0 Z = true) (hy : y.cls ≠ "java/lang/invoke/MethodHandle" ∧ y.cls ≠ "java/lang/invoke/VarHandle") {st0 : List Value} (hst : st0 = argsL.reverse ++ .ref a :: st) (hK : Back l R p e below (s.setVm vm) args y 3 ((st.map fun v => v.category).sum) (fun A aa => aa = (.ref a :: argsL).toArray ∧ A.U.heap = T.heap ∧ A.cells + rC ≤ R.cells ∧ A.slots + rS ≤ R.slots) (fun A _ v B => ∃ L, Q2 v B.U.heap L ∧ B.locs = A.locs ++ L ∧ B.cells = A.cells + rC ∧ B.slots = A.slots + rS)) (hQ2 : ∀ v h L, Q2 v h L → Fr Z.heap.size L ∧ Ext Z.heap h ∧ Q' v h) (hlen : ∀ sig, parseMethodDescriptor y.desc = some sig → argsL.length = sig.parameters.length) (hsz : Ls.size = mL) (hcl : cells + rC ≤ R.cells) (hsl : slots + rS ≤ R.slots) (ws : List Addr) (hkp : ∀ v h, Q' v h → Keep T.heap h ws) (hsf : ∀ x ∈ ws, Safe Z EL vm T.heap x) {pc' : Nat} (hp : pc + 3 = pc')
    (k : ∀ (T' : State) (v : Option Value), Ww l Z R bytes mL ret own nm p e s m args below meth c vm T' (cells + rC) (slots + rS) → Q' v T'.heap → EndW p e below s Z Q cC cS T' (mkF m pc' Ls (v.toList ++ st))) : EndW p e below s Z Q cC cS T (mkF m pc Ls st0) := by
  subst hp hst; obtain ⟨q0, qq, locs, Y, N, Od⟩ := id X
  subst hret
  obtain ⟨v, _, ⟨T', L1, k1, n1⟩, -, Y', ⟨Lc, hQ, l1, y1, z1⟩, stp⟩ := Y.specialBack X.hx (y := y) hy1 X.hown (mvT X.hZ w1) (mvT X.hZ w2) (mvT X.hZ w4) hy hK (g := mkF m pc Ls (argsL.reverse ++ .ref a :: st)) rfl (X.size hsz) (Steps.refl _) (a := a) (argsL := argsL) (rest := st) hlen rfl (by show 2 * 0 + _ ≤ _; omega) (X.hb hd) (fun _ _ => ⟨rfl, rfl, hcl, hsl⟩)
  dsimp only [Pt.U, Pt.locs, Pt.cells, Pt.slots] at Y' l1 y1 z1 stp hQ
  subst l1 y1 z1
  obtain ⟨f1, f2, f3⟩ := hQ2 _ _ _ hQ
  exact F_tr stp (k T' v (X.go2 Y' (Fr.app N f1) f2 (hkp _ _ f3) hsf) f3)

theorem F_special (X : Ww l Z R bytes mL ret own nm p e s m args below meth c vm T cells slots) {y : MethodName} {ix : Nat} {bytes' : ByteArray} {mL' : Nat} {ret' : Option FieldType} {Q' : Option Value → Heap → Prop} {argsL : List Value} {rm : Room} {a : Addr} (hd : decode bytes pc = .ok (.invokespecial ix, 3)) (hy1 : y.name = "<init>") (hret : ret' = none) (w1 : (Jvm.Cond.methodLink own ix y).before a0 Z = true) (w2 : (Jvm.Cond.instanceMethod y).before a0 Z = true) (w4 : (Jvm.Cond.code y bytes' mL' ret').before a0 Z = true) (hy : y.cls ≠ "java/lang/invoke/MethodHandle" ∧ y.cls ≠ "java/lang/invoke/VarHandle") (w3 : (Jvm.Cond.initialized y.cls).before a0 Z = true) {st0 : List Value} (hst : st0 = argsL.reverse ++ .ref a :: st) (hC : Ct l Z y bytes' mL' ret' rm (.ref a :: argsL).toArray T.heap Q') (hlen : ∀ sig, parseMethodDescriptor y.desc = some sig → argsL.length = sig.parameters.length) (hsz : Ls.size = mL) (hcl : cells + rm.cells ≤ R.cells) (hsl : slots + rm.slots ≤ R.slots) (hfr : rm.frames + 1 ≤ R.frames) (hlo : (st.map fun v => v.category).sum + (mL' + 11) + rm.locals ≤ R.locals) (ws : List Addr) (hkp : ∀ v h, Q' v h → Keep T.heap h ws) (hsf : ∀ x ∈ ws, Safe Z EL vm T.heap x) {pc' : Nat} (hp : pc + 3 = pc')
    (k : ∀ (T' : State) (v : Option Value), Ww l Z R bytes mL ret own nm p e s m args below meth c vm T' (cells + rm.cells) (slots + rm.slots) → Q' v T'.heap → EndW p e below s Z Q cC cS T' (mkF m pc' Ls (v.toList ++ st))) : EndW p e below s Z Q cC cS T (mkF m pc Ls st0) :=
  F_specialB X hd hy1 hret w1 w2 w4 hy hst (hC.back X.hZ w4 w3 hfr hlo) (fun _ _ _ q => q) hlen hsz hcl hsl ws hkp hsf hp k

theorem G_special (X : Ww l Z R bytes mL ret own nm p e s m args below meth c vm T cells slots) {y : MethodName} {ix : Nat} {bytes' : ByteArray} {mL' : Nat} {ret' : Option FieldType} {Q' : Option Value → Heap → Prop} {argsL : List Value} {rm : Room} {a : Addr} (hd : decode bytes pc = .ok (.invokespecial ix, 3)) (hy1 : y.name = "<init>") (hret : ret' = none) (w1 : (Jvm.Cond.methodLink own ix y).before a0 Z = true) (w2 : (Jvm.Cond.instanceMethod y).before a0 Z = true) (w4 : (Jvm.Cond.code y bytes' mL' ret').before a0 Z = true) (hy : y.cls ≠ "java/lang/invoke/MethodHandle" ∧ y.cls ≠ "java/lang/invoke/VarHandle") (w3 : (Jvm.Cond.initialized y.cls).before a0 Z = true) {st0 : List Value} (hst : st0 = argsL.reverse ++ .ref a :: st) (hC : CtW l Z y bytes' mL' ret' rm (.ref a :: argsL).toArray T.heap Q') (hlen : ∀ sig, parseMethodDescriptor y.desc = some sig → argsL.length = sig.parameters.length) (hsz : Ls.size = mL) (hcl : cells + rm.cells ≤ R.cells) (hsl : slots + rm.slots ≤ R.slots) (hfr : rm.frames + 1 ≤ R.frames) (hlo : (st.map fun v => v.category).sum + (mL' + 11) + rm.locals ≤ R.locals) {pc' : Nat} (hp : pc + 3 = pc')
    (k : ∀ (T' : State) (v : Option Value), Ww l Z R bytes mL ret own nm p e s m args below meth c T'.vm T' (cells + rm.cells) (slots + rm.slots) → Q' v T'.heap → (∀ x, x < T.heap.size → Safe Z EL vm T.heap x → Safe Z EL T'.vm T'.heap x) → EndW p e below s Z Q cC cS T' (mkF m pc' Ls (v.toList ++ st))) : EndW p e below s Z Q cC cS T (mkF m pc Ls st0) := by
  subst hp hst; obtain ⟨q0, ⟨⟨k0, hS, hk⟩, ⟨a1, hE1⟩, hC0⟩, locs, Y, N, Od⟩ := id X
  subst hret
  obtain ⟨v, _, ⟨T', L1, k1, n1⟩, -, Y', hS2, hgr, ⟨Lc, hQ, l1, y1, z1, hC1⟩, stp⟩ := Y.specialBackS X.hx (y := y) hy1 X.hown (mvT (s := s.setVm vm) X.hZ w1) (mvT (s := s.setVm vm) X.hZ w2) (mvT (s := s.setVm vm) X.hZ w4) hy (hC.back X.hZ w4 w3 hfr hlo hE1 X.ch) (g := mkF m pc Ls (argsL.reverse ++ .ref a :: st)) rfl (X.size hsz) (Steps.refl _) (a := a) (argsL := argsL) (rest := st) hlen rfl (by show 2 * 0 + _ ≤ _; omega) (X.hb hd) (fun _ _ => ⟨rfl, rfl, hcl, hsl⟩)
  dsimp only [Pt.U, Pt.locs, Pt.cells, Pt.slots] at Y' l1 y1 z1 stp hQ hS2 hgr hC1
  subst l1 y1 z1
  have hW2 : Z.Warmed39 T'.vm := State.Warmed39.trans (t := s.setVm vm) X.hZ hS2.1
  have hf2 : T'.vm.findClass own = some m.cls := by rw [hS2.1.alike.findClass]; exact X.hown
  exact F_tr stp (k T' v ⟨⟨q0.1, q0.2.1, q0.2.2.1, q0.2.2.2.1, q0.2.2.2.2.1, hf2, q0.2.2.2.2.2.2.1, hW2⟩, ⟨⟨_, foldS hS hk hS2 hgr, Nat.le_refl _⟩, ⟨a1, hE1⟩, hC0.trans hC1⟩, _, Y', Fr.app N hQ.1, hQ.2.1⟩ hQ.2.2 (fun x hx hs => hC1.safe hx hs))

theorem F_virtualB (X : Ww l Z R bytes mL ret own nm p e s m args below meth c vm T cells slots) {y : MethodName} {ix : Nat} {Q' : Option Value → Heap → Prop} {argsL : List Value} {Q2 : Option Value → Heap → List Loc → Prop} {rC rS : Nat} {a : Addr} {z : MethodName} {D : String} (hd : decode bytes pc = .ok (.invokevirtual ix, 3)) (w1 : (Jvm.Cond.methodLink own ix y).before a0 Z = true) (w2 : (Jvm.Cond.declares y).before a0 Z = true) (w5 : (Jvm.Cond.selects D y z).before a0 Z = true) (w6 : (Jvm.Cond.instanceMethod z).before a0 Z = true) (hnf : NotFace (s.setVm vm) y) (hy : y.cls ≠ "java/lang/invoke/MethodHandle" ∧ y.cls ≠ "java/lang/invoke/VarHandle") (E : Exa Z T.heap a D) {st0 : List Value} (hst : st0 = argsL.reverse ++ .ref a :: st) (hK : Back l R p e below (s.setVm vm) args z 3 ((st.map fun v => v.category).sum) (fun A aa => aa = (.ref a :: argsL).toArray ∧ A.U.heap = T.heap ∧ A.cells + rC ≤ R.cells ∧ A.slots + rS ≤ R.slots) (fun A _ v B => ∃ L, Q2 v B.U.heap L ∧ B.locs = A.locs ++ L ∧ B.cells = A.cells + rC ∧ B.slots = A.slots + rS)) (hQ2 : ∀ v h L, Q2 v h L → Fr Z.heap.size L ∧ Ext Z.heap h ∧ Q' v h) (hlen : ∀ sig, parseMethodDescriptor y.desc = some sig → argsL.length = sig.parameters.length) (hsz : Ls.size = mL) (hcl : cells + rC ≤ R.cells) (hsl : slots + rS ≤ R.slots) (ws : List Addr) (hkp : ∀ v h, Q' v h → Keep T.heap h ws) (hsf : ∀ x ∈ ws, Safe Z EL vm T.heap x) {pc' : Nat} (hp : pc + 3 = pc')
    (k : ∀ (T' : State) (v : Option Value), Ww l Z R bytes mL ret own nm p e s m args below meth c vm T' (cells + rC) (slots + rS) → Q' v T'.heap → EndW p e below s Z Q cC cS T' (mkF m pc' Ls (v.toList ++ st))) : EndW p e below s Z Q cC cS T (mkF m pc Ls st0) := by
  subst hp hst; obtain ⟨q0, qq, locs, Y, N, Od⟩ := id X
  obtain ⟨cq, kq, qa, qb, qc⟩ := isOf (s := s.setVm vm) X.hZ rfl E
  obtain ⟨v, _, ⟨T', L1, k1, n1⟩, -, Y', ⟨Lc, hQ, l1, y1, z1⟩, stp⟩ := Y.virtualBack X.hx (y := y) (z := z) X.hown (mvT X.hZ w1) (mvT X.hZ w2) hnf (mvT X.hZ w5) (mvT X.hZ w6) hy hK qa qc (g := mkF m pc Ls (argsL.reverse ++ .ref a :: st)) rfl (X.size hsz) (Steps.refl _) (argsL := argsL) (rest := st) hlen rfl (by show 2 * 0 + _ ≤ _; omega) (X.hb hd) (fun _ _ => ⟨rfl, rfl, hcl, hsl⟩)
  dsimp only [Pt.U, Pt.locs, Pt.cells, Pt.slots] at Y' l1 y1 z1 stp hQ
  subst l1 y1 z1
  obtain ⟨f1, f2, f3⟩ := hQ2 _ _ _ hQ
  exact F_tr stp (k T' v (X.go2 Y' (Fr.app N f1) f2 (hkp _ _ f3) hsf) f3)

theorem F_virtual (X : Ww l Z R bytes mL ret own nm p e s m args below meth c vm T cells slots) {y : MethodName} {ix : Nat} {bytes' : ByteArray} {mL' : Nat} {ret' : Option FieldType} {Q' : Option Value → Heap → Prop} {argsL : List Value} {rm : Room} {a : Addr} {z : MethodName} {D : String} (hd : decode bytes pc = .ok (.invokevirtual ix, 3)) (w1 : (Jvm.Cond.methodLink own ix y).before a0 Z = true) (w2 : (Jvm.Cond.declares y).before a0 Z = true) (w5 : (Jvm.Cond.selects D y z).before a0 Z = true) (w6 : (Jvm.Cond.instanceMethod z).before a0 Z = true) (hnf : NotFace (s.setVm vm) y) (hy : y.cls ≠ "java/lang/invoke/MethodHandle" ∧ y.cls ≠ "java/lang/invoke/VarHandle") (E : Exa Z T.heap a D) (w3 : (Jvm.Cond.initialized z.cls).before a0 Z = true) (w4 : (Jvm.Cond.code z bytes' mL' ret').before a0 Z = true) {st0 : List Value} (hst : st0 = argsL.reverse ++ .ref a :: st) (hC : Ct l Z z bytes' mL' ret' rm (.ref a :: argsL).toArray T.heap Q') (hlen : ∀ sig, parseMethodDescriptor y.desc = some sig → argsL.length = sig.parameters.length) (hsz : Ls.size = mL) (hcl : cells + rm.cells ≤ R.cells) (hsl : slots + rm.slots ≤ R.slots) (hfr : rm.frames + 1 ≤ R.frames) (hlo : (st.map fun v => v.category).sum + (mL' + 11) + rm.locals ≤ R.locals) (ws : List Addr) (hkp : ∀ v h, Q' v h → Keep T.heap h ws) (hsf : ∀ x ∈ ws, Safe Z EL vm T.heap x) {pc' : Nat} (hp : pc + 3 = pc')
    (k : ∀ (T' : State) (v : Option Value), Ww l Z R bytes mL ret own nm p e s m args below meth c vm T' (cells + rm.cells) (slots + rm.slots) → Q' v T'.heap → EndW p e below s Z Q cC cS T' (mkF m pc' Ls (v.toList ++ st))) : EndW p e below s Z Q cC cS T (mkF m pc Ls st0) :=
  F_virtualB X hd w1 w2 w5 w6 hnf hy E hst (hC.back X.hZ w4 w3 hfr hlo) (fun _ _ _ q => q) hlen hsz hcl hsl ws hkp hsf hp k

theorem G_virtual (X : Ww l Z R bytes mL ret own nm p e s m args below meth c vm T cells slots) {y : MethodName} {ix : Nat} {bytes' : ByteArray} {mL' : Nat} {ret' : Option FieldType} {Q' : Option Value → Heap → Prop} {argsL : List Value} {rm : Room} {a : Addr} {z : MethodName} {D : String} (hd : decode bytes pc = .ok (.invokevirtual ix, 3)) (w1 : (Jvm.Cond.methodLink own ix y).before a0 Z = true) (w2 : (Jvm.Cond.declares y).before a0 Z = true) (w5 : (Jvm.Cond.selects D y z).before a0 Z = true) (w6 : (Jvm.Cond.instanceMethod z).before a0 Z = true) (hnf : NotFace (s.setVm vm) y) (hy : y.cls ≠ "java/lang/invoke/MethodHandle" ∧ y.cls ≠ "java/lang/invoke/VarHandle") (E : Exa Z T.heap a D) (w3 : (Jvm.Cond.initialized z.cls).before a0 Z = true) (w4 : (Jvm.Cond.code z bytes' mL' ret').before a0 Z = true) {st0 : List Value} (hst : st0 = argsL.reverse ++ .ref a :: st) (hC : CtW l Z z bytes' mL' ret' rm (.ref a :: argsL).toArray T.heap Q') (hlen : ∀ sig, parseMethodDescriptor y.desc = some sig → argsL.length = sig.parameters.length) (hsz : Ls.size = mL) (hcl : cells + rm.cells ≤ R.cells) (hsl : slots + rm.slots ≤ R.slots) (hfr : rm.frames + 1 ≤ R.frames) (hlo : (st.map fun v => v.category).sum + (mL' + 11) + rm.locals ≤ R.locals) {pc' : Nat} (hp : pc + 3 = pc')
    (k : ∀ (T' : State) (v : Option Value), Ww l Z R bytes mL ret own nm p e s m args below meth c T'.vm T' (cells + rm.cells) (slots + rm.slots) → Q' v T'.heap → (∀ x, x < T.heap.size → Safe Z EL vm T.heap x → Safe Z EL T'.vm T'.heap x) → EndW p e below s Z Q cC cS T' (mkF m pc' Ls (v.toList ++ st))) : EndW p e below s Z Q cC cS T (mkF m pc Ls st0) := by
  subst hp hst; obtain ⟨q0, ⟨⟨k0, hS, hk⟩, ⟨a1, hE1⟩, hC0⟩, locs, Y, N, Od⟩ := id X
  obtain ⟨cq, kq, qa, qb, qc⟩ := isOf (s := s.setVm vm) X.hZ rfl E
  obtain ⟨v, _, ⟨T', L1, k1, n1⟩, -, Y', hS2, hgr, ⟨Lc, hQ, l1, y1, z1, hC1⟩, stp⟩ := Y.virtualBackS X.hx (y := y) (z := z) X.hown (mvT (s := s.setVm vm) X.hZ w1) (mvT (s := s.setVm vm) X.hZ w2) hnf (mvT (s := s.setVm vm) X.hZ w5) (mvT (s := s.setVm vm) X.hZ w6) hy (hC.back X.hZ w4 w3 hfr hlo hE1 X.ch) qa qc (g := mkF m pc Ls (argsL.reverse ++ .ref a :: st)) rfl (X.size hsz) (Steps.refl _) (argsL := argsL) (rest := st) hlen rfl (by show 2 * 0 + _ ≤ _; omega) (X.hb hd) (fun _ _ => ⟨rfl, rfl, hcl, hsl⟩)
  dsimp only [Pt.U, Pt.locs, Pt.cells, Pt.slots] at Y' l1 y1 z1 stp hQ hS2 hgr hC1
  subst l1 y1 z1
  have hW2 : Z.Warmed39 T'.vm := State.Warmed39.trans (t := s.setVm vm) X.hZ hS2.1
  have hf2 : T'.vm.findClass own = some m.cls := by rw [hS2.1.alike.findClass]; exact X.hown
  exact F_tr stp (k T' v ⟨⟨q0.1, q0.2.1, q0.2.2.1, q0.2.2.2.1, q0.2.2.2.2.1, hf2, q0.2.2.2.2.2.2.1, hW2⟩, ⟨⟨_, foldS hS hk hS2 hgr, Nat.le_refl _⟩, ⟨a1, hE1⟩, hC0.trans hC1⟩, _, Y', Fr.app N hQ.1, hQ.2.1⟩ hQ.2.2 (fun x hx hs => hC1.safe hx hs))

theorem F_interfaceB (X : Ww l Z R bytes mL ret own nm p e s m args below meth c vm T cells slots) {y : MethodName} {ix : Nat} {Q' : Option Value → Heap → Prop} {argsL : List Value} {Q2 : Option Value → Heap → List Loc → Prop} {rC rS : Nat} {a : Addr} {z : MethodName} {D : String} {ct : Nat} (hd : decode bytes pc = .ok (.invokeinterface ix ct, 5)) (w1 : (Jvm.Cond.methodLink own ix y).before a0 Z = true) (w2 : (Jvm.Cond.declares y).before a0 Z = true) (w5 : (Jvm.Cond.selects D y z).before a0 Z = true) (w6 : (Jvm.Cond.instanceMethod z).before a0 Z = true) (w7 : (Jvm.Cond.interfaceMethod y.cls y.cls y.name y.desc).before a0 Z = true) (hif : ((Jvm.Cond.interfaceMethod y.cls y.cls y.name y.desc).onTables && (Jvm.Cond.interfaceMethod y.cls y.cls y.name y.desc).keepsFace) = true) (w8 : (Jvm.Cond.publicMethod z).before a0 Z = true) (w9 : (Jvm.Cond.unhidden D y.name y.desc).before a0 Z = true) (wc : (Jvm.Cond.castable D y.cls).before a0 Z = true) (hy : y.cls ≠ "java/lang/invoke/MethodHandle" ∧ y.cls ≠ "java/lang/invoke/VarHandle") (E : Exa Z T.heap a D) {st0 : List Value} (hst : st0 = argsL.reverse ++ .ref a :: st) (hK : Back l R p e below (s.setVm vm) args z 5 ((st.map fun v => v.category).sum) (fun A aa => aa = (.ref a :: argsL).toArray ∧ A.U.heap = T.heap ∧ A.cells + rC ≤ R.cells ∧ A.slots + rS ≤ R.slots) (fun A _ v B => ∃ L, Q2 v B.U.heap L ∧ B.locs = A.locs ++ L ∧ B.cells = A.cells + rC ∧ B.slots = A.slots + rS)) (hQ2 : ∀ v h L, Q2 v h L → Fr Z.heap.size L ∧ Ext Z.heap h ∧ Q' v h) (hlen : ∀ sig, parseMethodDescriptor y.desc = some sig → argsL.length = sig.parameters.length) (hsz : Ls.size = mL) (hcl : cells + rC ≤ R.cells) (hsl : slots + rS ≤ R.slots) (ws : List Addr) (hkp : ∀ v h, Q' v h → Keep T.heap h ws) (hsf : ∀ x ∈ ws, Safe Z EL vm T.heap x) {pc' : Nat} (hp : pc + 5 = pc')
    (k : ∀ (T' : State) (v : Option Value), Ww l Z R bytes mL ret own nm p e s m args below meth c vm T' (cells + rC) (slots + rS) → Q' v T'.heap → EndW p e below s Z Q cC cS T' (mkF m pc' Ls (v.toList ++ st))) : EndW p e below s Z Q cC cS T (mkF m pc Ls st0) := by
  subst hp hst; obtain ⟨q0, qq, locs, Y, N, Od⟩ := id X
  obtain ⟨cq, kq, qa, qb, qc⟩ := isOf (s := s.setVm vm) X.hZ rfl E
  obtain ⟨v, _, ⟨T', L1, k1, n1⟩, -, Y', ⟨Lc, hQ, l1, y1, z1⟩, stp⟩ := Y.interfaceBack X.hx (xi := y) (y := z) X.hown (mvT X.hZ w1) (mvT X.hZ w2) (mvT X.hZ w7 hif) (mvT X.hZ w5) (mvT X.hZ w6) (mvT X.hZ w8) (mvT X.hZ w9) (mvT X.hZ wc) hy hK qa qb qc (g := mkF m pc Ls (argsL.reverse ++ .ref a :: st)) rfl (X.size hsz) (Steps.refl _) (argsL := argsL) (rest := st) hlen rfl (by show 2 * 0 + _ ≤ _; omega) (X.hb hd) (fun _ _ => ⟨rfl, rfl, hcl, hsl⟩)
  dsimp only [Pt.U, Pt.locs, Pt.cells, Pt.slots] at Y' l1 y1 z1 stp hQ
  subst l1 y1 z1
  obtain ⟨f1, f2, f3⟩ := hQ2 _ _ _ hQ
  exact F_tr stp (k T' v (X.go2 Y' (Fr.app N f1) f2 (hkp _ _ f3) hsf) f3)

theorem F_interface (X : Ww l Z R bytes mL ret own nm p e s m args below meth c vm T cells slots) {y : MethodName} {ix : Nat} {bytes' : ByteArray} {mL' : Nat} {ret' : Option FieldType} {Q' : Option Value → Heap → Prop} {argsL : List Value} {rm : Room} {a : Addr} {z : MethodName} {D : String} {ct : Nat} (hd : decode bytes pc = .ok (.invokeinterface ix ct, 5)) (w1 : (Jvm.Cond.methodLink own ix y).before a0 Z = true) (w2 : (Jvm.Cond.declares y).before a0 Z = true) (w5 : (Jvm.Cond.selects D y z).before a0 Z = true) (w6 : (Jvm.Cond.instanceMethod z).before a0 Z = true) (w7 : (Jvm.Cond.interfaceMethod y.cls y.cls y.name y.desc).before a0 Z = true) (hif : ((Jvm.Cond.interfaceMethod y.cls y.cls y.name y.desc).onTables && (Jvm.Cond.interfaceMethod y.cls y.cls y.name y.desc).keepsFace) = true) (w8 : (Jvm.Cond.publicMethod z).before a0 Z = true) (w9 : (Jvm.Cond.unhidden D y.name y.desc).before a0 Z = true) (wc : (Jvm.Cond.castable D y.cls).before a0 Z = true) (hy : y.cls ≠ "java/lang/invoke/MethodHandle" ∧ y.cls ≠ "java/lang/invoke/VarHandle") (E : Exa Z T.heap a D) (w3 : (Jvm.Cond.initialized z.cls).before a0 Z = true) (w4 : (Jvm.Cond.code z bytes' mL' ret').before a0 Z = true) {st0 : List Value} (hst : st0 = argsL.reverse ++ .ref a :: st) (hC : Ct l Z z bytes' mL' ret' rm (.ref a :: argsL).toArray T.heap Q') (hlen : ∀ sig, parseMethodDescriptor y.desc = some sig → argsL.length = sig.parameters.length) (hsz : Ls.size = mL) (hcl : cells + rm.cells ≤ R.cells) (hsl : slots + rm.slots ≤ R.slots) (hfr : rm.frames + 1 ≤ R.frames) (hlo : (st.map fun v => v.category).sum + (mL' + 11) + rm.locals ≤ R.locals) (ws : List Addr) (hkp : ∀ v h, Q' v h → Keep T.heap h ws) (hsf : ∀ x ∈ ws, Safe Z EL vm T.heap x) {pc' : Nat} (hp : pc + 5 = pc')
    (k : ∀ (T' : State) (v : Option Value), Ww l Z R bytes mL ret own nm p e s m args below meth c vm T' (cells + rm.cells) (slots + rm.slots) → Q' v T'.heap → EndW p e below s Z Q cC cS T' (mkF m pc' Ls (v.toList ++ st))) : EndW p e below s Z Q cC cS T (mkF m pc Ls st0) :=
  F_interfaceB X hd w1 w2 w5 w6 w7 hif w8 w9 wc hy E hst (hC.back X.hZ w4 w3 hfr hlo) (fun _ _ _ q => q) hlen hsz hcl hsl ws hkp hsf hp k

theorem G_interface (X : Ww l Z R bytes mL ret own nm p e s m args below meth c vm T cells slots) {y : MethodName} {ix : Nat} {bytes' : ByteArray} {mL' : Nat} {ret' : Option FieldType} {Q' : Option Value → Heap → Prop} {argsL : List Value} {rm : Room} {a : Addr} {z : MethodName} {D : String} {ct : Nat} (hd : decode bytes pc = .ok (.invokeinterface ix ct, 5)) (w1 : (Jvm.Cond.methodLink own ix y).before a0 Z = true) (w2 : (Jvm.Cond.declares y).before a0 Z = true) (w5 : (Jvm.Cond.selects D y z).before a0 Z = true) (w6 : (Jvm.Cond.instanceMethod z).before a0 Z = true) (w7 : (Jvm.Cond.interfaceMethod y.cls y.cls y.name y.desc).before a0 Z = true) (hif : ((Jvm.Cond.interfaceMethod y.cls y.cls y.name y.desc).onTables && (Jvm.Cond.interfaceMethod y.cls y.cls y.name y.desc).keepsFace) = true) (w8 : (Jvm.Cond.publicMethod z).before a0 Z = true) (w9 : (Jvm.Cond.unhidden D y.name y.desc).before a0 Z = true) (wc : (Jvm.Cond.castable D y.cls).before a0 Z = true) (hy : y.cls ≠ "java/lang/invoke/MethodHandle" ∧ y.cls ≠ "java/lang/invoke/VarHandle") (E : Exa Z T.heap a D) (w3 : (Jvm.Cond.initialized z.cls).before a0 Z = true) (w4 : (Jvm.Cond.code z bytes' mL' ret').before a0 Z = true) {st0 : List Value} (hst : st0 = argsL.reverse ++ .ref a :: st) (hC : CtW l Z z bytes' mL' ret' rm (.ref a :: argsL).toArray T.heap Q') (hlen : ∀ sig, parseMethodDescriptor y.desc = some sig → argsL.length = sig.parameters.length) (hsz : Ls.size = mL) (hcl : cells + rm.cells ≤ R.cells) (hsl : slots + rm.slots ≤ R.slots) (hfr : rm.frames + 1 ≤ R.frames) (hlo : (st.map fun v => v.category).sum + (mL' + 11) + rm.locals ≤ R.locals) {pc' : Nat} (hp : pc + 5 = pc')
    (k : ∀ (T' : State) (v : Option Value), Ww l Z R bytes mL ret own nm p e s m args below meth c T'.vm T' (cells + rm.cells) (slots + rm.slots) → Q' v T'.heap → (∀ x, x < T.heap.size → Safe Z EL vm T.heap x → Safe Z EL T'.vm T'.heap x) → EndW p e below s Z Q cC cS T' (mkF m pc' Ls (v.toList ++ st))) : EndW p e below s Z Q cC cS T (mkF m pc Ls st0) := by
  subst hp hst; obtain ⟨q0, ⟨⟨k0, hS, hk⟩, ⟨a1, hE1⟩, hC0⟩, locs, Y, N, Od⟩ := id X
  obtain ⟨cq, kq, qa, qb, qc⟩ := isOf (s := s.setVm vm) X.hZ rfl E
  obtain ⟨v, _, ⟨T', L1, k1, n1⟩, -, Y', hS2, hgr, ⟨Lc, hQ, l1, y1, z1, hC1⟩, stp⟩ := Y.interfaceBackS X.hx (xi := y) (y := z) X.hown (mvT (s := s.setVm vm) X.hZ w1) (mvT (s := s.setVm vm) X.hZ w2) (mvT (s := s.setVm vm) X.hZ w7 hif) (mvT (s := s.setVm vm) X.hZ w5) (mvT (s := s.setVm vm) X.hZ w6) (mvT (s := s.setVm vm) X.hZ w8) (mvT (s := s.setVm vm) X.hZ w9) (mvT (s := s.setVm vm) X.hZ wc) hy (hC.back X.hZ w4 w3 hfr hlo hE1 X.ch) qa qb qc (g := mkF m pc Ls (argsL.reverse ++ .ref a :: st)) rfl (X.size hsz) (Steps.refl _) (argsL := argsL) (rest := st) hlen rfl (by show 2 * 0 + _ ≤ _; omega) (X.hb hd) (fun _ _ => ⟨rfl, rfl, hcl, hsl⟩)
  dsimp only [Pt.U, Pt.locs, Pt.cells, Pt.slots] at Y' l1 y1 z1 stp hQ hS2 hgr hC1
  subst l1 y1 z1
  have hW2 : Z.Warmed39 T'.vm := State.Warmed39.trans (t := s.setVm vm) X.hZ hS2.1
  have hf2 : T'.vm.findClass own = some m.cls := by rw [hS2.1.alike.findClass]; exact X.hown
  exact F_tr stp (k T' v ⟨⟨q0.1, q0.2.1, q0.2.2.1, q0.2.2.2.1, q0.2.2.2.2.1, hf2, q0.2.2.2.2.2.2.1, hW2⟩, ⟨⟨_, foldS hS hk hS2 hgr, Nat.le_refl _⟩, ⟨a1, hE1⟩, hC0.trans hC1⟩, _, Y', Fr.app N hQ.1, hQ.2.1⟩ hQ.2.2 (fun x hx hs => hC1.safe hx hs))

theorem Ww.out (X : Ww l Z R bytes mL ret own nm p e s m args below meth c vm T cells slots) {v : Option Value} (hv : ret = none → v = none) (hQ : Q v T.heap) (h1 : cells ≤ cC) (h2 : slots ≤ cS) (hs : ∀ fs, (∀ (f : JFrame) (acts : List Action), f.method = m → f.locked = none → f.entered = [] → (doReturn e (T.setTop f) acts v).1 = T.setFrames fs) → Steps p.tables e below (T.setTop g) (T.setFrames fs)) : EndW p e below s Z Q cC cS T g := by
  obtain ⟨q0, ⟨⟨k0, hS, hk⟩, ⟨a1, hE1⟩, hC0⟩, locs, Y, N, Od⟩ := id X
  obtain ⟨fs, hr, hrun, hended, hW⟩ := Y.leaveW hS hk (v := v) (fun h => hv (q0.2.2.2.1.symm.trans h)) q0.2.2.2.2.1
  exact ⟨_, _, hs fs hr, hrun, hended, _, _, rfl, ⟨N, Od, hQ⟩, (hC0.trans (CHv.at (T := T) Y X.hZ hE1 X.ch) : CHr Z EL s.vm s.heap T.vm T.heap), hW.1, hW.2.1, hW.2.2.1, hW.2.2.2.mono h1 h2⟩
theorem F_return (X : Ww l Z R bytes mL ret own nm p e s m args below meth c vm T cells slots) (hd : decode bytes pc = .ok (.return_, 1)) (hret : ret = none) (h1 : cells ≤ cC) (h2 : slots ≤ cS) (hQ : Q none T.heap) : EndW p e below s Z Q cC cS T (mkF m pc Ls []) := by
  refine X.out (v := none) (fun _ => rfl) hQ h1 h2 fun fs hr => ?_
  obtain ⟨q0, qq, locs, Y, N, Od⟩ := id X
  exact Y.returnOut X.hx (q0.2.2.2.1.trans hret) (X.hb hd) hr
theorem F_ireturnI (X : Ww l Z R bytes mL ret own nm p e s m args below meth c vm T cells slots) {z : Int32} (hd : decode bytes pc = .ok (.ireturn, 1)) (hret : ret = some .int) (h1 : cells ≤ cC) (h2 : slots ≤ cS) (hQ : Q (some (.int z)) T.heap) : EndW p e below s Z Q cC cS T (mkF m pc Ls (.int z :: st)) := by
  refine X.out (v := some (.int z)) (fun h => by rw [hret] at h; cases h) hQ h1 h2 fun fs hr => ?_
  obtain ⟨q0, qq, locs, Y, N, Od⟩ := id X
  exact retOut Y X.hx (q0.2.2.2.1.trans hret) rfl (Or.inl ⟨rfl, Or.inl rfl, z, rfl⟩) (X.hb hd) hr
theorem F_ireturnN (X : Ww l Z R bytes mL ret own nm p e s m args below meth c vm T cells slots) {z : Int32} {t : FieldType} (hd : decode bytes pc = .ok (.ireturn, 1)) (hret : ret = some t) (ht : t = .boolean ∨ t = .byte ∨ t = .char ∨ t = .short) (h1 : cells ≤ cC) (h2 : slots ≤ cS) (hQ : Q (some (.int (nar t z))) T.heap) : EndW p e below s Z Q cC cS T (mkF m pc Ls (.int z :: st)) := by
  refine X.out (v := some (.int (nar t z))) (fun h => by rw [hret] at h; cases h) hQ h1 h2 fun fs hr => ?_
  obtain ⟨q0, qq, locs, Y, N, Od⟩ := id X
  exact retN Y X.hx (q0.2.2.2.1.trans hret) ht (X.hb hd) hr
theorem F_areturn (X : Ww l Z R bytes mL ret own nm p e s m args below meth c vm T cells slots) {v : Value} {t : FieldType} (hd : decode bytes pc = .ok (.areturn, 1)) (hret : ret = some t) (ht : t.isReference = true) (hv : v.isRef = true) (hn : narrow t v = v) (h1 : cells ≤ cC) (h2 : slots ≤ cS) (hQ : Q (some v) T.heap) : EndW p e below s Z Q cC cS T (mkF m pc Ls (v :: st)) := by
  refine X.out (v := some v) (fun h => by rw [hret] at h; cases h) hQ h1 h2 fun fs hr => ?_
  obtain ⟨q0, qq, locs, Y, N, Od⟩ := id X
  exact retOut Y X.hx (q0.2.2.2.1.trans hret) hn (Or.inr (Or.inr (Or.inr (Or.inr ⟨rfl, ht, hv⟩)))) (X.hb hd) hr
end OwnW
theorem pd_0 : parseMethodDescriptor "()B" = some ⟨[], some .byte⟩ := by decide +kernel
theorem pd_1 : parseMethodDescriptor "([CI[BII)I" = some ⟨[(.array .char), .int, (.array .byte), .int, .int], some .int⟩ := by decide +kernel
theorem pd_2 : parseMethodDescriptor "([CII)[B" = some ⟨[(.array .char), .int, .int], some (.array .byte)⟩ := by decide +kernel
theorem pd_3 : parseMethodDescriptor "([BI)B" = some ⟨[(.array .byte), .int], some .byte⟩ := by decide +kernel
theorem pd_4 : parseMethodDescriptor "([CIILjava/lang/Void;)V" = some ⟨[(.array .char), .int, .int, (.object "java/lang/Void")], none⟩ := by decide +kernel
theorem pd_5 : parseMethodDescriptor "([B[B)Z" = some ⟨[(.array .byte), (.array .byte)], some .boolean⟩ := by decide +kernel
theorem pd_6 : parseMethodDescriptor "([C)V" = some ⟨[(.array .char)], none⟩ := by decide +kernel
theorem pd_7 : parseMethodDescriptor "()V" = some ⟨[], none⟩ := by decide +kernel
theorem pd_8 : parseMethodDescriptor "()Ljava/util/List;" = some ⟨[], some (.object "java/util/List")⟩ := by decide +kernel
theorem pd_9 : parseMethodDescriptor "(Ljava/lang/String;Ljava/lang/String;ZLjava/util/List;)V" = some ⟨[(.object "java/lang/String"), (.object "java/lang/String"), .boolean, (.object "java/util/List")], none⟩ := by decide +kernel
theorem pd_10 : parseMethodDescriptor "(Ljava/lang/String;Ljava/lang/String;Z)V" = some ⟨[(.object "java/lang/String"), (.object "java/lang/String"), .boolean], none⟩ := by decide +kernel
theorem pd_11 : parseMethodDescriptor "(IIII)Ljava/lang/String;" = some ⟨[.int, .int, .int, .int], some (.object "java/lang/String")⟩ := by decide +kernel
theorem pd_12 : parseMethodDescriptor "(Ljava/lang/String;)Lcom/example/holdfast/holdfast/cli/LevelArguments$Option;" = some ⟨[(.object "java/lang/String")], some (.object "com/example/holdfast/holdfast/cli/LevelArguments$Option")⟩ := by decide +kernel
theorem pd_13 : parseMethodDescriptor "()Ljava/lang/String;" = some ⟨[], some (.object "java/lang/String")⟩ := by decide +kernel
theorem pd_14 : parseMethodDescriptor "(Ljava/lang/Object;)Z" = some ⟨[(.object "java/lang/Object")], some .boolean⟩ := by decide +kernel
theorem pd_15 : parseMethodDescriptor "()I" = some ⟨[], some .int⟩ := by decide +kernel
theorem pd_16 : parseMethodDescriptor "()Z" = some ⟨[], some .boolean⟩ := by decide +kernel
theorem o_int {n : Nat} (h : n < 2147483648) : (Int32.ofNat n).toInt = n := by
  have := Int32.toInt_ofNat_of_lt (n := n) (by omega); simpa using this
theorem o_cl {n : Nat} (h : n < 2147483648) : (Int32.ofNat n).toNatClampNeg = n := by
  simp [Int32.toNatClampNeg, o_int h]
theorem o_nn {n : Nat} (h : n < 2147483648) : ¬ Int32.ofNat n < 0 := by
  rw [Int32.lt_iff_toInt_lt, o_int h]; show ¬ (n : Int) < 0; omega
theorem o_lt {i n : Nat} (hi : i < n) (h : n < 2147483648) : Int32.ofNat i < Int32.ofNat n := by
  rw [Int32.lt_iff_toInt_lt, o_int h, o_int (by omega)]; omega
theorem o_nlt {i n : Nat} (hi : n ≤ i) (h : i < 2147483648) : ¬ Int32.ofNat i < Int32.ofNat n := by
  rw [Int32.lt_iff_toInt_lt, o_int h, o_int (by omega)]; omega
theorem o_add {i : Nat} : Int32.ofNat i + (1 : Int32) = Int32.ofNat (i + 1) := by
  rw [Int32.ofNat_add]; rfl
theorem o_two {i : Nat} (h : 2 * i < 2147483648) : Int32.ofNat i <<< ((1 : Int32) &&& 31) = Int32.ofNat (2 * i) := by
  apply Int32.toInt_inj.mp
  have e := c_ishl (Int32.ofNat i) 1 1 (by decide)
  have r := rng32 (Int32.ofNat i <<< ((1 : Int32) &&& 31))
  rw [o_int (by omega)] at e
  rw [o_int h]
  omega
theorem o_half {i : Nat} (h : 2 * i < 2147483648) : Int32.ofNat (2 * i) >>> ((1 : Int32) &&& 31) = Int32.ofNat i := by
  apply Int32.toInt_inj.mp
  have e := c_ishr (Int32.ofNat (2 * i)) 1 1 (by decide)
  rw [o_int h] at e
  rw [o_int (by omega), e]
  omega
theorem o_zero (N : Int32) : N >>> ((0 : Int32) &&& 31) = N := by
  apply Int32.toInt_inj.mp
  have e := c_ishr N 0 0 (by decide)
  rw [e]; simp
theorem o_i2c {c : Int32} (h1 : ¬ c < 0) (h2 : ¬ 65535 < c) : c.toUInt32.toUInt16.toUInt32.toInt32 = c := by
  apply Int32.toInt_inj.mp
  have e := c_i2c c
  rw [Int32.lt_iff_toInt_lt] at h1 h2
  have o1 : (0 : Int32).toInt = 0 := rfl
  have o2 : (65535 : Int32).toInt = 65535 := rfl
  omega
theorem o_nar {c : Int32} (h1 : ¬ c < 0) (h2 : ¬ 65535 < c) : nar .char c = c := o_i2c h1 h2
theorem o_lat {c : Int32} (h1 : ¬ c < 0) (h2 : ¬ 255 < c) : nar .char ((c.toInt8.toInt32 &&& (255 : Int32)).toUInt32.toUInt16.toUInt32.toInt32) = c := by
  have o1 : (0 : Int32).toInt = 0 := rfl
  have o2 : (255 : Int32).toInt = 255 := rfl
  have o3 : (65535 : Int32).toInt = 65535 := rfl
  rw [Int32.lt_iff_toInt_lt] at h1 h2
  have e : c.toInt8.toInt32 &&& (255 : Int32) = c := by
    apply Int32.toInt_inj.mp
    have e1 := c_mask c.toInt8.toInt32 255 8 (by decide) (by decide)
    have e2 := c_i2b c
    rw [e1]; omega
  rw [e, o_i2c, o_nar] <;> (rw [Int32.lt_iff_toInt_lt]; omega)
theorem o_u16 {c : Int32} (h1 : ¬ c < 0) (h2 : ¬ 65535 < c) : nar .char ((((c >>> ((0 : Int32) &&& 31)).toInt8.toInt32 &&& (255 : Int32)) <<< ((0 : Int32) &&& 31) ||| ((c >>> ((8 : Int32) &&& 31)).toInt8.toInt32 &&& (255 : Int32)) <<< ((8 : Int32) &&& 31)).toUInt32.toUInt16.toUInt32.toInt32) = c := by
  have o1 : (0 : Int32).toInt = 0 := rfl
  have o2 : (255 : Int32).toInt = 255 := rfl
  have o3 : (65535 : Int32).toInt = 65535 := rfl
  rw [Int32.lt_iff_toInt_lt] at h1 h2
  have a0 : c >>> ((0 : Int32) &&& 31) = c := o_zero c
  have a1 := c_ishr c 8 8 (by decide)
  rw [a0]
  generalize c >>> ((8 : Int32) &&& 31) = d at *
  have b1 := c_mask c.toInt8.toInt32 255 8 (by decide) (by decide)
  have b2 := c_i2b c
  have b3 := c_mask d.toInt8.toInt32 255 8 (by decide) (by decide)
  have b4 := c_i2b d
  generalize c.toInt8.toInt32 &&& (255 : Int32) = x at *
  generalize d.toInt8.toInt32 &&& (255 : Int32) = y at *
  have d1 := c_ishl x 0 0 (by decide)
  have d2 := c_ishl y 8 8 (by decide)
  have r1 := rng32 (x <<< ((0 : Int32) &&& 31))
  have r2 := rng32 (y <<< ((8 : Int32) &&& 31))
  generalize x <<< ((0 : Int32) &&& 31) = u at *
  generalize y <<< ((8 : Int32) &&& 31) = w at *
  have f := c_or' u w 8 (by decide) 256 rfl (by omega) (by omega) (by omega)
  have r3 := rng32 (u ||| w)
  have e : u ||| w = c := by
    apply Int32.toInt_inj.mp
    omega
  rw [e, o_i2c, o_nar] <;> (rw [Int32.lt_iff_toInt_lt]; omega)
theorem o_b8 (c : Int32) : c.toInt8.toInt32.toInt8.toInt32 = c.toInt8.toInt32 := by simp
theorem o_ltc {n : Nat} (h : n ≤ 4000) : Int32.ofNat n < (1073741823 : Int32) := by
  rw [Int32.lt_iff_toInt_lt, o_int (by omega)]; show (n : Int) < 1073741823; omega
theorem o_cfl {n : Nat} (h : 0 < n) (h2 : n ≤ 4000) : nar .byte ((((Int32.ofNat n - Int32.ofNat (2 * n)).toUInt32 >>> ((31 : Int32) &&& 31).toUInt32).toInt32).toInt8.toInt32) = 1 := by
  have e := c_isub (Int32.ofNat n) (Int32.ofNat (2 * n))
  rw [o_int (by omega), o_int (by omega)] at e
  have r := rng32 (Int32.ofNat n - Int32.ofNat (2 * n))
  have f := c_iushr (Int32.ofNat n - Int32.ofNat (2 * n)) 31 31 (by decide) (by decide)
  have g : ((Int32.ofNat n - Int32.ofNat (2 * n)).toUInt32 >>> ((31 : Int32) &&& 31).toUInt32).toInt32 = 1 := by
    apply Int32.toInt_inj.mp
    rw [f]; show _ = (1 : Int); omega
  rw [g]; rfl

def Sts (Z : State) (G1 : Int32) (G3 : Value) : Prop := Sta Z Z.heap "java/lang/String" "COMPACT_STRINGS" "Z" (.int G1) ∧ ¬ G1 = 0 ∧ Sta Z Z.heap "jdk/internal/util/Preconditions" "SIOOBE_FORMATTER" "Ljava/util/function/BiFunction;" G3 ∧ G3.isRef = true
theorem Sts.ref {Z : State} {G1 : Int32} {G3 : Value} (h : Sts Z G1 G3) : G3.isRef = true := h.2.2.2
def lo8 (c : Int32) : Value := .int c.toInt8.toInt32
def u16 (cs : List Int32) : List Value := cs.flatMap fun c => [.int (c >>> ((0 : Int32) &&& 31)).toInt8.toInt32, .int (c >>> ((8 : Int32) &&& 31)).toInt8.toInt32]
def Cod (cs : List Int32) (cd N : Int32) (vs : List Value) : Prop := (cd = 0 ∧ N = Int32.ofNat cs.length ∧ vs = cs.map lo8 ∧ ∀ c ∈ cs, ¬ (255 : Int32) < c)
/-- the String x holds the chars cs; its array is t -/
def OStr (Z : State) (h : Heap) (x t : Addr) (cs : List Int32) : Prop := ∃ (kb : ClassId) (cd N : Int32) (vs : List Value), Exa Z h x "java/lang/String" ∧ Fld Z h x "java/lang/String" "value" "[B" (.ref t) ∧ Fld Z h x "java/lang/String" "coder" "B" (.int cd) ∧ Arv Z h t kb .byte N vs (.int (0 : Int32)) ∧ Cod cs cd N vs ∧ (∀ c ∈ cs, ¬ c < 0 ∧ ¬ (65535 : Int32) < c) ∧ cs.length ≤ 4000
theorem OStr.exa {Z : State} {h : Heap} {x t : Addr} {cs : List Int32} (S : OStr Z h x t cs) : Exa Z h x "java/lang/String" := by obtain ⟨_, _, _, _, E, -⟩ := S; exact E
theorem OStr.fval {Z : State} {h : Heap} {x t : Addr} {cs : List Int32} (S : OStr Z h x t cs) : Fld Z h x "java/lang/String" "value" "[B" (.ref t) := by obtain ⟨_, _, _, _, _, F, -⟩ := S; exact F
theorem OStr.fcod {Z : State} {h : Heap} {x t : Addr} {cs : List Int32} (S : OStr Z h x t cs) : Fld Z h x "java/lang/String" "coder" "B" (.int 0) := by obtain ⟨_, _, _, _, _, _, C, _, ⟨rfl, -⟩, -⟩ := S; exact C
theorem OStr.lt {Z : State} {h : Heap} {x t : Addr} {cs : List Int32} (S : OStr Z h x t cs) : x < h.size := S.exa.lt
theorem OStr.ltv {Z : State} {h : Heap} {x t : Addr} {cs : List Int32} (S : OStr Z h x t cs) : t < h.size := by obtain ⟨_, _, _, _, _, _, _, V, -⟩ := S; exact V.lt
theorem OStr.keep {Z : State} {h h' : Heap} {ws : List Addr} {x t : Addr} {cs : List Int32} (S : OStr Z h x t cs) (K : Keep h h' ws) (h1 : x ∉ ws) (h2 : t ∉ ws) : OStr Z h' x t cs := by
  obtain ⟨kb, cd, N, vs, E, F, G, V, r⟩ := S; exact ⟨kb, cd, N, vs, E.keep K, F.keep K h1, G.keep K h1, V.keep K h2, r⟩
theorem own_lit {Z : State} {h : Heap} {a b : Addr} {kb : ClassId} {cs : List Int32} (E : Exa Z h a "java/lang/String") (F : Fld Z h a "java/lang/String" "value" "[B" (.ref b)) (C : Fld Z h a "java/lang/String" "coder" "B" (.int 0)) (V : Arv Z h b kb .byte (Int32.ofNat cs.length) (cs.map lo8) (.int 0)) (hb : ∀ c ∈ cs, ¬ c < 0 ∧ ¬ (255 : Int32) < c) (hl : cs.length ≤ 4000) : OStr Z h a b cs :=
  ⟨kb, 0, _, _, E, F, C, V, ⟨rfl, rfl, rfl, fun c hc => (hb c hc).2⟩, fun c hc => ⟨(hb c hc).1, fun q => (hb c hc).2 (Int32.lt_trans (by decide) q)⟩, hl⟩
theorem Fld.inj {Z : State} {h : Heap} {a : Addr} {C n d : String} {v w : Value} (F : Fld Z h a C n d v) (G : Fld Z h a C n d w) : v = w := by
  by_cases q : v = w
  · exact q
  · exact absurd rfl (F.ne G q)
theorem lo8_inj {c d : Int32} (h1 : ¬ c < 0) (h2 : ¬ (255 : Int32) < c) (h3 : ¬ d < 0) (h4 : ¬ (255 : Int32) < d) (e : c.toInt8.toInt32 = d.toInt8.toInt32) : c = d := by
  have a := c_i2b c; have b := c_i2b d
  rw [e] at a
  simp only [Int32.lt_iff_toInt_lt, Int32.reduceToInt] at h1 h2 h3 h4
  apply Int32.toInt_inj.mp; omega
theorem own_ext {cs ds : List Int32} (hl : cs.length = ds.length) (h : ∀ i, i < cs.length → cs.getD i 0 = ds.getD i 0) : cs = ds := by
  apply List.ext_getElem hl
  intro i h1 h2
  have q := h i h1
  simpa [List.getD_eq_getElem?_getD, h1, h2] using q
theorem own_getD {cs : List Int32} {i : Nat} (f : Int32 → Value) {d : Value} (h : i < cs.length) (hn : cs.length ≤ 4000) : (cs.map f).getD (Int32.ofNat i).toNatClampNeg d = f (cs.getD i 0) := by
  rw [o_cl (by omega)]; simp [List.getD_eq_getElem?_getD, h]
theorem own_mem {cs : List Int32} {i : Nat} (h : i < cs.length) : cs.getD i 0 ∈ cs := by simp [List.getD_eq_getElem?_getD, h]
theorem own_take {cs : List Int32} {i : Nat} (f : Int32 → Value) (h : i < cs.length) : (cs.take (i + 1)).map f = (cs.take i).map f ++ [f (cs.getD i 0)] := by
  rw [List.take_add_one, List.map_append]; congr 1; simp [List.getD_eq_getElem?_getD, h]
theorem own_all {P : Int32 → Prop} {cs : List Int32} {i : Nat} {ch : Int32} (h : i < cs.length) (hch : ch = cs.getD i 0) (hall : ∀ c ∈ cs.take i, P c) (hc : P ch) : ∀ c ∈ cs.take (i + 1), P c := by
  intro c hc2
  rw [List.take_add_one] at hc2
  rcases List.mem_append.mp hc2 with hc2 | hc2
  · exact hall c hc2
  · have : c = ch := by rw [hch]; simp [List.getD_eq_getElem?_getD, h] at hc2 ⊢; exact hc2
    rw [this]; exact hc
theorem own_tl {cs : List Int32} {i : Nat} (f : Int32 → Value) (h : i ≤ cs.length) : ((cs.take i).map f).length = i := by simp; omega
theorem Cod.cd8 {cs : List Int32} {cd N : Int32} {vs : List Value} (h : Cod cs cd N vs) : nar .byte cd = cd := by obtain ⟨rfl, -⟩ := h; rfl
theorem Cod.len {cs : List Int32} {cd N : Int32} {vs : List Value} (h : Cod cs cd N vs) (hl : cs.length ≤ 4000) : N >>> (cd &&& 31) = Int32.ofNat cs.length := by obtain ⟨rfl, rfl, -⟩ := h; exact o_zero _
theorem Cod.n0 {cs : List Int32} {cd N : Int32} {vs : List Value} (h : Cod cs cd N vs) (hl : cs.length ≤ 4000) : N = 0 ↔ cs.length = 0 := by
  have e : ∀ n : Nat, n < 2147483648 → (Int32.ofNat n = 0 ↔ n = 0) := fun n hn => by
    rw [← Int32.toInt_inj, o_int hn]; show ((n : Int) = 0) ↔ _; omega
  obtain ⟨-, rfl, -⟩ := h; exact e _ (by omega)

theorem lit_0 : (∀ c ∈ "".toList, c.toNat < 256) ∧ "".toList.map (fun c => Value.int (Jvm.Lit.byteI c.toNat.toUInt16)) = ([] : List Int32).map lo8 := ⟨by decide +kernel, by rfl⟩
theorem d_cod_0 : decode jdk_42_method_152_code 0 = .ok (.getstatic 38, 3) := by decide +kernel
theorem d_cod_3 : decode jdk_42_method_152_code 3 = .ok (.ifCond .eq 10, 3) := by decide +kernel
theorem d_cod_6 : decode jdk_42_method_152_code 6 = .ok (.aload_n 0, 1) := by decide +kernel
theorem d_cod_7 : decode jdk_42_method_152_code 7 = .ok (.getfield 15, 3) := by decide +kernel
theorem d_cod_10 : decode jdk_42_method_152_code 10 = .ok (.goto 4, 3) := by decide +kernel
theorem d_cod_14 : decode jdk_42_method_152_code 14 = .ok (.ireturn, 1) := by decide +kernel
abbrev rm_cod : Room := ({ frames := 0, cells := 0, slots := 0, locals := 0 } : Room)
def Q_cod (Z : State) (x : Addr) (cd : Int32) (h0 : Heap) (v : Option Value) (h : Heap) : Prop := v = some (.int cd) ∧ h = h0
set_option maxRecDepth 65536 in
set_option maxHeartbeats 40000000 in
theorem ct_cod (l : Launch) (Z : State) (a0 : Array Value) (hw : ∀ d ∈ tables_1, d.before a0 Z = true) (G1 : Int32) (G3 : Value) (OS : Sts Z G1 G3) (hEL : EW Z a0 EL) (hSA : ∀ a ∈ Bundle.stringAtoms, a.before a0 Z = true) (x : Addr) (cd : Int32) {h0 : Heap} (O : Ext Z.heap h0) (C0 : Fld Z h0 x "java/lang/String" "coder" "B" (.int cd)) (hcd : nar .byte cd = cd) : Ct l Z (⟨"java/lang/String", "coder", "()B"⟩ : MethodName) jdk_42_method_152_code 1 (some .byte) rm_cod #[(.ref x)] h0 (Q_cod Z x cd h0) := by
  refine Ct.of_body (Ls := #[.val (.ref x)]) (by decide +kernel) O (fun m => by first | rfl | (simp [entryFrame, mkF, argsToLocals, Value.category]; done) | (rcases ref_cases (Sts.ref OS) with rfl | ⟨r, rfl⟩ <;> rfl)) ?_
  intro p e s m below meth c T0 X0 e0
  subst e0
  refine E_getstatic X0 d_cod_0 (hw _ (List.mem_of_getElem? (i := 80) rfl)) Via.refl OS.1 (pc' := 3) rfl ?_
  intro T1 X2 e3
  rw [← e3] at C0
  refine E_ifF X2 d_cod_3 (XT.i0_eq_f OS.2.1) (pc' := 6) rfl ?_
  refine E_aloadN X2 d_cod_6 rfl rfl (pc' := 7) rfl ?_
  refine E_getfield X2 d_cod_7 (hw _ (List.mem_of_getElem? (i := 25) rfl)) Via.refl C0 (pc' := 10) rfl ?_
  intro T4 X5 e6
  rw [← e6] at C0
  refine E_goto X5 d_cod_10 (pc' := 14) (by decide) rfl ?_
  exact E_ireturnN X5 (t := .byte) d_cod_14 rfl (by simp) (by decide) (by decide) (⟨by rw [hcd], (e6.trans e3)⟩)
theorem d_slen_0 : decode jdk_42_method_54_code 0 = .ok (.aload_n 0, 1) := by decide +kernel
theorem d_slen_1 : decode jdk_42_method_54_code 1 = .ok (.getfield 9, 3) := by decide +kernel
theorem d_slen_4 : decode jdk_42_method_54_code 4 = .ok (.arraylength, 1) := by decide +kernel
theorem d_slen_5 : decode jdk_42_method_54_code 5 = .ok (.aload_n 0, 1) := by decide +kernel
theorem d_slen_6 : decode jdk_42_method_54_code 6 = .ok (.invokevirtual 335, 3) := by decide +kernel
theorem d_slen_9 : decode jdk_42_method_54_code 9 = .ok (.ishr, 1) := by decide +kernel
theorem d_slen_10 : decode jdk_42_method_54_code 10 = .ok (.ireturn, 1) := by decide +kernel
abbrev rm_slen : Room := ({ frames := 1, cells := 0, slots := 0, locals := 13 } : Room)
def Q_slen (Z : State) (x t : Addr) (cs : List Int32) (h0 : Heap) (v : Option Value) (h : Heap) : Prop := v = some (.int (Int32.ofNat cs.length)) ∧ h = h0
set_option maxRecDepth 65536 in
set_option maxHeartbeats 40000000 in
theorem ct_slen (l : Launch) (Z : State) (a0 : Array Value) (hw : ∀ d ∈ tables_1, d.before a0 Z = true) (G1 : Int32) (G3 : Value) (OS : Sts Z G1 G3) (hEL : EW Z a0 EL) (hSA : ∀ a ∈ Bundle.stringAtoms, a.before a0 Z = true) (x t : Addr) (cs : List Int32) {h0 : Heap} (O : Ext Z.heap h0) (S0 : OStr Z h0 x t cs) : Ct l Z (⟨"java/lang/String", "length", "()I"⟩ : MethodName) jdk_42_method_54_code 1 (some .int) rm_slen #[(.ref x)] h0 (Q_slen Z x t cs h0) := by
  refine Ct.of_body (Ls := #[.val (.ref x)]) (by decide +kernel) O (fun m => by first | rfl | (simp [entryFrame, mkF, argsToLocals, Value.category]; done) | (rcases ref_cases (Sts.ref OS) with rfl | ⟨r, rfl⟩ <;> rfl)) ?_
  intro p e s m below meth c T0 X0 e0
  subst e0
  obtain ⟨kb, cd, N, vs, E0, F0, C0, V0, hcod, hpc, hlen⟩ := S0
  refine E_aloadN X0 d_slen_0 rfl rfl (pc' := 1) rfl ?_
  refine E_getfield X0 d_slen_1 (hw _ (List.mem_of_getElem? (i := 24) rfl)) Via.refl F0 (pc' := 4) rfl ?_
  intro T1 X2 e3
  rw [← e3] at E0 F0 C0 V0
  refine E_arraylength X2 d_slen_4 V0 (pc' := 5) rfl ?_
  refine E_aloadN X2 d_slen_5 rfl rfl (pc' := 6) rfl ?_
  refine E_virtual X2 (rm := rm_cod) (a := x) (D := "java/lang/String") d_slen_6 (hw _ (List.mem_of_getElem? (i := 90) rfl)) (hw _ (List.mem_of_getElem? (i := 91) rfl)) (hw _ (List.mem_of_getElem? (i := 93) rfl)) (hw _ (List.mem_of_getElem? (i := 92) rfl)) (notFace_of_selects (args := #[]) (mvT X2.hZ (hw _ (List.mem_of_getElem? (i := 93) rfl)))) (by decide) E0 (hw _ (List.mem_of_getElem? (i := 6) rfl)) (hw _ (List.mem_of_getElem? (i := 94) rfl)) (argsL := []) (st := [(.int N)]) rfl (ct_cod l Z a0 hw G1 G3 OS hEL hSA x cd X2.old C0 hcod.cd8) (lenOf (pd_0) rfl) rfl (by decide) (by decide) (by decide) (Nat.le_of_ble_eq_true rfl)  (pc' := 9) rfl ?_
  intro T4 _ X5 hQ6
  obtain ⟨rfl, e7⟩ := hQ6
  rw [← e7] at E0 F0 C0 V0
  show Ends p e below s Z _ _ _ T4 (mkF m 9 #[.val (.ref x)] [(.int cd), (.int N)])
  refine E_ishr X5 (v := (Int32.ofNat cs.length)) d_slen_9 (hcod.len hlen) (pc' := 10) rfl ?_
  exact E_ireturnI X5 d_slen_10 rfl (by decide) (by decide) (⟨rfl, (e7.trans e3)⟩)
theorem d_semp_0 : decode jdk_42_method_55_code 0 = .ok (.aload_n 0, 1) := by decide +kernel
theorem d_semp_1 : decode jdk_42_method_55_code 1 = .ok (.getfield 9, 3) := by decide +kernel
theorem d_semp_4 : decode jdk_42_method_55_code 4 = .ok (.arraylength, 1) := by decide +kernel
theorem d_semp_5 : decode jdk_42_method_55_code 5 = .ok (.ifCond .ne 7, 3) := by decide +kernel
theorem d_semp_8 : decode jdk_42_method_55_code 8 = .ok (.iconst 1, 1) := by decide +kernel
theorem d_semp_9 : decode jdk_42_method_55_code 9 = .ok (.goto 4, 3) := by decide +kernel
theorem d_semp_12 : decode jdk_42_method_55_code 12 = .ok (.iconst 0, 1) := by decide +kernel
theorem d_semp_13 : decode jdk_42_method_55_code 13 = .ok (.ireturn, 1) := by decide +kernel
abbrev rm_semp : Room := ({ frames := 0, cells := 0, slots := 0, locals := 0 } : Room)
def Q_semp (Z : State) (x t : Addr) (cs : List Int32) (h0 : Heap) (v : Option Value) (h : Heap) : Prop := ∃ z, v = some (.int z) ∧ h = h0 ∧ (cs.length = 0 → z = 1) ∧ (¬ cs.length = 0 → z = 0)
set_option maxRecDepth 65536 in
set_option maxHeartbeats 40000000 in
theorem ct_semp (l : Launch) (Z : State) (a0 : Array Value) (hw : ∀ d ∈ tables_1, d.before a0 Z = true) (G1 : Int32) (G3 : Value) (OS : Sts Z G1 G3) (hEL : EW Z a0 EL) (hSA : ∀ a ∈ Bundle.stringAtoms, a.before a0 Z = true) (x t : Addr) (cs : List Int32) {h0 : Heap} (O : Ext Z.heap h0) (S0 : OStr Z h0 x t cs) : Ct l Z (⟨"java/lang/String", "isEmpty", "()Z"⟩ : MethodName) jdk_42_method_55_code 1 (some .boolean) rm_semp #[(.ref x)] h0 (Q_semp Z x t cs h0) := by
  refine Ct.of_body (Ls := #[.val (.ref x)]) (by decide +kernel) O (fun m => by first | rfl | (simp [entryFrame, mkF, argsToLocals, Value.category]; done) | (rcases ref_cases (Sts.ref OS) with rfl | ⟨r, rfl⟩ <;> rfl)) ?_
  intro p e s m below meth c T0 X0 e0
  subst e0
  obtain ⟨kb, cd, N, vs, E0, F0, C0, V0, hcod, hpc, hlen⟩ := S0
  refine E_aloadN X0 d_semp_0 rfl rfl (pc' := 1) rfl ?_
  refine E_getfield X0 d_semp_1 (hw _ (List.mem_of_getElem? (i := 24) rfl)) Via.refl F0 (pc' := 4) rfl ?_
  intro T1 X2 e3
  rw [← e3] at E0 F0 C0 V0
  refine E_arraylength X2 d_semp_4 V0 (pc' := 5) rfl ?_
  by_cases hc : N = 0
  · skip
    refine E_ifF X2 d_semp_5 (XT.i0_ne_f hc) (pc' := 8) rfl ?_
    refine E_iconst X2 (v := (1 : Int32)) d_semp_8 rfl (pc' := 9) rfl ?_
    refine E_goto X2 d_semp_9 (pc' := 13) (by decide) rfl ?_
    exact E_ireturnN X2 (t := .boolean) d_semp_13 rfl (by simp) (by decide) (by decide) (⟨_, rfl, e3, fun _ => rfl, fun q => absurd ((hcod.n0 hlen).mp hc) q⟩)
  · skip
    refine E_ifT X2 d_semp_5 (XT.i0_ne_t hc) (pc' := 12) (by decide) rfl ?_
    refine E_iconst X2 (v := (0 : Int32)) d_semp_12 rfl (pc' := 13) rfl ?_
    exact E_ireturnN X2 (t := .boolean) d_semp_13 rfl (by simp) (by decide) (by decide) (⟨_, rfl, e3, fun q => absurd ((hcod.n0 hlen).mpr q) hc, fun _ => rfl⟩)
theorem d_compress5_0 : decode jdk_52_method_21_code 0 = .ok (.iconst 0, 1) := by decide +kernel
theorem d_compress5_1 : decode jdk_52_method_21_code 1 = .ok (.istore 5, 2) := by decide +kernel
theorem d_compress5_3 : decode jdk_52_method_21_code 3 = .ok (.iload 5, 2) := by decide +kernel
theorem d_compress5_5 : decode jdk_52_method_21_code 5 = .ok (.iload 4, 2) := by decide +kernel
theorem d_compress5_7 : decode jdk_52_method_21_code 7 = .ok (.if_icmp .ge 37, 3) := by decide +kernel
theorem d_compress5_10 : decode jdk_52_method_21_code 10 = .ok (.aload_n 0, 1) := by decide +kernel
theorem d_compress5_11 : decode jdk_52_method_21_code 11 = .ok (.iload_n 1, 1) := by decide +kernel
theorem d_compress5_12 : decode jdk_52_method_21_code 12 = .ok (.caload, 1) := by decide +kernel
theorem d_compress5_13 : decode jdk_52_method_21_code 13 = .ok (.istore 6, 2) := by decide +kernel
theorem d_compress5_15 : decode jdk_52_method_21_code 15 = .ok (.iload 6, 2) := by decide +kernel
theorem d_compress5_17 : decode jdk_52_method_21_code 17 = .ok (.sipush 255, 3) := by decide +kernel
theorem d_compress5_20 : decode jdk_52_method_21_code 20 = .ok (.if_icmp .le 6, 3) := by decide +kernel
theorem d_compress5_23 : decode jdk_52_method_21_code 23 = .ok (.iload 5, 2) := by decide +kernel
theorem d_compress5_25 : decode jdk_52_method_21_code 25 = .ok (.ireturn, 1) := by decide +kernel
theorem d_compress5_26 : decode jdk_52_method_21_code 26 = .ok (.aload_n 2, 1) := by decide +kernel
theorem d_compress5_27 : decode jdk_52_method_21_code 27 = .ok (.iload_n 3, 1) := by decide +kernel
theorem d_compress5_28 : decode jdk_52_method_21_code 28 = .ok (.iload 6, 2) := by decide +kernel
theorem d_compress5_30 : decode jdk_52_method_21_code 30 = .ok (.i2b, 1) := by decide +kernel
theorem d_compress5_31 : decode jdk_52_method_21_code 31 = .ok (.bastore, 1) := by decide +kernel
theorem d_compress5_32 : decode jdk_52_method_21_code 32 = .ok (.iinc 1 1, 3) := by decide +kernel
theorem d_compress5_35 : decode jdk_52_method_21_code 35 = .ok (.iinc 3 1, 3) := by decide +kernel
theorem d_compress5_38 : decode jdk_52_method_21_code 38 = .ok (.iinc 5 1, 3) := by decide +kernel
theorem d_compress5_41 : decode jdk_52_method_21_code 41 = .ok (.goto (-38), 3) := by decide +kernel
theorem d_compress5_44 : decode jdk_52_method_21_code 44 = .ok (.iload 4, 2) := by decide +kernel
theorem d_compress5_46 : decode jdk_52_method_21_code 46 = .ok (.ireturn, 1) := by decide +kernel
abbrev rm_compress5 : Room := ({ frames := 0, cells := 0, slots := 0, locals := 0 } : Room)
def Q_compress5 (Z : State) (b t : Addr) (kC kb : ClassId) (cs : List Int32) (dv : Value) (h0 : Heap) (v : Option Value) (h : Heap) : Prop := Keep h0 h [t] ∧ ((v = some (.int (Int32.ofNat cs.length)) ∧ (∀ c ∈ cs, ¬ (255 : Int32) < c) ∧ Arv Z h t kb .byte (Int32.ofNat cs.length) (cs.map lo8) (.int (0 : Int32))) ∨ (∃ j, j < cs.length ∧ v = some (.int (Int32.ofNat j)) ∧ (255 : Int32) < cs.getD j 0))
set_option maxRecDepth 65536 in
set_option maxHeartbeats 40000000 in
theorem lp_compress5 (l : Launch) (Z : State) (a0 : Array Value) (hw : ∀ d ∈ tables_1, d.before a0 Z = true) (G1 : Int32) (G3 : Value) (OS : Sts Z G1 G3) (hEL : EW Z a0 EL) (hSA : ∀ a ∈ Bundle.stringAtoms, a.before a0 Z = true) (b t : Addr) (kC kb : ClassId) (cs : List Int32) (dv : Value) {h0 : Heap} {p : Program} {e : Env} {s : State} {m : MethodId} {below : List Frame} {meth : Method} {c : Code} (k : Nat) : ∀ {T0 : State} (i : Nat) (o : Slot), Wk l Z rm_compress5 jdk_52_method_21_code 7 (some .int) "java/lang/StringUTF16" "compress" p e s m #[(.ref b), (.int (0 : Int32)), (.ref t), (.int (0 : Int32)), (.int (Int32.ofNat cs.length))] below meth c T0 0 0 → (i + k = cs.length) → (o = .unset ∨ ∃ w, o = .val w ∧ w.category = 1) → (cs.length ≤ 4000) → (Arv Z T0.heap b kC .char (Int32.ofNat cs.length) (cs.map Value.int) dv) → (Arv Z T0.heap t kb .byte (Int32.ofNat cs.length) ((cs.take i).map lo8) (.int (0 : Int32))) → (b ≠ t) → (Z.heap.size ≤ t) → (Keep h0 T0.heap [t]) → (∀ c ∈ cs.take i, ¬ (255 : Int32) < c) → Ends p e below s Z (Q_compress5 Z b t kC kb cs dv h0) rm_compress5.cells rm_compress5.slots T0 (mkF m 3 #[.val (.ref b), .val (.int (Int32.ofNat i)), .val (.ref t), .val (.int (Int32.ofNat i)), .val (.int (Int32.ofNat cs.length)), .val (.int (Int32.ofNat i)), o] []) := by
  induction k with
  | zero =>
    intro T0 i o X0 hi hone hlen V0 D0 hbt gt K00 hall
    have hik : i = cs.length := by omega
    subst hik
    rw [List.take_length] at hall
    rw [List.take_length] at D0
    refine E_iload X0 d_compress5_3 rfl (pc' := 5) rfl ?_
    refine E_iload X0 d_compress5_5 rfl (pc' := 7) rfl ?_
    refine E_icT X0 d_compress5_7 (XT.ii_ge_t (o_nlt (Nat.le_refl _) (by omega))) (pc' := 44) (by decide) rfl ?_
    refine E_iload X0 d_compress5_44 rfl (pc' := 46) rfl ?_
    exact E_ireturnI X0 d_compress5_46 rfl (by decide) (by decide) (⟨K00, Or.inl ⟨rfl, hall, D0⟩⟩)
  | succ k ih =>
    intro T0 i o X0 hi hone hlen V0 D0 hbt gt K00 hall
    have hlt : i < cs.length := by omega
    obtain ⟨ch, hch⟩ : ∃ c, c = cs.getD i 0 := ⟨_, rfl⟩
    refine E_iload X0 d_compress5_3 rfl (pc' := 5) rfl ?_
    refine E_iload X0 d_compress5_5 rfl (pc' := 7) rfl ?_
    refine E_icF X0 d_compress5_7 (XT.ii_ge_f (o_lt hlt (by omega))) (pc' := 10) rfl ?_
    refine E_aloadN X0 d_compress5_10 rfl rfl (pc' := 11) rfl ?_
    refine E_iloadN X0 d_compress5_11 rfl (pc' := 12) rfl ?_
    refine E_caload X0 (v := (.int ch)) d_compress5_12 V0 ⟨o_nn (by omega), o_lt hlt (by omega)⟩ (by rw [own_getD Value.int hlt hlen, hch]) (pc' := 13) rfl ?_
    refine E_istore X0 d_compress5_13 (l' := #[.val (.ref b), .val (.int (Int32.ofNat i)), .val (.ref t), .val (.int (Int32.ofNat i)), .val (.int (Int32.ofNat cs.length)), .val (.int (Int32.ofNat i)), .val (.int ch)]) (XS.store1 rfl hone rfl) (pc' := 15) rfl ?_
    refine E_iload X0 d_compress5_15 rfl (pc' := 17) rfl ?_
    refine E_sipush X0 (v := (255 : Int32)) d_compress5_17 rfl (pc' := 20) rfl ?_
    by_cases hc : (255 : Int32) < ch
    · skip
      refine E_icF X0 d_compress5_20 (XT.ii_le_f hc) (pc' := 23) rfl ?_
      refine E_iload X0 d_compress5_23 rfl (pc' := 25) rfl ?_
      exact E_ireturnI X0 d_compress5_25 rfl (by decide) (by decide) (⟨K00, Or.inr ⟨i, hlt, rfl, hch ▸ hc⟩⟩)
    · skip
      refine E_icT X0 d_compress5_20 (XT.ii_le_t hc) (pc' := 26) (by decide) rfl ?_
      refine E_aloadN X0 d_compress5_26 rfl rfl (pc' := 27) rfl ?_
      refine E_iloadN X0 d_compress5_27 rfl (pc' := 28) rfl ?_
      refine E_iload X0 d_compress5_28 rfl (pc' := 30) rfl ?_
      refine E_i2b X0 d_compress5_30 rfl (pc' := 31) rfl ?_
      refine E_bastoreA X0 (y := (ch).toInt8.toInt32) d_compress5_31 (o_b8 _) D0 ⟨o_nn (by omega), o_lt hlt (by omega)⟩ (by rw [o_cl (by omega), own_tl lo8 (by omega)]) gt (pc' := 32) rfl ?_
      intro T1 X2 K3 V4
      have KK5 := K00.trans K3 (allS (Or.inl (by simp)) (fun x q => nomatch q))
      have Arv_6 := V0.keep K3 (ninS hbt nin0)
      have V7 : Arv Z T1.heap t kb .byte (Int32.ofNat cs.length) ((cs.take i).map lo8 ++ [lo8 ch]) (.int (0 : Int32)) := V4
      refine E_iinc X2 (y := (Int32.ofNat (i + 1))) d_compress5_32 o_add rfl (l' := #[.val (.ref b), .val (.int (Int32.ofNat (i + 1))), .val (.ref t), .val (.int (Int32.ofNat i)), .val (.int (Int32.ofNat cs.length)), .val (.int (Int32.ofNat i)), .val (.int ch)]) rfl (pc' := 35) rfl ?_
      refine E_iinc X2 (y := (Int32.ofNat (i + 1))) d_compress5_35 o_add rfl (l' := #[.val (.ref b), .val (.int (Int32.ofNat (i + 1))), .val (.ref t), .val (.int (Int32.ofNat (i + 1))), .val (.int (Int32.ofNat cs.length)), .val (.int (Int32.ofNat i)), .val (.int ch)]) rfl (pc' := 38) rfl ?_
      refine E_iinc X2 (y := (Int32.ofNat (i + 1))) d_compress5_38 o_add rfl (l' := #[.val (.ref b), .val (.int (Int32.ofNat (i + 1))), .val (.ref t), .val (.int (Int32.ofNat (i + 1))), .val (.int (Int32.ofNat cs.length)), .val (.int (Int32.ofNat (i + 1))), .val (.int ch)]) rfl (pc' := 41) rfl ?_
      refine E_goto X2 d_compress5_41 (pc' := 3) (by decide) rfl ?_
      have hV2 : Arv Z T1.heap t kb .byte (Int32.ofNat cs.length) ((cs.take (i + 1)).map lo8) (.int (0 : Int32)) := by rw [own_take lo8 hlt, ← hch]; exact V7
      have hall2 := own_all hlt hch hall hc
      exact ih (i + 1) (.val (.int ch)) X2 (by omega) (Or.inr ⟨_, rfl, rfl⟩) hlen Arv_6 hV2 hbt gt KK5 hall2
set_option maxRecDepth 65536 in
set_option maxHeartbeats 40000000 in
theorem ct_compress5 (l : Launch) (Z : State) (a0 : Array Value) (hw : ∀ d ∈ tables_1, d.before a0 Z = true) (G1 : Int32) (G3 : Value) (OS : Sts Z G1 G3) (hEL : EW Z a0 EL) (hSA : ∀ a ∈ Bundle.stringAtoms, a.before a0 Z = true) (b t : Addr) (kC kb : ClassId) (cs : List Int32) (dv : Value) {h0 : Heap} (O : Ext Z.heap h0) (hlen : cs.length ≤ 4000) (V0 : Arv Z h0 b kC .char (Int32.ofNat cs.length) (cs.map Value.int) dv) (D0 : Arv Z h0 t kb .byte (Int32.ofNat cs.length) ([]) (.int (0 : Int32))) (hbt : b ≠ t) (gt : Z.heap.size ≤ t) : Ct l Z (⟨"java/lang/StringUTF16", "compress", "([CI[BII)I"⟩ : MethodName) jdk_52_method_21_code 7 (some .int) rm_compress5 #[(.ref b), (.int (0 : Int32)), (.ref t), (.int (0 : Int32)), (.int (Int32.ofNat cs.length))] h0 (Q_compress5 Z b t kC kb cs dv h0) := by
  refine Ct.of_body (Ls := #[.val (.ref b), .val (.int (0 : Int32)), .val (.ref t), .val (.int (0 : Int32)), .val (.int (Int32.ofNat cs.length)), .unset, .unset]) (by decide +kernel) O (fun m => by first | rfl | (simp [entryFrame, mkF, argsToLocals, Value.category]; done) | (rcases ref_cases (Sts.ref OS) with rfl | ⟨r, rfl⟩ <;> rfl)) ?_
  intro p e s m below meth c T0 X0 e0
  subst e0
  refine E_iconst X0 (v := (0 : Int32)) d_compress5_0 rfl (pc' := 1) rfl ?_
  refine E_istore X0 d_compress5_1 (l' := #[.val (.ref b), .val (.int (0 : Int32)), .val (.ref t), .val (.int (0 : Int32)), .val (.int (Int32.ofNat cs.length)), .val (.int (0 : Int32)), .unset]) rfl (pc' := 3) rfl ?_
  exact lp_compress5 l Z a0 hw G1 G3 OS hEL hSA b t kC kb cs dv cs.length 0 .unset X0 (by omega) (Or.inl rfl) hlen V0 D0 hbt gt (Keep.refl _ _) (fun c hc => by simp at hc)
theorem d_cfl_0 : decode jdk_52_method_15_code 0 = .ok (.iload_n 1, 1) := by decide +kernel
theorem d_cfl_1 : decode jdk_52_method_15_code 1 = .ok (.aload_n 0, 1) := by decide +kernel
theorem d_cfl_2 : decode jdk_52_method_15_code 2 = .ok (.arraylength, 1) := by decide +kernel
theorem d_cfl_3 : decode jdk_52_method_15_code 3 = .ok (.isub, 1) := by decide +kernel
theorem d_cfl_4 : decode jdk_52_method_15_code 4 = .ok (.bipush 31, 2) := by decide +kernel
theorem d_cfl_6 : decode jdk_52_method_15_code 6 = .ok (.iushr, 1) := by decide +kernel
theorem d_cfl_7 : decode jdk_52_method_15_code 7 = .ok (.i2b, 1) := by decide +kernel
theorem d_cfl_8 : decode jdk_52_method_15_code 8 = .ok (.ireturn, 1) := by decide +kernel
abbrev rm_cfl : Room := ({ frames := 0, cells := 0, slots := 0, locals := 0 } : Room)
def Q_cfl (Z : State) (t : Addr) (kb : ClassId) (N n z : Int32) (vs : List Value) (h0 : Heap) (v : Option Value) (h : Heap) : Prop := v = some (.int z) ∧ h = h0
set_option maxRecDepth 65536 in
set_option maxHeartbeats 40000000 in
theorem ct_cfl (l : Launch) (Z : State) (a0 : Array Value) (hw : ∀ d ∈ tables_1, d.before a0 Z = true) (G1 : Int32) (G3 : Value) (OS : Sts Z G1 G3) (hEL : EW Z a0 EL) (hSA : ∀ a ∈ Bundle.stringAtoms, a.before a0 Z = true) (t : Addr) (kb : ClassId) (N n z : Int32) (vs : List Value) {h0 : Heap} (O : Ext Z.heap h0) (V0 : Arv Z h0 t kb .byte N vs (.int (0 : Int32))) (hz : nar .byte ((((n - N).toUInt32 >>> ((31 : Int32) &&& 31).toUInt32).toInt32).toInt8.toInt32) = z) : Ct l Z (⟨"java/lang/StringUTF16", "coderFromArrayLen", "([BI)B"⟩ : MethodName) jdk_52_method_15_code 2 (some .byte) rm_cfl #[(.ref t), (.int n)] h0 (Q_cfl Z t kb N n z vs h0) := by
  refine Ct.of_body (Ls := #[.val (.ref t), .val (.int n)]) (by decide +kernel) O (fun m => by first | rfl | (simp [entryFrame, mkF, argsToLocals, Value.category]; done) | (rcases ref_cases (Sts.ref OS) with rfl | ⟨r, rfl⟩ <;> rfl)) ?_
  intro p e s m below meth c T0 X0 e0
  subst e0
  refine E_iloadN X0 d_cfl_0 rfl (pc' := 1) rfl ?_
  refine E_aloadN X0 d_cfl_1 rfl rfl (pc' := 2) rfl ?_
  refine E_arraylength X0 d_cfl_2 V0 (pc' := 3) rfl ?_
  refine E_isub X0 d_cfl_3 rfl (pc' := 4) rfl ?_
  refine E_bipush X0 (v := (31 : Int32)) d_cfl_4 rfl (pc' := 6) rfl ?_
  refine E_iushr X0 d_cfl_6 rfl (pc' := 7) rfl ?_
  refine E_i2b X0 d_cfl_7 rfl (pc' := 8) rfl ?_
  exact E_ireturnN X0 (t := .byte) d_cfl_8 rfl (by simp) (by decide) (by decide) (⟨by rw [hz], rfl⟩)
theorem d_compress3_0 : decode jdk_52_method_16_code 0 = .ok (.iload_n 2, 1) := by decide +kernel
theorem d_compress3_1 : decode jdk_52_method_16_code 1 = .ok (.newarray .byte, 2) := by decide +kernel
theorem d_compress3_3 : decode jdk_52_method_16_code 3 = .ok (.astore_n 3, 1) := by decide +kernel
theorem d_compress3_4 : decode jdk_52_method_16_code 4 = .ok (.aload_n 0, 1) := by decide +kernel
theorem d_compress3_5 : decode jdk_52_method_16_code 5 = .ok (.iload_n 1, 1) := by decide +kernel
theorem d_compress3_6 : decode jdk_52_method_16_code 6 = .ok (.aload_n 3, 1) := by decide +kernel
theorem d_compress3_7 : decode jdk_52_method_16_code 7 = .ok (.iconst 0, 1) := by decide +kernel
theorem d_compress3_8 : decode jdk_52_method_16_code 8 = .ok (.iload_n 2, 1) := by decide +kernel
theorem d_compress3_9 : decode jdk_52_method_16_code 9 = .ok (.invokestatic 115, 3) := by decide +kernel
theorem d_compress3_12 : decode jdk_52_method_16_code 12 = .ok (.istore 4, 2) := by decide +kernel
theorem d_compress3_14 : decode jdk_52_method_16_code 14 = .ok (.iload 4, 2) := by decide +kernel
theorem d_compress3_16 : decode jdk_52_method_16_code 16 = .ok (.iload_n 2, 1) := by decide +kernel
theorem d_compress3_17 : decode jdk_52_method_16_code 17 = .ok (.if_icmp .eq 40, 3) := by decide +kernel
theorem d_compress3_57 : decode jdk_52_method_16_code 57 = .ok (.aload_n 3, 1) := by decide +kernel
theorem d_compress3_58 : decode jdk_52_method_16_code 58 = .ok (.areturn, 1) := by decide +kernel
abbrev rm_compress3 : Room := ({ frames := 1, cells := 1, slots := 3, locals := 18 } : Room)
def Q_compress3 (Z : State) (b : Addr) (kC : ClassId) (cs : List Int32) (dv : Value) (h0 : Heap) (v : Option Value) (h : Heap) : Prop := ∃ t kb, v = some (.ref t) ∧ Keep h0 h [] ∧ h0.size ≤ t ∧ ((∀ c ∈ cs, ¬ (255 : Int32) < c) ∧ Arv Z h t kb .byte (Int32.ofNat cs.length) (cs.map lo8) (.int (0 : Int32)))
set_option maxRecDepth 65536 in
set_option maxHeartbeats 40000000 in
theorem ct_compress3 (l : Launch) (Z : State) (a0 : Array Value) (hw : ∀ d ∈ tables_1, d.before a0 Z = true) (G1 : Int32) (G3 : Value) (OS : Sts Z G1 G3) (hEL : EW Z a0 EL) (hSA : ∀ a ∈ Bundle.stringAtoms, a.before a0 Z = true) (b : Addr) (kC : ClassId) (cs : List Int32) (dv : Value) {h0 : Heap} (O : Ext Z.heap h0) (hmx : cs.length ≤ 3) (hmx4 : cs.length ≤ 4000) (hp : ∀ c ∈ cs, ¬ (255 : Int32) < c) (V0 : Arv Z h0 b kC .char (Int32.ofNat cs.length) (cs.map Value.int) dv) : Ct l Z (⟨"java/lang/StringUTF16", "compress", "([CII)[B"⟩ : MethodName) jdk_52_method_16_code 6 (some (.array .byte)) rm_compress3 #[(.ref b), (.int (0 : Int32)), (.int (Int32.ofNat cs.length))] h0 (Q_compress3 Z b kC cs dv h0) := by
  refine Ct.of_body (Ls := #[.val (.ref b), .val (.int (0 : Int32)), .val (.int (Int32.ofNat cs.length)), .unset, .unset, .unset]) (by decide +kernel) O (fun m => by first | rfl | (simp [entryFrame, mkF, argsToLocals, Value.category]; done) | (rcases ref_cases (Sts.ref OS) with rfl | ⟨r, rfl⟩ <;> rfl)) ?_
  intro p e s m below meth c T0 X0 e0
  subst e0
  have K00 := Keep.refl T0.heap []
  refine E_iloadN X0 d_compress3_0 rfl (pc' := 1) rfl ?_
  refine E_newarray X0 3 d_compress3_1 (hw _ (List.mem_of_getElem? (i := 19) rfl)) (o_nn (by omega)) (by rw [o_cl (by omega)]; exact hmx) (by decide) (by decide) (by decide) (pc' := 3) rfl ?_
  intro T1 b3 k7 X2 hb4 K5 V6
  have sz8 : T0.heap.size ≤ b3 := Nat.le_trans K00.1 (Nat.le_of_eq hb4.symm)
  have ne9 : b ≠ b3 := Nat.ne_of_lt (Nat.lt_of_lt_of_eq V0.lt hb4.symm)
  have KK10 := K00.trans K5 (fun x q => nomatch q)
  have Arv_11 := V0.keep K5 nin0
  have g12 : Z.heap.size ≤ b3 := Nat.le_trans X0.le (Nat.le_of_eq hb4.symm)
  have V13 : Arv Z T1.heap b3 k7 .byte (Int32.ofNat cs.length) [] (.int (0 : Int32)) := V6
  refine E_astoreN X2 d_compress3_3 rfl (l' := #[.val (.ref b), .val (.int (0 : Int32)), .val (.int (Int32.ofNat cs.length)), .val (.ref b3), .unset, .unset]) rfl (pc' := 4) rfl ?_
  refine E_aloadN X2 d_compress3_4 rfl rfl (pc' := 5) rfl ?_
  refine E_iloadN X2 d_compress3_5 rfl (pc' := 6) rfl ?_
  refine E_aloadN X2 d_compress3_6 rfl rfl (pc' := 7) rfl ?_
  refine E_iconst X2 (v := (0 : Int32)) d_compress3_7 rfl (pc' := 8) rfl ?_
  refine E_iloadN X2 d_compress3_8 rfl (pc' := 9) rfl ?_
  refine E_static X2 (rm := rm_compress5) d_compress3_9 (hw _ (List.mem_of_getElem? (i := 121) rfl)) (hw _ (List.mem_of_getElem? (i := 122) rfl)) (hw _ (List.mem_of_getElem? (i := 119) rfl)) (hw _ (List.mem_of_getElem? (i := 123) rfl)) (by decide) (argsL := [(.ref b), (.int (0 : Int32)), (.ref b3), (.int (0 : Int32)), (.int (Int32.ofNat cs.length))]) (st := []) rfl (ct_compress5 l Z a0 hw G1 G3 OS hEL hSA b b3 kC k7 cs dv X2.old hmx4 Arv_11 V13 ne9 g12) (lenOf (pd_1) rfl) rfl (by decide) (by decide) (by decide) (Nat.le_of_ble_eq_true rfl)  (pc' := 12) rfl ?_
  intro T14 _ X15 hQ16
  obtain ⟨K17, hor⟩ := hQ16
  have KK18 := KK10.trans K17 (allS (Or.inr sz8) (fun x q => nomatch q))
  have Arv_19 := Arv_11.keep K17 (ninS ne9 nin0)
  rcases hor with ⟨rfl, hall, VB⟩ | ⟨j, hj, rfl, hbig⟩
  · skip
    show Ends p e below s Z _ _ _ T14 (mkF m 12 #[.val (.ref b), .val (.int (0 : Int32)), .val (.int (Int32.ofNat cs.length)), .val (.ref b3), .unset, .unset] [(.int (Int32.ofNat cs.length))])
    refine E_istore X15 d_compress3_12 (l' := #[.val (.ref b), .val (.int (0 : Int32)), .val (.int (Int32.ofNat cs.length)), .val (.ref b3), .val (.int (Int32.ofNat cs.length)), .unset]) rfl (pc' := 14) rfl ?_
    refine E_iload X15 d_compress3_14 rfl (pc' := 16) rfl ?_
    refine E_iloadN X15 d_compress3_16 rfl (pc' := 17) rfl ?_
    refine E_icT X15 d_compress3_17 (XT.ii_eq_t rfl) (pc' := 57) (by decide) rfl ?_
    refine E_aloadN X15 d_compress3_57 rfl rfl (pc' := 58) rfl ?_
    exact E_areturn X15 (t := (.array .byte)) d_compress3_58 rfl rfl rfl rfl (by decide) (by decide) (⟨b3, k7, rfl, KK18, sz8, ⟨hall, VB⟩⟩)
  · skip
    exact absurd hbig (hp _ (own_mem hj))
theorem d_init4_0 : decode jdk_42_method_149_code 0 = .ok (.aload_n 0, 1) := by decide +kernel
theorem d_init4_1 : decode jdk_42_method_149_code 1 = .ok (.invokespecial 1, 3) := by decide +kernel
theorem d_init4_4 : decode jdk_42_method_149_code 4 = .ok (.iload_n 3, 1) := by decide +kernel
theorem d_init4_5 : decode jdk_42_method_149_code 5 = .ok (.ifCond .ne 22, 3) := by decide +kernel
theorem d_init4_27 : decode jdk_42_method_149_code 27 = .ok (.getstatic 38, 3) := by decide +kernel
theorem d_init4_30 : decode jdk_42_method_149_code 30 = .ok (.ifCond .eq 28, 3) := by decide +kernel
theorem d_init4_33 : decode jdk_42_method_149_code 33 = .ok (.aload_n 1, 1) := by decide +kernel
theorem d_init4_34 : decode jdk_42_method_149_code 34 = .ok (.iload_n 2, 1) := by decide +kernel
theorem d_init4_35 : decode jdk_42_method_149_code 35 = .ok (.iload_n 3, 1) := by decide +kernel
theorem d_init4_36 : decode jdk_42_method_149_code 36 = .ok (.invokestatic 177, 3) := by decide +kernel
theorem d_init4_39 : decode jdk_42_method_149_code 39 = .ok (.astore 5, 2) := by decide +kernel
theorem d_init4_41 : decode jdk_42_method_149_code 41 = .ok (.aload_n 0, 1) := by decide +kernel
theorem d_init4_42 : decode jdk_42_method_149_code 42 = .ok (.aload 5, 2) := by decide +kernel
theorem d_init4_44 : decode jdk_42_method_149_code 44 = .ok (.iload_n 3, 1) := by decide +kernel
theorem d_init4_45 : decode jdk_42_method_149_code 45 = .ok (.invokestatic 47, 3) := by decide +kernel
theorem d_init4_48 : decode jdk_42_method_149_code 48 = .ok (.putfield 15, 3) := by decide +kernel
theorem d_init4_51 : decode jdk_42_method_149_code 51 = .ok (.aload_n 0, 1) := by decide +kernel
theorem d_init4_52 : decode jdk_42_method_149_code 52 = .ok (.aload 5, 2) := by decide +kernel
theorem d_init4_54 : decode jdk_42_method_149_code 54 = .ok (.putfield 9, 3) := by decide +kernel
theorem d_init4_57 : decode jdk_42_method_149_code 57 = .ok (.return_, 1) := by decide +kernel
abbrev rm_init4 : Room := ({ frames := 2, cells := 1, slots := 3, locals := 35 } : Room)
def Q_init4 (Z : State) (x b : Addr) (kC : ClassId) (cs : List Int32) (dv v0 c0 : Value) (h0 : Heap) (v : Option Value) (h : Heap) : Prop := v = none ∧ Keep h0 h [x] ∧ ∃ t, h0.size ≤ t ∧ OStr Z h x t cs
set_option maxRecDepth 65536 in
set_option maxHeartbeats 40000000 in
theorem ct_init4 (l : Launch) (Z : State) (a0 : Array Value) (hw : ∀ d ∈ tables_1, d.before a0 Z = true) (G1 : Int32) (G3 : Value) (OS : Sts Z G1 G3) (hEL : EW Z a0 EL) (hSA : ∀ a ∈ Bundle.stringAtoms, a.before a0 Z = true) (x b : Addr) (kC : ClassId) (cs : List Int32) (dv v0 c0 : Value) {h0 : Heap} (O : Ext Z.heap h0) (h0l : 0 < cs.length) (hmx : cs.length ≤ 3) (hp : ∀ c ∈ cs, ¬ c < 0 ∧ ¬ (255 : Int32) < c) (E0 : Exa Z h0 x "java/lang/String") (F0 : Fld Z h0 x "java/lang/String" "value" "[B" v0) (C0 : Fld Z h0 x "java/lang/String" "coder" "B" c0) (gx : Z.heap.size ≤ x) (V0 : Arv Z h0 b kC .char (Int32.ofNat cs.length) (cs.map Value.int) dv) : Ct l Z (⟨"java/lang/String", "<init>", "([CIILjava/lang/Void;)V"⟩ : MethodName) jdk_42_method_149_code 6 none rm_init4 #[(.ref x), (.ref b), (.int (0 : Int32)), (.int (Int32.ofNat cs.length)), .null] h0 (Q_init4 Z x b kC cs dv v0 c0 h0) := by
  refine Ct.of_body (Ls := #[.val (.ref x), .val (.ref b), .val (.int (0 : Int32)), .val (.int (Int32.ofNat cs.length)), .val .null, .unset]) (by decide +kernel) O (fun m => by first | rfl | (simp [entryFrame, mkF, argsToLocals, Value.category]; done) | (rcases ref_cases (Sts.ref OS) with rfl | ⟨r, rfl⟩ <;> rfl)) ?_
  intro p e s m below meth c T0 X0 e0
  subst e0
  have hmx4 : cs.length ≤ 4000 := by omega
  have hxb : b ≠ x := fun q => by subst q; exact absurd rfl (ne_arr E0 (hw _ (List.mem_of_getElem? (i := 5) rfl)) (V0.choose_spec.1))
  have K00 := Keep.refl T0.heap [x]
  refine E_aloadN X0 d_init4_0 rfl rfl (pc' := 1) rfl ?_
  refine E_initO X0 d_init4_1 (hw _ (List.mem_of_getElem? (i := 15) rfl)) (hw _ (List.mem_of_getElem? (i := 16) rfl)) (hw _ (List.mem_of_getElem? (i := 17) rfl)) rfl (by decide) (Nat.le_of_ble_eq_true rfl) (pc' := 4) rfl ?_
  intro T1 X2 e3
  have KK4 := own_keq K00 e3
  rw [← e3] at E0 F0 C0 V0
  refine E_iloadN X2 d_init4_4 rfl (pc' := 5) rfl ?_
  refine E_ifT X2 d_init4_5 (XT.i0_ne_t (fun q => by have q2 := congrArg Int32.toInt q; rw [o_int (by omega)] at q2; have o1 : (0 : Int32).toInt = 0 := rfl; omega)) (pc' := 27) (by decide) rfl ?_
  refine E_getstatic X2 d_init4_27 (hw _ (List.mem_of_getElem? (i := 80) rfl)) Via.refl OS.1 (pc' := 30) rfl ?_
  intro T5 X6 e7
  have KK8 := own_keq KK4 e7
  rw [← e7] at E0 F0 C0 V0
  refine E_ifF X6 d_init4_30 (XT.i0_eq_f OS.2.1) (pc' := 33) rfl ?_
  refine E_aloadN X6 d_init4_33 rfl rfl (pc' := 34) rfl ?_
  refine E_iloadN X6 d_init4_34 rfl (pc' := 35) rfl ?_
  refine E_iloadN X6 d_init4_35 rfl (pc' := 36) rfl ?_
  refine E_static X6 (rm := rm_compress3) d_init4_36 (hw _ (List.mem_of_getElem? (i := 117) rfl)) (hw _ (List.mem_of_getElem? (i := 118) rfl)) (hw _ (List.mem_of_getElem? (i := 119) rfl)) (hw _ (List.mem_of_getElem? (i := 120) rfl)) (by decide) (argsL := [(.ref b), (.int (0 : Int32)), (.int (Int32.ofNat cs.length))]) (st := []) rfl (ct_compress3 l Z a0 hw G1 G3 OS hEL hSA b kC cs dv X6.old hmx hmx4 (fun c hc => (hp c hc).2) V0) (lenOf (pd_2) rfl) rfl (by decide) (by decide) (by decide) (Nat.le_of_ble_eq_true rfl)  (pc' := 39) rfl ?_
  intro T9 _ X10 hQ11
  obtain ⟨t, kb, rfl, K12, szt0, hVT⟩ := hQ11
  have hxt : t ≠ x := Ne.symm (Nat.ne_of_lt (Nat.lt_of_lt_of_le E0.lt szt0))
  have KK13 := KK8.trans K12 (fun x q => nomatch q)
  have Exa_14 := E0.keep K12
  have Fld_15 := F0.keep K12 nin0
  have Fld_16 := C0.keep K12 nin0
  have Arv_17 := V0.keep K12 nin0
  have szt : T0.heap.size ≤ t := Nat.le_trans KK8.1 szt0
  obtain ⟨hall, VT⟩ := hVT
  show Ends p e below s Z _ _ _ T9 (mkF m 39 #[.val (.ref x), .val (.ref b), .val (.int (0 : Int32)), .val (.int (Int32.ofNat cs.length)), .val .null, .unset] [(.ref t)])
  refine E_astore X10 d_init4_39 rfl (l' := #[.val (.ref x), .val (.ref b), .val (.int (0 : Int32)), .val (.int (Int32.ofNat cs.length)), .val .null, .val (.ref t)]) rfl (pc' := 41) rfl ?_
  refine E_aloadN X10 d_init4_41 rfl rfl (pc' := 42) rfl ?_
  refine E_aload X10 d_init4_42 rfl rfl (pc' := 44) rfl ?_
  refine E_iloadN X10 d_init4_44 rfl (pc' := 45) rfl ?_
  refine E_static X10 (rm := rm_cfl) d_init4_45 (hw _ (List.mem_of_getElem? (i := 124) rfl)) (hw _ (List.mem_of_getElem? (i := 125) rfl)) (hw _ (List.mem_of_getElem? (i := 119) rfl)) (hw _ (List.mem_of_getElem? (i := 126) rfl)) (by decide) (argsL := [(.ref t), (.int (Int32.ofNat cs.length))]) (st := [(.ref x)]) rfl (ct_cfl l Z a0 hw G1 G3 OS hEL hSA t kb (Int32.ofNat cs.length) (Int32.ofNat cs.length) 0 (cs.map lo8) X10.old VT (by rw [Int32.sub_self]; rfl)) (lenOf (pd_3) rfl) rfl (by decide) (by decide) (by decide) (Nat.le_of_ble_eq_true rfl)  (pc' := 48) rfl ?_
  intro T18 _ X19 hQ20
  obtain ⟨rfl, e21⟩ := hQ20
  have KK22 := own_keq KK13 e21
  rw [← e21] at Exa_14 Fld_15 Fld_16 Arv_17 VT
  show Ends p e below s Z _ _ _ T18 (mkF m 48 #[.val (.ref x), .val (.ref b), .val (.int (0 : Int32)), .val (.int (Int32.ofNat cs.length)), .val .null, .val (.ref t)] [(.int (0 : Int32)), (.ref x)])
  refine E_putfield X19 (ty := .byte) d_init4_48 (hw _ (List.mem_of_getElem? (i := 25) rfl)) Via.refl Fld_16 Exa_14 (Or.inr ⟨(hw _ (List.mem_of_getElem? (i := 21) rfl)), rfl, rfl⟩) (hw _ (List.mem_of_getElem? (i := 5) rfl)) (by decide) rfl rfl gx  (pc' := 51) rfl ?_
  intro T23 X24 W25
  have K26 := Keep.of_wr W25
  have KK27 := KK22.trans K26 (allS (Or.inl (by simp)) (fun x q => nomatch q))
  have Exa_28 := Exa_14.keep K26
  have Arv_29 := Arv_17.keep K26 (ninS hxb nin0)
  have Arv_30 := VT.keep K26 (ninS hxt nin0)
  have F31 := Fld_16.same W25
  have F32 := Fld_15.other W25 (Or.inr (slot_ne (Or.inr (hw _ (List.mem_of_getElem? (i := 20) rfl))) (Or.inr (hw _ (List.mem_of_getElem? (i := 21) rfl))) (by decide) (t := (.array .byte)) (t' := .byte) (by decide) (by decide)))
  refine E_aloadN X24 d_init4_51 rfl rfl (pc' := 52) rfl ?_
  refine E_aload X24 d_init4_52 rfl rfl (pc' := 54) rfl ?_
  refine E_putfield X24 (ty := (.array .byte)) d_init4_54 (hw _ (List.mem_of_getElem? (i := 24) rfl)) Via.refl F32 Exa_28 (Or.inr ⟨(hw _ (List.mem_of_getElem? (i := 20) rfl)), rfl, rfl⟩) (hw _ (List.mem_of_getElem? (i := 5) rfl)) (by decide) rfl rfl gx  (pc' := 57) rfl ?_
  intro T33 X34 W35
  have K36 := Keep.of_wr W35
  have KK37 := KK27.trans K36 (allS (Or.inl (by simp)) (fun x q => nomatch q))
  have Exa_38 := Exa_28.keep K36
  have Arv_39 := Arv_29.keep K36 (ninS hxb nin0)
  have Arv_40 := Arv_30.keep K36 (ninS hxt nin0)
  have F41 := F32.same W35
  have F42 := F31.other W35 (Or.inr (slot_ne (Or.inr (hw _ (List.mem_of_getElem? (i := 21) rfl))) (Or.inr (hw _ (List.mem_of_getElem? (i := 20) rfl))) (by decide) (t := .byte) (t' := (.array .byte)) (by decide) (by decide)))
  exact E_return X34 d_init4_57 rfl (by decide) (by decide) (⟨rfl, KK37, t, szt, kb, _, _, _, Exa_38, F41, F42, Arv_40, ⟨rfl, rfl, rfl, hall⟩, fun c hc => ⟨(hp c hc).1, fun q => (hp c hc).2 (Int32.lt_trans (by decide) q)⟩, hmx4⟩)
theorem d_sinit_0 : decode jdk_42_method_3_code 0 = .ok (.aload_n 0, 1) := by decide +kernel
theorem d_sinit_1 : decode jdk_42_method_3_code 1 = .ok (.aload_n 1, 1) := by decide +kernel
theorem d_sinit_2 : decode jdk_42_method_3_code 2 = .ok (.iconst 0, 1) := by decide +kernel
theorem d_sinit_3 : decode jdk_42_method_3_code 3 = .ok (.aload_n 1, 1) := by decide +kernel
theorem d_sinit_4 : decode jdk_42_method_3_code 4 = .ok (.arraylength, 1) := by decide +kernel
theorem d_sinit_5 : decode jdk_42_method_3_code 5 = .ok (.aconst_null, 1) := by decide +kernel
theorem d_sinit_6 : decode jdk_42_method_3_code 6 = .ok (.invokespecial 27, 3) := by decide +kernel
theorem d_sinit_9 : decode jdk_42_method_3_code 9 = .ok (.return_, 1) := by decide +kernel
abbrev rm_sinit : Room := ({ frames := 3, cells := 1, slots := 3, locals := 52 } : Room)
def Q_sinit (Z : State) (x b : Addr) (kC : ClassId) (cs : List Int32) (dv v0 c0 : Value) (h0 : Heap) (v : Option Value) (h : Heap) : Prop := v = none ∧ Keep h0 h [x] ∧ ∃ t, h0.size ≤ t ∧ OStr Z h x t cs
set_option maxRecDepth 65536 in
set_option maxHeartbeats 40000000 in
theorem ct_sinit (l : Launch) (Z : State) (a0 : Array Value) (hw : ∀ d ∈ tables_1, d.before a0 Z = true) (G1 : Int32) (G3 : Value) (OS : Sts Z G1 G3) (hEL : EW Z a0 EL) (hSA : ∀ a ∈ Bundle.stringAtoms, a.before a0 Z = true) (x b : Addr) (kC : ClassId) (cs : List Int32) (dv v0 c0 : Value) {h0 : Heap} (O : Ext Z.heap h0) (h0l : 0 < cs.length) (hmx : cs.length ≤ 3) (hp : ∀ c ∈ cs, ¬ c < 0 ∧ ¬ (255 : Int32) < c) (E0 : Exa Z h0 x "java/lang/String") (F0 : Fld Z h0 x "java/lang/String" "value" "[B" v0) (C0 : Fld Z h0 x "java/lang/String" "coder" "B" c0) (gx : Z.heap.size ≤ x) (V0 : Arv Z h0 b kC .char (Int32.ofNat cs.length) (cs.map Value.int) dv) : Ct l Z (⟨"java/lang/String", "<init>", "([C)V"⟩ : MethodName) jdk_42_method_3_code 2 none rm_sinit #[(.ref x), (.ref b)] h0 (Q_sinit Z x b kC cs dv v0 c0 h0) := by
  refine Ct.of_body (Ls := #[.val (.ref x), .val (.ref b)]) (by decide +kernel) O (fun m => by first | rfl | (simp [entryFrame, mkF, argsToLocals, Value.category]; done) | (rcases ref_cases (Sts.ref OS) with rfl | ⟨r, rfl⟩ <;> rfl)) ?_
  intro p e s m below meth c T0 X0 e0
  subst e0
  refine E_aloadN X0 d_sinit_0 rfl rfl (pc' := 1) rfl ?_
  refine E_aloadN X0 d_sinit_1 rfl rfl (pc' := 2) rfl ?_
  refine E_iconst X0 (v := (0 : Int32)) d_sinit_2 rfl (pc' := 3) rfl ?_
  refine E_aloadN X0 d_sinit_3 rfl rfl (pc' := 4) rfl ?_
  refine E_arraylength X0 d_sinit_4 V0 (pc' := 5) rfl ?_
  refine E_aconstNull X0 d_sinit_5 (pc' := 6) rfl ?_
  refine E_special X0 (rm := rm_init4) (a := x) d_sinit_6 rfl rfl (hw _ (List.mem_of_getElem? (i := 11) rfl)) (hw _ (List.mem_of_getElem? (i := 12) rfl)) (hw _ (List.mem_of_getElem? (i := 14) rfl)) (by decide) (hw _ (List.mem_of_getElem? (i := 6) rfl)) (argsL := [(.ref b), (.int (0 : Int32)), (.int (Int32.ofNat cs.length)), .null]) (st := []) rfl (ct_init4 l Z a0 hw G1 G3 OS hEL hSA x b kC cs dv v0 c0 X0.old h0l hmx hp E0 F0 C0 gx V0) (lenOf (pd_4) rfl) rfl (by decide) (by decide) (by decide) (Nat.le_of_ble_eq_true rfl)  (pc' := 9) rfl ?_
  intro T1 _ X2 hQ3
  obtain ⟨rfl, KF, t, szt, SF⟩ := hQ3
  show Ends p e below s Z _ _ _ T1 (mkF m 9 #[.val (.ref x), .val (.ref b)] [])
  exact E_return X2 d_sinit_9 rfl (by decide) (by decide) (⟨rfl, KF, t, szt, SF⟩)
theorem OStr.inj {Z : State} {h : Heap} {x t t' : Addr} {cs ds : List Int32} (S : OStr Z h x t cs) (S' : OStr Z h x t' ds) : cs = ds := by
  obtain ⟨kb, cd, N, vs, E, F, C, ⟨c1, A1, -, s1, -, H1, -⟩, ⟨-, rfl, rfl, b1⟩, p1, l1⟩ := S
  obtain ⟨kb', cd', N', vs', E', F', C', ⟨c2, A2, -, s2, -, H2, -⟩, ⟨-, rfl, rfl, b2⟩, p2, l2⟩ := S'
  cases Fld.inj F F'
  cases A1.1.symm.trans A2.1
  rw [o_cl (by omega)] at s1 s2
  refine own_ext (by omega) fun i hi => ?_
  have q := (H1 i (by omega)).symm.trans (H2 i (by omega))
  have m1 := own_mem hi
  have m2 := own_mem (cs := ds) (i := i) (by omega)
  have g1 : (cs.map lo8).getD i (.int 0) = lo8 (cs.getD i 0) := by simp [List.getD_eq_getElem?_getD, hi]
  have g2 : (ds.map lo8).getD i (.int 0) = lo8 (ds.getD i 0) := by simp [List.getD_eq_getElem?_getD, show i < ds.length by omega]
  rw [g1, g2] at q
  exact lo8_inj (p1 _ m1).1 (b1 _ m1) (p2 _ m2).1 (b2 _ m2) (by simpa [lo8] using q)
theorem d_leq_0 : decode jdk_43_method_13_code 0 = .ok (.aload_n 0, 1) := by decide +kernel
theorem d_leq_1 : decode jdk_43_method_13_code 1 = .ok (.arraylength, 1) := by decide +kernel
theorem d_leq_2 : decode jdk_43_method_13_code 2 = .ok (.aload_n 1, 1) := by decide +kernel
theorem d_leq_3 : decode jdk_43_method_13_code 3 = .ok (.arraylength, 1) := by decide +kernel
theorem d_leq_4 : decode jdk_43_method_13_code 4 = .ok (.if_icmp .ne 30, 3) := by decide +kernel
theorem d_leq_7 : decode jdk_43_method_13_code 7 = .ok (.iconst 0, 1) := by decide +kernel
theorem d_leq_8 : decode jdk_43_method_13_code 8 = .ok (.istore_n 2, 1) := by decide +kernel
theorem d_leq_9 : decode jdk_43_method_13_code 9 = .ok (.iload_n 2, 1) := by decide +kernel
theorem d_leq_10 : decode jdk_43_method_13_code 10 = .ok (.aload_n 0, 1) := by decide +kernel
theorem d_leq_11 : decode jdk_43_method_13_code 11 = .ok (.arraylength, 1) := by decide +kernel
theorem d_leq_12 : decode jdk_43_method_13_code 12 = .ok (.if_icmp .ge 20, 3) := by decide +kernel
theorem d_leq_15 : decode jdk_43_method_13_code 15 = .ok (.aload_n 0, 1) := by decide +kernel
theorem d_leq_16 : decode jdk_43_method_13_code 16 = .ok (.iload_n 2, 1) := by decide +kernel
theorem d_leq_17 : decode jdk_43_method_13_code 17 = .ok (.baload, 1) := by decide +kernel
theorem d_leq_18 : decode jdk_43_method_13_code 18 = .ok (.aload_n 1, 1) := by decide +kernel
theorem d_leq_19 : decode jdk_43_method_13_code 19 = .ok (.iload_n 2, 1) := by decide +kernel
theorem d_leq_20 : decode jdk_43_method_13_code 20 = .ok (.baload, 1) := by decide +kernel
theorem d_leq_21 : decode jdk_43_method_13_code 21 = .ok (.if_icmp .eq 5, 3) := by decide +kernel
theorem d_leq_24 : decode jdk_43_method_13_code 24 = .ok (.iconst 0, 1) := by decide +kernel
theorem d_leq_25 : decode jdk_43_method_13_code 25 = .ok (.ireturn, 1) := by decide +kernel
theorem d_leq_26 : decode jdk_43_method_13_code 26 = .ok (.iinc 2 1, 3) := by decide +kernel
theorem d_leq_29 : decode jdk_43_method_13_code 29 = .ok (.goto (-20), 3) := by decide +kernel
theorem d_leq_32 : decode jdk_43_method_13_code 32 = .ok (.iconst 1, 1) := by decide +kernel
theorem d_leq_33 : decode jdk_43_method_13_code 33 = .ok (.ireturn, 1) := by decide +kernel
theorem d_leq_34 : decode jdk_43_method_13_code 34 = .ok (.iconst 0, 1) := by decide +kernel
theorem d_leq_35 : decode jdk_43_method_13_code 35 = .ok (.ireturn, 1) := by decide +kernel
abbrev rm_leq : Room := ({ frames := 0, cells := 0, slots := 0, locals := 0 } : Room)
def Q_leq (Z : State) (t u : Addr) (kb ku : ClassId) (cs ds : List Int32) (h0 : Heap) (v : Option Value) (h : Heap) : Prop := ∃ z, v = some (.int z) ∧ h = h0 ∧ (cs = ds → z = 1) ∧ (¬ cs = ds → z = 0)
set_option maxRecDepth 65536 in
set_option maxHeartbeats 40000000 in
theorem lp_leq (l : Launch) (Z : State) (a0 : Array Value) (hw : ∀ d ∈ tables_1, d.before a0 Z = true) (G1 : Int32) (G3 : Value) (OS : Sts Z G1 G3) (hEL : EW Z a0 EL) (hSA : ∀ a ∈ Bundle.stringAtoms, a.before a0 Z = true) (t u : Addr) (kb ku : ClassId) (cs ds : List Int32) {h0 : Heap} {p : Program} {e : Env} {s : State} {m : MethodId} {below : List Frame} {meth : Method} {c : Code} (k : Nat) : ∀ {T0 : State} (i : Nat), Wk l Z rm_leq jdk_43_method_13_code 3 (some .boolean) "java/lang/StringLatin1" "equals" p e s m #[(.ref t), (.ref u)] below meth c T0 0 0 → (i + k = cs.length) → (cs.length = ds.length) → (cs.length ≤ 4000) → (∀ c ∈ cs, ¬ c < 0 ∧ ¬ (255 : Int32) < c) → (∀ c ∈ ds, ¬ c < 0 ∧ ¬ (255 : Int32) < c) → (T0.heap = h0) → (Arv Z T0.heap t kb .byte (Int32.ofNat cs.length) (cs.map lo8) (.int (0 : Int32))) → (Arv Z T0.heap u ku .byte (Int32.ofNat ds.length) (ds.map lo8) (.int (0 : Int32))) → (∀ j, j < i → cs.getD j 0 = ds.getD j 0) → Ends p e below s Z (Q_leq Z t u kb ku cs ds h0) rm_leq.cells rm_leq.slots T0 (mkF m 9 #[.val (.ref t), .val (.ref u), .val (.int (Int32.ofNat i))] []) := by
  induction k with
  | zero =>
    intro T0 i X0 hi hl hl4 hc hd eh V0 U0 hpre
    have hik : i = cs.length := by omega
    subst hik
    refine E_iloadN X0 d_leq_9 rfl (pc' := 10) rfl ?_
    refine E_aloadN X0 d_leq_10 rfl rfl (pc' := 11) rfl ?_
    refine E_arraylength X0 d_leq_11 V0 (pc' := 12) rfl ?_
    refine E_icT X0 d_leq_12 (XT.ii_ge_t (o_nlt (Nat.le_refl _) (by omega))) (pc' := 32) (by decide) rfl ?_
    refine E_iconst X0 (v := (1 : Int32)) d_leq_32 rfl (pc' := 33) rfl ?_
    exact E_ireturnN X0 (t := .boolean) d_leq_33 rfl (by simp) (by decide) (by decide) (⟨_, rfl, eh, fun _ => rfl, fun q => absurd (own_ext hl hpre) q⟩)
  | succ k ih =>
    intro T0 i X0 hi hl hl4 hc hd eh V0 U0 hpre
    have hlt : i < cs.length := by omega
    have hlt2 : i < ds.length := by omega
    refine E_iloadN X0 d_leq_9 rfl (pc' := 10) rfl ?_
    refine E_aloadN X0 d_leq_10 rfl rfl (pc' := 11) rfl ?_
    refine E_arraylength X0 d_leq_11 V0 (pc' := 12) rfl ?_
    refine E_icF X0 d_leq_12 (XT.ii_ge_f (o_lt hlt (by omega))) (pc' := 15) rfl ?_
    refine E_aloadN X0 d_leq_15 rfl rfl (pc' := 16) rfl ?_
    refine E_iloadN X0 d_leq_16 rfl (pc' := 17) rfl ?_
    refine E_baload X0 (v := (.int (cs.getD i 0).toInt8.toInt32)) d_leq_17 V0 ⟨o_nn (by omega), o_lt hlt (by omega)⟩ (own_getD lo8 hlt (by omega)) (pc' := 18) rfl ?_
    refine E_aloadN X0 d_leq_18 rfl rfl (pc' := 19) rfl ?_
    refine E_iloadN X0 d_leq_19 rfl (pc' := 20) rfl ?_
    refine E_baload X0 (v := (.int (ds.getD i 0).toInt8.toInt32)) d_leq_20 U0 ⟨o_nn (by omega), o_lt hlt2 (by omega)⟩ (own_getD lo8 hlt2 (by omega)) (pc' := 21) rfl ?_
    by_cases h21 : (cs.getD i 0).toInt8.toInt32 = (ds.getD i 0).toInt8.toInt32
    · skip
      refine E_icT X0 d_leq_21 (XT.ii_eq_t h21) (pc' := 26) (by decide) rfl ?_
      refine E_iinc X0 (y := (Int32.ofNat (i + 1))) d_leq_26 o_add rfl (l' := #[.val (.ref t), .val (.ref u), .val (.int (Int32.ofNat (i + 1)))]) rfl (pc' := 29) rfl ?_
      refine E_goto X0 d_leq_29 (pc' := 9) (by decide) rfl ?_
      have hce := lo8_inj (hc _ (own_mem hlt)).1 (hc _ (own_mem hlt)).2 (hd _ (own_mem hlt2)).1 (hd _ (own_mem hlt2)).2 h21
      exact ih (i + 1) X0 (by omega) hl hl4 hc hd eh V0 U0 (fun j hj => by by_cases e : j = i; rw [e]; exact hce; exact hpre j (by omega))
    · skip
      refine E_icF X0 d_leq_21 (XT.ii_eq_f h21) (pc' := 24) rfl ?_
      refine E_iconst X0 (v := (0 : Int32)) d_leq_24 rfl (pc' := 25) rfl ?_
      exact E_ireturnN X0 (t := .boolean) d_leq_25 rfl (by simp) (by decide) (by decide) (⟨_, rfl, eh, fun q => absurd (by rw [q]) h21, fun _ => rfl⟩)
set_option maxRecDepth 65536 in
set_option maxHeartbeats 40000000 in
theorem ct_leq (l : Launch) (Z : State) (a0 : Array Value) (hw : ∀ d ∈ tables_1, d.before a0 Z = true) (G1 : Int32) (G3 : Value) (OS : Sts Z G1 G3) (hEL : EW Z a0 EL) (hSA : ∀ a ∈ Bundle.stringAtoms, a.before a0 Z = true) (t u : Addr) (kb ku : ClassId) (cs ds : List Int32) {h0 : Heap} (O : Ext Z.heap h0) (V0 : Arv Z h0 t kb .byte (Int32.ofNat cs.length) (cs.map lo8) (.int (0 : Int32))) (U0 : Arv Z h0 u ku .byte (Int32.ofNat ds.length) (ds.map lo8) (.int (0 : Int32))) (hc : ∀ c ∈ cs, ¬ c < 0 ∧ ¬ (255 : Int32) < c) (hd : ∀ c ∈ ds, ¬ c < 0 ∧ ¬ (255 : Int32) < c) (hl4 : cs.length ≤ 4000) (hl5 : ds.length ≤ 4000) : Ct l Z (⟨"java/lang/StringLatin1", "equals", "([B[B)Z"⟩ : MethodName) jdk_43_method_13_code 3 (some .boolean) rm_leq #[(.ref t), (.ref u)] h0 (Q_leq Z t u kb ku cs ds h0) := by
  refine Ct.of_body (Ls := #[.val (.ref t), .val (.ref u), .unset]) (by decide +kernel) O (fun m => by first | rfl | (simp [entryFrame, mkF, argsToLocals, Value.category]; done) | (rcases ref_cases (Sts.ref OS) with rfl | ⟨r, rfl⟩ <;> rfl)) ?_
  intro p e s m below meth c T0 X0 e0
  subst e0
  refine E_aloadN X0 d_leq_0 rfl rfl (pc' := 1) rfl ?_
  refine E_arraylength X0 d_leq_1 V0 (pc' := 2) rfl ?_
  refine E_aloadN X0 d_leq_2 rfl rfl (pc' := 3) rfl ?_
  refine E_arraylength X0 d_leq_3 U0 (pc' := 4) rfl ?_
  by_cases h4 : (Int32.ofNat cs.length) = (Int32.ofNat ds.length)
  · skip
    refine E_icF X0 d_leq_4 (XT.ii_ne_f h4) (pc' := 7) rfl ?_
    have hl : cs.length = ds.length := by have q := congrArg Int32.toInt h4; rw [o_int (by omega), o_int (by omega)] at q; omega
    refine E_iconst X0 (v := (0 : Int32)) d_leq_7 rfl (pc' := 8) rfl ?_
    refine E_istoreN X0 d_leq_8 (l' := #[.val (.ref t), .val (.ref u), .val (.int (0 : Int32))]) rfl (pc' := 9) rfl ?_
    exact lp_leq l Z a0 hw G1 G3 OS hEL hSA t u kb ku cs ds cs.length 0 X0 (by omega) hl hl4 hc hd rfl V0 U0 (fun j hj => absurd hj (Nat.not_lt_zero _))
  · skip
    refine E_icT X0 d_leq_4 (XT.ii_ne_t h4) (pc' := 34) (by decide) rfl ?_
    have hl : ¬ cs.length = ds.length := fun q => h4 (by rw [q])
    refine E_iconst X0 (v := (0 : Int32)) d_leq_34 rfl (pc' := 35) rfl ?_
    exact E_ireturnN X0 (t := .boolean) d_leq_35 rfl (by simp) (by decide) (by decide) (⟨_, rfl, rfl, fun q => absurd (by rw [q]) hl, fun _ => rfl⟩)
theorem d_seq_0 : decode jdk_42_method_66_code 0 = .ok (.aload_n 0, 1) := by decide +kernel
theorem d_seq_1 : decode jdk_42_method_66_code 1 = .ok (.aload_n 1, 1) := by decide +kernel
theorem d_seq_2 : decode jdk_42_method_66_code 2 = .ok (.if_acmp .ne 5, 3) := by decide +kernel
theorem d_seq_5 : decode jdk_42_method_66_code 5 = .ok (.iconst 1, 1) := by decide +kernel
theorem d_seq_6 : decode jdk_42_method_66_code 6 = .ok (.ireturn, 1) := by decide +kernel
theorem d_seq_7 : decode jdk_42_method_66_code 7 = .ok (.aload_n 1, 1) := by decide +kernel
theorem d_seq_8 : decode jdk_42_method_66_code 8 = .ok (.instanceof 10, 3) := by decide +kernel
theorem d_seq_11 : decode jdk_42_method_66_code 11 = .ok (.ifCond .eq 43, 3) := by decide +kernel
theorem d_seq_14 : decode jdk_42_method_66_code 14 = .ok (.aload_n 1, 1) := by decide +kernel
theorem d_seq_15 : decode jdk_42_method_66_code 15 = .ok (.checkcast 10, 3) := by decide +kernel
theorem d_seq_18 : decode jdk_42_method_66_code 18 = .ok (.astore_n 2, 1) := by decide +kernel
theorem d_seq_19 : decode jdk_42_method_66_code 19 = .ok (.getstatic 38, 3) := by decide +kernel
theorem d_seq_22 : decode jdk_42_method_66_code 22 = .ok (.ifCond .eq 14, 3) := by decide +kernel
theorem d_seq_25 : decode jdk_42_method_66_code 25 = .ok (.aload_n 0, 1) := by decide +kernel
theorem d_seq_26 : decode jdk_42_method_66_code 26 = .ok (.getfield 15, 3) := by decide +kernel
theorem d_seq_29 : decode jdk_42_method_66_code 29 = .ok (.aload_n 2, 1) := by decide +kernel
theorem d_seq_30 : decode jdk_42_method_66_code 30 = .ok (.getfield 15, 3) := by decide +kernel
theorem d_seq_33 : decode jdk_42_method_66_code 33 = .ok (.if_icmp .ne 21, 3) := by decide +kernel
theorem d_seq_36 : decode jdk_42_method_66_code 36 = .ok (.aload_n 0, 1) := by decide +kernel
theorem d_seq_37 : decode jdk_42_method_66_code 37 = .ok (.getfield 9, 3) := by decide +kernel
theorem d_seq_40 : decode jdk_42_method_66_code 40 = .ok (.aload_n 2, 1) := by decide +kernel
theorem d_seq_41 : decode jdk_42_method_66_code 41 = .ok (.getfield 9, 3) := by decide +kernel
theorem d_seq_44 : decode jdk_42_method_66_code 44 = .ok (.invokestatic 541, 3) := by decide +kernel
theorem d_seq_47 : decode jdk_42_method_66_code 47 = .ok (.ifCond .eq 7, 3) := by decide +kernel
theorem d_seq_50 : decode jdk_42_method_66_code 50 = .ok (.iconst 1, 1) := by decide +kernel
theorem d_seq_51 : decode jdk_42_method_66_code 51 = .ok (.goto 4, 3) := by decide +kernel
theorem d_seq_54 : decode jdk_42_method_66_code 54 = .ok (.iconst 0, 1) := by decide +kernel
theorem d_seq_55 : decode jdk_42_method_66_code 55 = .ok (.ireturn, 1) := by decide +kernel
abbrev rm_seq : Room := ({ frames := 1, cells := 0, slots := 0, locals := 14 } : Room)
def Q_seq (Z : State) (x y t u : Addr) (cs ds : List Int32) (h0 : Heap) (v : Option Value) (h : Heap) : Prop := ∃ z, v = some (.int z) ∧ h = h0 ∧ (cs = ds → z = 1) ∧ (¬ cs = ds → z = 0)
set_option maxRecDepth 65536 in
set_option maxHeartbeats 40000000 in
theorem ct_seq (l : Launch) (Z : State) (a0 : Array Value) (hw : ∀ d ∈ tables_1, d.before a0 Z = true) (G1 : Int32) (G3 : Value) (OS : Sts Z G1 G3) (hEL : EW Z a0 EL) (hSA : ∀ a ∈ Bundle.stringAtoms, a.before a0 Z = true) (x y t u : Addr) (cs ds : List Int32) {h0 : Heap} (O : Ext Z.heap h0) (S0 : OStr Z h0 x t cs) (S1 : OStr Z h0 y u ds) : Ct l Z (⟨"java/lang/String", "equals", "(Ljava/lang/Object;)Z"⟩ : MethodName) jdk_42_method_66_code 3 (some .boolean) rm_seq #[(.ref x), (.ref y)] h0 (Q_seq Z x y t u cs ds h0) := by
  refine Ct.of_body (Ls := #[.val (.ref x), .val (.ref y), .unset]) (by decide +kernel) O (fun m => by first | rfl | (simp [entryFrame, mkF, argsToLocals, Value.category]; done) | (rcases ref_cases (Sts.ref OS) with rfl | ⟨r, rfl⟩ <;> rfl)) ?_
  intro p e s m below meth c T0 X0 e0
  subst e0
  by_cases hxy : x = y
  · skip
    subst hxy
    have hcd := OStr.inj S0 S1
    refine E_aloadN X0 d_seq_0 rfl rfl (pc' := 1) rfl ?_
    refine E_aloadN X0 d_seq_1 rfl rfl (pc' := 2) rfl ?_
    refine E_acmp X0 d_seq_2 rfl rfl true (decide_eq_true rfl) (pc' := 5) (by decide) rfl ?_
    refine E_iconst X0 (v := (1 : Int32)) d_seq_5 rfl (pc' := 6) rfl ?_
    exact E_ireturnN X0 (t := .boolean) d_seq_6 rfl (by simp) (by decide) (by decide) (⟨_, rfl, rfl, fun _ => rfl, fun q => absurd hcd q⟩)
  · skip
    obtain ⟨kb, cd, N, vs, E0, F0, C0, V0, ⟨rfl, rfl, rfl, bc⟩, pc_, lc⟩ := S0
    obtain ⟨ku, cu, M, us, E1, F1, C1, V1, ⟨rfl, rfl, rfl, bd⟩, pd_, ld⟩ := S1
    refine E_aloadN X0 d_seq_0 rfl rfl (pc' := 1) rfl ?_
    refine E_aloadN X0 d_seq_1 rfl rfl (pc' := 2) rfl ?_
    refine E_acmp X0 d_seq_2 rfl rfl false (decide_eq_false fun q => hxy (Value.ref.inj q)) (pc' := 7) (by decide) rfl ?_
    refine E_aloadN X0 d_seq_7 rfl rfl (pc' := 8) rfl ?_
    refine E_instY X0 d_seq_8 (hw _ (List.mem_of_getElem? (i := 79) rfl)) (Ins.self E1) (pc' := 11) rfl ?_
    intro T1 X2 e3
    rw [← e3] at E0 F0 C0 V0 E1 F1 C1 V1
    refine E_ifF X2 d_seq_11 (XT.i0_eq_f (by decide)) (pc' := 14) rfl ?_
    refine E_aloadN X2 d_seq_14 rfl rfl (pc' := 15) rfl ?_
    refine E_checkcast X2 d_seq_15 (hw _ (List.mem_of_getElem? (i := 79) rfl)) (Ins.self E1) (pc' := 18) rfl ?_
    intro T4 X5 e6
    rw [← e6] at E0 F0 C0 V0 E1 F1 C1 V1
    refine E_astoreN X5 d_seq_18 rfl (l' := #[.val (.ref x), .val (.ref y), .val (.ref y)]) rfl (pc' := 19) rfl ?_
    refine E_getstatic X5 d_seq_19 (hw _ (List.mem_of_getElem? (i := 80) rfl)) Via.refl OS.1 (pc' := 22) rfl ?_
    intro T7 X8 e9
    rw [← e9] at E0 F0 C0 V0 E1 F1 C1 V1
    refine E_ifF X8 d_seq_22 (XT.i0_eq_f OS.2.1) (pc' := 25) rfl ?_
    refine E_aloadN X8 d_seq_25 rfl rfl (pc' := 26) rfl ?_
    refine E_getfield X8 d_seq_26 (hw _ (List.mem_of_getElem? (i := 25) rfl)) Via.refl C0 (pc' := 29) rfl ?_
    intro T10 X11 e12
    rw [← e12] at E0 F0 C0 V0 E1 F1 C1 V1
    refine E_aloadN X11 d_seq_29 rfl rfl (pc' := 30) rfl ?_
    refine E_getfield X11 d_seq_30 (hw _ (List.mem_of_getElem? (i := 25) rfl)) Via.refl C1 (pc' := 33) rfl ?_
    intro T13 X14 e15
    rw [← e15] at E0 F0 C0 V0 E1 F1 C1 V1
    refine E_icF X14 d_seq_33 (XT.ii_ne_f (by decide)) (pc' := 36) rfl ?_
    refine E_aloadN X14 d_seq_36 rfl rfl (pc' := 37) rfl ?_
    refine E_getfield X14 d_seq_37 (hw _ (List.mem_of_getElem? (i := 24) rfl)) Via.refl F0 (pc' := 40) rfl ?_
    intro T16 X17 e18
    rw [← e18] at E0 F0 C0 V0 E1 F1 C1 V1
    refine E_aloadN X17 d_seq_40 rfl rfl (pc' := 41) rfl ?_
    refine E_getfield X17 d_seq_41 (hw _ (List.mem_of_getElem? (i := 24) rfl)) Via.refl F1 (pc' := 44) rfl ?_
    intro T19 X20 e21
    rw [← e21] at E0 F0 C0 V0 E1 F1 C1 V1
    refine E_static X20 (rm := rm_leq) d_seq_44 (hw _ (List.mem_of_getElem? (i := 81) rfl)) (hw _ (List.mem_of_getElem? (i := 82) rfl)) (hw _ (List.mem_of_getElem? (i := 83) rfl)) (hw _ (List.mem_of_getElem? (i := 84) rfl)) (by decide) (argsL := [(.ref t), (.ref u)]) (st := []) rfl (ct_leq l Z a0 hw G1 G3 OS hEL hSA t u kb ku cs ds X20.old V0 V1 (fun c hc => ⟨(pc_ c hc).1, bc c hc⟩) (fun c hc => ⟨(pd_ c hc).1, bd c hc⟩) lc ld) (lenOf (pd_5) rfl) rfl (by decide) (by decide) (by decide) (Nat.le_of_ble_eq_true rfl)  (pc' := 47) rfl ?_
    intro T23 _ X24 hQ25
    obtain ⟨z22, rfl, e26, yz22, nz22⟩ := hQ25
    rw [← e26] at E0 F0 C0 V0 E1 F1 C1 V1
    by_cases hcd : cs = ds
    · skip
      obtain rfl := yz22 hcd
      show Ends p e below s Z _ _ _ T23 (mkF m 47 #[.val (.ref x), .val (.ref y), .val (.ref y)] [(.int (1 : Int32))])
      refine E_ifF X24 d_seq_47 (XT.i0_eq_f (by decide)) (pc' := 50) rfl ?_
      refine E_iconst X24 (v := (1 : Int32)) d_seq_50 rfl (pc' := 51) rfl ?_
      refine E_goto X24 d_seq_51 (pc' := 55) (by decide) rfl ?_
      exact E_ireturnN X24 (t := .boolean) d_seq_55 rfl (by simp) (by decide) (by decide) (⟨_, rfl, (e26.trans (e21.trans (e18.trans (e15.trans (e12.trans (e9.trans (e6.trans e3))))))), fun _ => rfl, fun q => absurd hcd q⟩)
    · skip
      obtain rfl := nz22 hcd
      show Ends p e below s Z _ _ _ T23 (mkF m 47 #[.val (.ref x), .val (.ref y), .val (.ref y)] [(.int (0 : Int32))])
      refine E_ifT X24 d_seq_47 (XT.i0_eq_t (by decide)) (pc' := 54) (by decide) rfl ?_
      refine E_iconst X24 (v := (0 : Int32)) d_seq_54 rfl (pc' := 55) rfl ?_
      exact E_ireturnN X24 (t := .boolean) d_seq_55 rfl (by simp) (by decide) (by decide) (⟨_, rfl, (e26.trans (e21.trans (e18.trans (e15.trans (e12.trans (e9.trans (e6.trans e3))))))), fun q => absurd q hcd, fun _ => rfl⟩)
theorem own_fin {Z : State} {h0 h : Heap} {x a b : Addr} (K : Keep h0 h [x]) (S : OStr Z h a b []) (E : Exa Z h x "java/lang/String") (F : Fld Z h x "java/lang/String" "value" "[B" (.ref b)) (C : Fld Z h x "java/lang/String" "coder" "B" (.int 0)) : (none : Option Value) = none ∧ Keep h0 h [x] ∧ ∃ t, OStr Z h x t [] := by
  obtain ⟨kb, cd, N, vs, E1, F1, C1, V1, hc, r⟩ := S
  exact ⟨rfl, K, b, kb, 0, N, vs, E, F, C, V1, ⟨rfl, hc.2⟩, r⟩
theorem d_init40_0 : decode jdk_42_method_149_code 0 = .ok (.aload_n 0, 1) := by decide +kernel
theorem d_init40_1 : decode jdk_42_method_149_code 1 = .ok (.invokespecial 1, 3) := by decide +kernel
theorem d_init40_4 : decode jdk_42_method_149_code 4 = .ok (.iload_n 3, 1) := by decide +kernel
theorem d_init40_5 : decode jdk_42_method_149_code 5 = .ok (.ifCond .ne 22, 3) := by decide +kernel
theorem d_init40_8 : decode jdk_42_method_149_code 8 = .ok (.aload_n 0, 1) := by decide +kernel
theorem d_init40_9 : decode jdk_42_method_149_code 9 = .ok (.ldc 7, 2) := by decide +kernel
theorem d_init40_11 : decode jdk_42_method_149_code 11 = .ok (.getfield 9, 3) := by decide +kernel
theorem d_init40_14 : decode jdk_42_method_149_code 14 = .ok (.putfield 9, 3) := by decide +kernel
theorem d_init40_17 : decode jdk_42_method_149_code 17 = .ok (.aload_n 0, 1) := by decide +kernel
theorem d_init40_18 : decode jdk_42_method_149_code 18 = .ok (.ldc 7, 2) := by decide +kernel
theorem d_init40_20 : decode jdk_42_method_149_code 20 = .ok (.getfield 15, 3) := by decide +kernel
theorem d_init40_23 : decode jdk_42_method_149_code 23 = .ok (.putfield 15, 3) := by decide +kernel
theorem d_init40_26 : decode jdk_42_method_149_code 26 = .ok (.return_, 1) := by decide +kernel
abbrev rm_init40 : Room := ({ frames := 1, cells := 4, slots := 8, locals := 12 } : Room)
def Q_init40 (Z : State) (x b : Addr) (kC : ClassId) (dv : Value) (h0 : Heap) (v : Option Value) (h : Heap) : Prop := v = none ∧ Keep h0 h [x] ∧ ∃ t, OStr Z h x t []
set_option maxRecDepth 65536 in
set_option maxHeartbeats 40000000 in
theorem ct_init40 (l : Launch) (Z : State) (a0 : Array Value) (hw : ∀ d ∈ tables_1, d.before a0 Z = true) (G1 : Int32) (G3 : Value) (OS : Sts Z G1 G3) (hEL : EW Z a0 EL) (hSA : ∀ a ∈ Bundle.stringAtoms, a.before a0 Z = true) (x b : Addr) (kC : ClassId) (dv : Value) {h0 : Heap} (O : Ext Z.heap h0) (E0 : Exa Z h0 x "java/lang/String") (F0 : Fld Z h0 x "java/lang/String" "value" "[B" .null) (C0 : Fld Z h0 x "java/lang/String" "coder" "B" (.int (0 : Int32))) (gx : Z.heap.size ≤ x) (V0 : Arv Z h0 b kC .char (0 : Int32) [] dv) : CtW l Z (⟨"java/lang/String", "<init>", "([CIILjava/lang/Void;)V"⟩ : MethodName) jdk_42_method_149_code 6 none rm_init40 #[(.ref x), (.ref b), (.int (0 : Int32)), (.int (0 : Int32)), .null] h0 (Q_init40 Z x b kC dv h0) := by
  refine CtW.of_body (Ls := #[.val (.ref x), .val (.ref b), .val (.int (0 : Int32)), .val (.int (0 : Int32)), .val .null, .unset]) (by decide +kernel) O hEL (fun m => by first | rfl | (simp [entryFrame, mkF, argsToLocals, Value.category]; done) | (rcases ref_cases (Sts.ref OS) with rfl | ⟨r, rfl⟩ <;> rfl)) ?_
  intro p e s m below meth c T0 X0 e0
  subst e0
  have K00 := Keep.refl T0.heap [x]
  refine F_aloadN X0 d_init40_0 rfl rfl (pc' := 1) rfl ?_
  refine F_initO X0 d_init40_1 (hw _ (List.mem_of_getElem? (i := 15) rfl)) (hw _ (List.mem_of_getElem? (i := 16) rfl)) (hw _ (List.mem_of_getElem? (i := 17) rfl)) rfl (by decide) (Nat.le_of_ble_eq_true rfl) (pc' := 4) rfl ?_
  intro T1 X2 e3
  have KK4 := own_keq K00 e3
  rw [← e3] at E0 F0 C0
  refine F_iloadN X2 d_init40_4 rfl (pc' := 5) rfl ?_
  refine F_ifF X2 d_init40_5 (XT.i0_ne_f (by decide)) (pc' := 8) rfl ?_
  refine F_aloadN X2 d_init40_8 rfl rfl (pc' := 9) rfl ?_
  have Sf0 := (own_safe X2.al E0 F0 (hw _ (List.mem_of_getElem? (i := 5) rfl)))
  refine F_ldcS X2 (n := 0) (z := Int32.ofNat ([] : List Int32).length) (vs := ([] : List Int32).map lo8) d_init40_9 (hw _ (List.mem_of_getElem? (i := 18) rfl)) hSA hEL (by simp [EL, consts_1]) lit_0 (by decide) rfl (by decide) (by decide) (by decide) (by decide) (pc' := 11) rfl ?_
  intro T5 la7 lb8 k9 X6 K10 E11 C12 F13 V14 hs15
  obtain ⟨Sf16, ne17, ne18⟩ := hs15 x E0.lt Sf0
  have KK19 := KK4.trans K10 (fun x q => nomatch q)
  have Exa_20 := E0.keep K10
  have Fld_21 := F0.keep K10 nin0
  have Fld_22 := C0.keep K10 nin0
  have S24 : OStr Z T5.heap la7 lb8 [] := own_lit E11 F13 C12 V14 (by decide) (by decide)
  have F25 := OStr.fval S24
  refine F_getfield X6 d_init40_11 (hw _ (List.mem_of_getElem? (i := 24) rfl)) Via.refl F25 (pc' := 14) rfl ?_
  intro T26 X27 e28
  have KK29 := own_keq KK19 e28
  rw [← e28] at Exa_20 Fld_21 Fld_22 Sf16 S24 C12 F25
  refine F_putfield X27 (ty := (.array .byte)) d_init40_14 (hw _ (List.mem_of_getElem? (i := 24) rfl)) Via.refl Fld_21 Exa_20 (Or.inr ⟨(hw _ (List.mem_of_getElem? (i := 20) rfl)), rfl, rfl⟩) (hw _ (List.mem_of_getElem? (i := 5) rfl)) (by decide) rfl rfl gx Sf16 (pc' := 17) rfl ?_
  intro T30 X31 W32
  have K33 := Keep.of_wr W32
  have KK34 := KK29.trans K33 (allS (Or.inl (by simp)) (fun x q => nomatch q))
  have Exa_35 := Exa_20.keep K33
  have Str_36 := OStr.keep S24 K33 (ninS (Ne.symm ne17) nin0) (ninS (Ne.symm ne18) nin0)
  have Fld_37 := C12.keep K33 (ninS (Ne.symm ne17) nin0)
  have Fld_38 := F25.keep K33 (ninS (Ne.symm ne17) nin0)
  have F39 := Fld_21.same W32
  have Sf40 := Safe.wr W32 Sf16 X27.ch Sf16
  have F41 := Fld_22.other W32 (Or.inr (slot_ne (Or.inr (hw _ (List.mem_of_getElem? (i := 21) rfl))) (Or.inr (hw _ (List.mem_of_getElem? (i := 20) rfl))) (by decide) (t := .byte) (t' := (.array .byte)) (by decide) (by decide)))
  refine F_aloadN X31 d_init40_17 rfl rfl (pc' := 18) rfl ?_
  refine F_ldcS X31 (n := 0) (z := Int32.ofNat ([] : List Int32).length) (vs := ([] : List Int32).map lo8) d_init40_18 (hw _ (List.mem_of_getElem? (i := 18) rfl)) hSA hEL (by simp [EL, consts_1]) lit_0 (by decide) rfl (by decide) (by decide) (by decide) (by decide) (pc' := 20) rfl ?_
  intro T42 la44 lb45 k46 X43 K47 E48 C49 F50 V51 hs52
  obtain ⟨Sf53, ne54, ne55⟩ := hs52 x Exa_35.lt Sf40
  have KK56 := KK34.trans K47 (fun x q => nomatch q)
  have Exa_57 := Exa_35.keep K47
  have Str_58 := OStr.keep Str_36 K47 nin0 nin0
  have Fld_59 := Fld_37.keep K47 nin0
  have Fld_60 := Fld_38.keep K47 nin0
  have Fld_61 := F39.keep K47 nin0
  have Fld_63 := F41.keep K47 nin0
  have S64 : OStr Z T42.heap la44 lb45 [] := own_lit E48 F50 C49 V51 (by decide) (by decide)
  refine F_getfield X43 d_init40_20 (hw _ (List.mem_of_getElem? (i := 25) rfl)) Via.refl C49 (pc' := 23) rfl ?_
  intro T65 X66 e67
  have KK68 := own_keq KK56 e67
  rw [← e67] at Exa_57 Str_58 Fld_59 Fld_60 Fld_61 Sf53 Fld_63 S64 C49
  refine F_putfield X66 (ty := .byte) d_init40_23 (hw _ (List.mem_of_getElem? (i := 25) rfl)) Via.refl Fld_63 Exa_57 (Or.inr ⟨(hw _ (List.mem_of_getElem? (i := 21) rfl)), rfl, rfl⟩) (hw _ (List.mem_of_getElem? (i := 5) rfl)) (by decide) rfl rfl gx Sf53 (pc' := 26) rfl ?_
  intro T69 X70 W71
  have K72 := Keep.of_wr W71
  have KK73 := KK68.trans K72 (allS (Or.inl (by simp)) (fun x q => nomatch q))
  have Exa_74 := Exa_57.keep K72
  have Str_75 := OStr.keep Str_58 K72 (ninS (Ne.symm ne17) nin0) (ninS (Ne.symm ne18) nin0)
  have Fld_76 := Fld_59.keep K72 (ninS (Ne.symm ne17) nin0)
  have Fld_77 := Fld_60.keep K72 (ninS (Ne.symm ne17) nin0)
  have Str_78 := OStr.keep S64 K72 (ninS (Ne.symm ne54) nin0) (ninS (Ne.symm ne55) nin0)
  have Fld_79 := C49.keep K72 (ninS (Ne.symm ne54) nin0)
  have F80 := Fld_63.same W71
  have Sf81 := Safe.wr W71 Sf53 X66.ch Sf53
  have F82 := Fld_61.other W71 (Or.inr (slot_ne (Or.inr (hw _ (List.mem_of_getElem? (i := 20) rfl))) (Or.inr (hw _ (List.mem_of_getElem? (i := 21) rfl))) (by decide) (t := (.array .byte)) (t' := .byte) (by decide) (by decide)))
  exact F_return X70 d_init40_26 rfl (by decide) (by decide) (own_fin KK73 Str_75 Exa_74 F82 F80)
theorem d_sinit0_0 : decode jdk_42_method_3_code 0 = .ok (.aload_n 0, 1) := by decide +kernel
theorem d_sinit0_1 : decode jdk_42_method_3_code 1 = .ok (.aload_n 1, 1) := by decide +kernel
theorem d_sinit0_2 : decode jdk_42_method_3_code 2 = .ok (.iconst 0, 1) := by decide +kernel
theorem d_sinit0_3 : decode jdk_42_method_3_code 3 = .ok (.aload_n 1, 1) := by decide +kernel
theorem d_sinit0_4 : decode jdk_42_method_3_code 4 = .ok (.arraylength, 1) := by decide +kernel
theorem d_sinit0_5 : decode jdk_42_method_3_code 5 = .ok (.aconst_null, 1) := by decide +kernel
theorem d_sinit0_6 : decode jdk_42_method_3_code 6 = .ok (.invokespecial 27, 3) := by decide +kernel
theorem d_sinit0_9 : decode jdk_42_method_3_code 9 = .ok (.return_, 1) := by decide +kernel
abbrev rm_sinit0 : Room := ({ frames := 2, cells := 4, slots := 8, locals := 29 } : Room)
def Q_sinit0 (Z : State) (x b : Addr) (kC : ClassId) (dv : Value) (h0 : Heap) (v : Option Value) (h : Heap) : Prop := v = none ∧ Keep h0 h [x] ∧ ∃ t, OStr Z h x t []
set_option maxRecDepth 65536 in
set_option maxHeartbeats 40000000 in
theorem ct_sinit0 (l : Launch) (Z : State) (a0 : Array Value) (hw : ∀ d ∈ tables_1, d.before a0 Z = true) (G1 : Int32) (G3 : Value) (OS : Sts Z G1 G3) (hEL : EW Z a0 EL) (hSA : ∀ a ∈ Bundle.stringAtoms, a.before a0 Z = true) (x b : Addr) (kC : ClassId) (dv : Value) {h0 : Heap} (O : Ext Z.heap h0) (E0 : Exa Z h0 x "java/lang/String") (F0 : Fld Z h0 x "java/lang/String" "value" "[B" .null) (C0 : Fld Z h0 x "java/lang/String" "coder" "B" (.int (0 : Int32))) (gx : Z.heap.size ≤ x) (V0 : Arv Z h0 b kC .char (0 : Int32) [] dv) : CtW l Z (⟨"java/lang/String", "<init>", "([C)V"⟩ : MethodName) jdk_42_method_3_code 2 none rm_sinit0 #[(.ref x), (.ref b)] h0 (Q_sinit0 Z x b kC dv h0) := by
  refine CtW.of_body (Ls := #[.val (.ref x), .val (.ref b)]) (by decide +kernel) O hEL (fun m => by first | rfl | (simp [entryFrame, mkF, argsToLocals, Value.category]; done) | (rcases ref_cases (Sts.ref OS) with rfl | ⟨r, rfl⟩ <;> rfl)) ?_
  intro p e s m below meth c T0 X0 e0
  subst e0
  refine F_aloadN X0 d_sinit0_0 rfl rfl (pc' := 1) rfl ?_
  refine F_aloadN X0 d_sinit0_1 rfl rfl (pc' := 2) rfl ?_
  refine F_iconst X0 (v := (0 : Int32)) d_sinit0_2 rfl (pc' := 3) rfl ?_
  refine F_aloadN X0 d_sinit0_3 rfl rfl (pc' := 4) rfl ?_
  refine F_arraylength X0 d_sinit0_4 V0 (pc' := 5) rfl ?_
  refine F_aconstNull X0 d_sinit0_5 (pc' := 6) rfl ?_
  refine G_special X0 (rm := rm_init40) (a := x) d_sinit0_6 rfl rfl (hw _ (List.mem_of_getElem? (i := 11) rfl)) (hw _ (List.mem_of_getElem? (i := 12) rfl)) (hw _ (List.mem_of_getElem? (i := 14) rfl)) (by decide) (hw _ (List.mem_of_getElem? (i := 6) rfl)) (argsL := [(.ref b), (.int (0 : Int32)), (.int (0 : Int32)), .null]) (st := []) rfl (ct_init40 l Z a0 hw G1 G3 OS hEL hSA x b kC dv X0.old E0 F0 C0 gx V0) (lenOf (pd_4) rfl) rfl (by decide) (by decide) (by decide) (Nat.le_of_ble_eq_true rfl)  (pc' := 9) rfl ?_
  intro T1 _ X2 hQ3 hsf4
  obtain ⟨rfl, KF, SF⟩ := hQ3
  show EndW p e below s Z _ _ _ T1 (mkF m 9 #[.val (.ref x), .val (.ref b)] [])
  exact F_return X2 d_sinit0_9 rfl (by decide) (by decide) (⟨rfl, KF, SF⟩)
def mkL (n c0 c1 c2 : Int32) : List Int32 := if n = 0 then [] else if n = 1 then [c0] else if n = 2 then [c0, c1] else [c0, c1, c2]
theorem allN {P : Int32 → Prop} : ∀ c ∈ ([] : List Int32), P c := fun _ q => nomatch q
theorem allC {P : Int32 → Prop} {a : Int32} {r : List Int32} (h : P a) (t : ∀ c ∈ r, P c) : ∀ c ∈ a :: r, P c := fun c q => (List.mem_cons.mp q).elim (fun u => u ▸ h) (t c)
theorem c8_ok (x : Int32) : ¬ (x &&& (255 : Int32)) < 0 ∧ ¬ (255 : Int32) < (x &&& (255 : Int32)) := by
  have e := c_mask x 255 8 (by decide) (by decide)
  simp only [Int32.lt_iff_toInt_lt, Int32.reduceToInt]; omega
theorem c8_nar {c : Int32} (h : ¬ c < 0 ∧ ¬ (255 : Int32) < c) : nar .char c = c := o_nar h.1 fun q => h.2 (Int32.lt_trans (by decide) q)
theorem c8_i2c {c : Int32} (h : ¬ c < 0 ∧ ¬ (255 : Int32) < c) : c.toUInt32.toUInt16.toUInt32.toInt32 = c := o_i2c h.1 fun q => h.2 (Int32.lt_trans (by decide) q)
theorem mk_len {p n a b c : Int32} (h : n = p &&& (3 : Int32)) : Int32.ofNat (mkL n a b c).length = n := by
  have e := c_mask p 3 2 (by decide) (by decide)
  have q : n = 0 ∨ n = 1 ∨ n = 2 ∨ n = 3 := by
    rw [h]; simp only [← Int32.toInt_inj, Int32.reduceToInt]; omega
  rcases q with rfl | rfl | rfl | rfl <;> rfl
theorem d_draw_0 : decode method_3_code 0 = .ok (.iload_n 0, 1) := by decide +kernel
theorem d_draw_1 : decode method_3_code 1 = .ok (.ifCond .ne 14, 3) := by decide +kernel
theorem d_draw_4 : decode method_3_code 4 = .ok (.new 31, 3) := by decide +kernel
theorem d_draw_7 : decode method_3_code 7 = .ok (.dup, 1) := by decide +kernel
theorem d_draw_8 : decode method_3_code 8 = .ok (.iconst 0, 1) := by decide +kernel
theorem d_draw_9 : decode method_3_code 9 = .ok (.newarray .char, 2) := by decide +kernel
theorem d_draw_11 : decode method_3_code 11 = .ok (.invokespecial 52, 3) := by decide +kernel
theorem d_draw_14 : decode method_3_code 14 = .ok (.areturn, 1) := by decide +kernel
theorem d_draw_15 : decode method_3_code 15 = .ok (.iload_n 0, 1) := by decide +kernel
theorem d_draw_16 : decode method_3_code 16 = .ok (.iconst 1, 1) := by decide +kernel
theorem d_draw_17 : decode method_3_code 17 = .ok (.if_icmp .ne 24, 3) := by decide +kernel
theorem d_draw_20 : decode method_3_code 20 = .ok (.iconst 1, 1) := by decide +kernel
theorem d_draw_21 : decode method_3_code 21 = .ok (.newarray .char, 2) := by decide +kernel
theorem d_draw_23 : decode method_3_code 23 = .ok (.astore 4, 2) := by decide +kernel
theorem d_draw_25 : decode method_3_code 25 = .ok (.aload 4, 2) := by decide +kernel
theorem d_draw_27 : decode method_3_code 27 = .ok (.iconst 0, 1) := by decide +kernel
theorem d_draw_28 : decode method_3_code 28 = .ok (.iload_n 1, 1) := by decide +kernel
theorem d_draw_29 : decode method_3_code 29 = .ok (.i2c, 1) := by decide +kernel
theorem d_draw_30 : decode method_3_code 30 = .ok (.castore, 1) := by decide +kernel
theorem d_draw_31 : decode method_3_code 31 = .ok (.new 31, 3) := by decide +kernel
theorem d_draw_34 : decode method_3_code 34 = .ok (.dup, 1) := by decide +kernel
theorem d_draw_35 : decode method_3_code 35 = .ok (.aload 4, 2) := by decide +kernel
theorem d_draw_37 : decode method_3_code 37 = .ok (.invokespecial 52, 3) := by decide +kernel
theorem d_draw_40 : decode method_3_code 40 = .ok (.areturn, 1) := by decide +kernel
theorem d_draw_41 : decode method_3_code 41 = .ok (.iload_n 0, 1) := by decide +kernel
theorem d_draw_42 : decode method_3_code 42 = .ok (.iconst 2, 1) := by decide +kernel
theorem d_draw_43 : decode method_3_code 43 = .ok (.if_icmp .ne 30, 3) := by decide +kernel
theorem d_draw_46 : decode method_3_code 46 = .ok (.iconst 2, 1) := by decide +kernel
theorem d_draw_47 : decode method_3_code 47 = .ok (.newarray .char, 2) := by decide +kernel
theorem d_draw_49 : decode method_3_code 49 = .ok (.astore 4, 2) := by decide +kernel
theorem d_draw_51 : decode method_3_code 51 = .ok (.aload 4, 2) := by decide +kernel
theorem d_draw_53 : decode method_3_code 53 = .ok (.iconst 0, 1) := by decide +kernel
theorem d_draw_54 : decode method_3_code 54 = .ok (.iload_n 1, 1) := by decide +kernel
theorem d_draw_55 : decode method_3_code 55 = .ok (.i2c, 1) := by decide +kernel
theorem d_draw_56 : decode method_3_code 56 = .ok (.castore, 1) := by decide +kernel
theorem d_draw_57 : decode method_3_code 57 = .ok (.aload 4, 2) := by decide +kernel
theorem d_draw_59 : decode method_3_code 59 = .ok (.iconst 1, 1) := by decide +kernel
theorem d_draw_60 : decode method_3_code 60 = .ok (.iload_n 2, 1) := by decide +kernel
theorem d_draw_61 : decode method_3_code 61 = .ok (.i2c, 1) := by decide +kernel
theorem d_draw_62 : decode method_3_code 62 = .ok (.castore, 1) := by decide +kernel
theorem d_draw_63 : decode method_3_code 63 = .ok (.new 31, 3) := by decide +kernel
theorem d_draw_66 : decode method_3_code 66 = .ok (.dup, 1) := by decide +kernel
theorem d_draw_67 : decode method_3_code 67 = .ok (.aload 4, 2) := by decide +kernel
theorem d_draw_69 : decode method_3_code 69 = .ok (.invokespecial 52, 3) := by decide +kernel
theorem d_draw_72 : decode method_3_code 72 = .ok (.areturn, 1) := by decide +kernel
theorem d_draw_73 : decode method_3_code 73 = .ok (.iconst 3, 1) := by decide +kernel
theorem d_draw_74 : decode method_3_code 74 = .ok (.newarray .char, 2) := by decide +kernel
theorem d_draw_76 : decode method_3_code 76 = .ok (.astore 4, 2) := by decide +kernel
theorem d_draw_78 : decode method_3_code 78 = .ok (.aload 4, 2) := by decide +kernel
theorem d_draw_80 : decode method_3_code 80 = .ok (.iconst 0, 1) := by decide +kernel
theorem d_draw_81 : decode method_3_code 81 = .ok (.iload_n 1, 1) := by decide +kernel
theorem d_draw_82 : decode method_3_code 82 = .ok (.i2c, 1) := by decide +kernel
theorem d_draw_83 : decode method_3_code 83 = .ok (.castore, 1) := by decide +kernel
theorem d_draw_84 : decode method_3_code 84 = .ok (.aload 4, 2) := by decide +kernel
theorem d_draw_86 : decode method_3_code 86 = .ok (.iconst 1, 1) := by decide +kernel
theorem d_draw_87 : decode method_3_code 87 = .ok (.iload_n 2, 1) := by decide +kernel
theorem d_draw_88 : decode method_3_code 88 = .ok (.i2c, 1) := by decide +kernel
theorem d_draw_89 : decode method_3_code 89 = .ok (.castore, 1) := by decide +kernel
theorem d_draw_90 : decode method_3_code 90 = .ok (.aload 4, 2) := by decide +kernel
theorem d_draw_92 : decode method_3_code 92 = .ok (.iconst 2, 1) := by decide +kernel
theorem d_draw_93 : decode method_3_code 93 = .ok (.iload_n 3, 1) := by decide +kernel
theorem d_draw_94 : decode method_3_code 94 = .ok (.i2c, 1) := by decide +kernel
theorem d_draw_95 : decode method_3_code 95 = .ok (.castore, 1) := by decide +kernel
theorem d_draw_96 : decode method_3_code 96 = .ok (.new 31, 3) := by decide +kernel
theorem d_draw_99 : decode method_3_code 99 = .ok (.dup, 1) := by decide +kernel
theorem d_draw_100 : decode method_3_code 100 = .ok (.aload 4, 2) := by decide +kernel
theorem d_draw_102 : decode method_3_code 102 = .ok (.invokespecial 52, 3) := by decide +kernel
theorem d_draw_105 : decode method_3_code 105 = .ok (.areturn, 1) := by decide +kernel
abbrev rm_draw : Room := ({ frames := 4, cells := 6, slots := 12, locals := 66 } : Room)
def Q_draw (Z : State) (n c0 c1 c2 : Int32) (h0 : Heap) (v : Option Value) (h : Heap) : Prop := ∃ x t, v = some (.ref x) ∧ Keep h0 h [] ∧ h0.size ≤ x ∧ OStr Z h x t (mkL n c0 c1 c2)
set_option maxRecDepth 65536 in
set_option maxHeartbeats 40000000 in
theorem ct_draw (l : Launch) (Z : State) (a0 : Array Value) (hw : ∀ d ∈ tables_1, d.before a0 Z = true) (G1 : Int32) (G3 : Value) (OS : Sts Z G1 G3) (hEL : EW Z a0 EL) (hSA : ∀ a ∈ Bundle.stringAtoms, a.before a0 Z = true) (n c0 c1 c2 : Int32) {h0 : Heap} (O : Ext Z.heap h0) (bc0 : ¬ c0 < 0 ∧ ¬ (255 : Int32) < c0) (bc1 : ¬ c1 < 0 ∧ ¬ (255 : Int32) < c1) (bc2 : ¬ c2 < 0 ∧ ¬ (255 : Int32) < c2) : CtW l Z (⟨"com/example/holdfast/holdfast/cli/OptionFlagPinLaw", "draw", "(IIII)Ljava/lang/String;"⟩ : MethodName) method_3_code 5 (some (.object "java/lang/String")) rm_draw #[(.int n), (.int c0), (.int c1), (.int c2)] h0 (Q_draw Z n c0 c1 c2 h0) := by
  refine CtW.of_body (Ls := #[.val (.int n), .val (.int c0), .val (.int c1), .val (.int c2), .unset]) (by decide +kernel) O hEL (fun m => by first | rfl | (simp [entryFrame, mkF, argsToLocals, Value.category]; done) | (rcases ref_cases (Sts.ref OS) with rfl | ⟨r, rfl⟩ <;> rfl)) ?_
  intro p e s m below meth c T0 X0 e0
  subst e0
  have K00 := Keep.refl T0.heap []
  refine F_iloadN X0 d_draw_0 rfl (pc' := 1) rfl ?_
  by_cases h1 : n = 0
  · skip
    refine F_ifF X0 d_draw_1 (XT.i0_ne_f h1) (pc' := 4) rfl ?_
    refine F_new X0 d_draw_4 (hw _ (List.mem_of_getElem? (i := 4) rfl)) (hw _ (List.mem_of_getElem? (i := 5) rfl)) (hw _ (List.mem_of_getElem? (i := 6) rfl)) (by decide) (by decide) (pc' := 7) rfl ?_
    intro T1 b3 X2 hb4 K5 E6 D7
    have sz8 : T0.heap.size ≤ b3 := Nat.le_trans K00.1 (Nat.le_of_eq hb4.symm)
    have KK9 := K00.trans K5 (fun x q => nomatch q)
    have g10 : Z.heap.size ≤ b3 := Nat.le_trans X0.le (Nat.le_of_eq hb4.symm)
    have F11 : Fld Z T1.heap b3 "java/lang/String" "value" "[B" .null := D7 (Or.inr (hw _ (List.mem_of_getElem? (i := 20) rfl))) (ty := (.array .byte)) (by decide)
    have F12 : Fld Z T1.heap b3 "java/lang/String" "coder" "B" (.int (0 : Int32)) := D7 (Or.inr (hw _ (List.mem_of_getElem? (i := 21) rfl))) (ty := .byte) (by decide)
    refine F_dup X2 d_draw_7 rfl (pc' := 8) rfl ?_
    refine F_iconst X2 (v := (0 : Int32)) d_draw_8 rfl (pc' := 9) rfl ?_
    refine F_newarray X2 0 d_draw_9 (hw _ (List.mem_of_getElem? (i := 7) rfl)) (by decide) (by decide) (by decide) (by decide) (by decide) (pc' := 11) rfl ?_
    intro T13 b15 k19 X14 hb16 K17 V18
    have sz20 : T0.heap.size ≤ b15 := Nat.le_trans KK9.1 (Nat.le_of_eq hb16.symm)
    have ne21 : b3 ≠ b15 := Nat.ne_of_lt (Nat.lt_of_lt_of_eq E6.lt hb16.symm)
    have KK22 := KK9.trans K17 (fun x q => nomatch q)
    have Exa_23 := E6.keep K17
    have Fld_24 := F11.keep K17 nin0
    have Fld_25 := F12.keep K17 nin0
    have g26 : Z.heap.size ≤ b15 := Nat.le_trans X2.le (Nat.le_of_eq hb16.symm)
    have V27 : Arv Z T13.heap b15 k19 .char (0 : Int32) [] (.int (0 : Int32)) := V18.pad (pad_rep [] (.int (0 : Int32)) 0)
    refine G_special X14 (rm := rm_sinit0) (a := b3) d_draw_11 rfl rfl (hw _ (List.mem_of_getElem? (i := 8) rfl)) (hw _ (List.mem_of_getElem? (i := 9) rfl)) (hw _ (List.mem_of_getElem? (i := 10) rfl)) (by decide) (hw _ (List.mem_of_getElem? (i := 6) rfl)) (argsL := [(.ref b15)]) (st := [(.ref b3)]) rfl (ct_sinit0 l Z a0 hw G1 G3 OS hEL hSA b3 b15 k19 (.int (0 : Int32)) X14.old Exa_23 Fld_24 Fld_25 g10 V27) (lenOf (pd_6) rfl) rfl (by decide) (by decide) (by decide) (Nat.le_of_ble_eq_true rfl)  (pc' := 14) rfl ?_
    intro T28 _ X29 hQ30 hsf31
    obtain ⟨rfl, K32, t33, S34⟩ := hQ30
    have KK35 := KK22.trans K32 (allS (Or.inr sz8) (fun x q => nomatch q))
    have Arv_36 := V27.keep K32 (ninS (Ne.symm ne21) nin0)
    show EndW p e below s Z _ _ _ T28 (mkF m 14 #[.val (.int n), .val (.int c0), .val (.int c1), .val (.int c2), .unset] [(.ref b3)])
    exact F_areturn X29 (t := (.object "java/lang/String")) d_draw_14 rfl rfl rfl rfl (by decide) (by decide) (⟨b3, t33, rfl, KK35, sz8, by rw [mkL, if_pos h1]; exact S34⟩)
  · skip
    refine F_ifT X0 d_draw_1 (XT.i0_ne_t h1) (pc' := 15) (by decide) rfl ?_
    refine F_iloadN X0 d_draw_15 rfl (pc' := 16) rfl ?_
    refine F_iconst X0 (v := (1 : Int32)) d_draw_16 rfl (pc' := 17) rfl ?_
    by_cases h17 : n = (1 : Int32)
    · skip
      refine F_icF X0 d_draw_17 (XT.ii_ne_f h17) (pc' := 20) rfl ?_
      refine F_iconst X0 (v := (1 : Int32)) d_draw_20 rfl (pc' := 21) rfl ?_
      refine F_newarray X0 1 d_draw_21 (hw _ (List.mem_of_getElem? (i := 7) rfl)) (by decide) (by decide) (by decide) (by decide) (by decide) (pc' := 23) rfl ?_
      intro T37 b39 k43 X38 hb40 K41 V42
      have sz44 : T0.heap.size ≤ b39 := Nat.le_trans K00.1 (Nat.le_of_eq hb40.symm)
      have KK45 := K00.trans K41 (fun x q => nomatch q)
      have g46 : Z.heap.size ≤ b39 := Nat.le_trans X0.le (Nat.le_of_eq hb40.symm)
      have V47 : Arv Z T37.heap b39 k43 .char (1 : Int32) [(.int (0 : Int32))] (.int (0 : Int32)) := V42.pad (pad_rep [] (.int (0 : Int32)) 1)
      refine F_astore X38 d_draw_23 rfl (l' := #[.val (.int n), .val (.int c0), .val (.int c1), .val (.int c2), .val (.ref b39)]) rfl (pc' := 25) rfl ?_
      refine F_aload X38 d_draw_25 rfl rfl (pc' := 27) rfl ?_
      refine F_iconst X38 (v := (0 : Int32)) d_draw_27 rfl (pc' := 28) rfl ?_
      refine F_iloadN X38 d_draw_28 rfl (pc' := 29) rfl ?_
      refine F_i2c X38 (v := c0) d_draw_29 (c8_i2c bc0) (pc' := 30) rfl ?_
      refine F_castore X38 0 (y := c0) d_draw_30 (c8_nar bc0) V47 ⟨by decide, by decide⟩ rfl (Nat.le_of_ble_eq_true rfl) g46 (pc' := 31) rfl ?_
      intro T48 X49 K50 V51
      have KK52 := KK45.trans K50 (allS (Or.inr sz44) (fun x q => nomatch q))
      have V53 : Arv Z T48.heap b39 k43 .char (1 : Int32) [(.int c0)] (.int (0 : Int32)) := V51
      refine F_new X49 d_draw_31 (hw _ (List.mem_of_getElem? (i := 4) rfl)) (hw _ (List.mem_of_getElem? (i := 5) rfl)) (hw _ (List.mem_of_getElem? (i := 6) rfl)) (by decide) (by decide) (pc' := 34) rfl ?_
      intro T54 b56 X55 hb57 K58 E59 D60
      have sz61 : T0.heap.size ≤ b56 := Nat.le_trans KK52.1 (Nat.le_of_eq hb57.symm)
      have ne62 : b39 ≠ b56 := Nat.ne_of_lt (Nat.lt_of_lt_of_eq V53.lt hb57.symm)
      have KK63 := KK52.trans K58 (fun x q => nomatch q)
      have Arv_64 := V53.keep K58 nin0
      have g65 : Z.heap.size ≤ b56 := Nat.le_trans X49.le (Nat.le_of_eq hb57.symm)
      have F66 : Fld Z T54.heap b56 "java/lang/String" "value" "[B" .null := D60 (Or.inr (hw _ (List.mem_of_getElem? (i := 20) rfl))) (ty := (.array .byte)) (by decide)
      have F67 : Fld Z T54.heap b56 "java/lang/String" "coder" "B" (.int (0 : Int32)) := D60 (Or.inr (hw _ (List.mem_of_getElem? (i := 21) rfl))) (ty := .byte) (by decide)
      refine F_dup X55 d_draw_34 rfl (pc' := 35) rfl ?_
      refine F_aload X55 d_draw_35 rfl rfl (pc' := 37) rfl ?_
      refine F_special X55 (rm := rm_sinit) (a := b56) d_draw_37 rfl rfl (hw _ (List.mem_of_getElem? (i := 8) rfl)) (hw _ (List.mem_of_getElem? (i := 9) rfl)) (hw _ (List.mem_of_getElem? (i := 10) rfl)) (by decide) (hw _ (List.mem_of_getElem? (i := 6) rfl)) (argsL := [(.ref b39)]) (st := [(.ref b56)]) rfl (ct_sinit l Z a0 hw G1 G3 OS hEL hSA b56 b39 k43 [c0] (.int (0 : Int32)) .null (.int (0 : Int32)) X55.old (Nat.le_of_ble_eq_true rfl) (Nat.le_of_ble_eq_true rfl) (allC bc0 allN) E59 F66 F67 g65 Arv_64) (lenOf (pd_6) rfl) rfl (by decide) (by decide) (by decide) (Nat.le_of_ble_eq_true rfl) [b56] (fun _ _ q => q.2.1) (sfS (own_safe X55.al E59 F66 (hw _ (List.mem_of_getElem? (i := 5) rfl))) (sf0))  (pc' := 40) rfl ?_
      intro T68 _ X69 hQ70
      obtain ⟨rfl, K71, t72, sz73, S74⟩ := hQ70
      have ne75 : b39 ≠ t72 := Nat.ne_of_lt (Nat.lt_of_lt_of_le Arv_64.lt sz73)
      have ne76 : b56 ≠ t72 := Nat.ne_of_lt (Nat.lt_of_lt_of_le E59.lt sz73)
      have KK77 := KK63.trans K71 (allS (Or.inr sz61) (fun x q => nomatch q))
      have Arv_78 := Arv_64.keep K71 (ninS ne62 nin0)
      have sz79 : T0.heap.size ≤ t72 := Nat.le_trans KK63.1 sz73
      show EndW p e below s Z _ _ _ T68 (mkF m 40 #[.val (.int n), .val (.int c0), .val (.int c1), .val (.int c2), .val (.ref b39)] [(.ref b56)])
      exact F_areturn X69 (t := (.object "java/lang/String")) d_draw_40 rfl rfl rfl rfl (by decide) (by decide) (⟨b56, t72, rfl, KK77, sz61, by rw [mkL, if_neg h1, if_pos h17]; exact S74⟩)
    · skip
      refine F_icT X0 d_draw_17 (XT.ii_ne_t h17) (pc' := 41) (by decide) rfl ?_
      refine F_iloadN X0 d_draw_41 rfl (pc' := 42) rfl ?_
      refine F_iconst X0 (v := (2 : Int32)) d_draw_42 rfl (pc' := 43) rfl ?_
      by_cases h43 : n = (2 : Int32)
      · skip
        refine F_icF X0 d_draw_43 (XT.ii_ne_f h43) (pc' := 46) rfl ?_
        refine F_iconst X0 (v := (2 : Int32)) d_draw_46 rfl (pc' := 47) rfl ?_
        refine F_newarray X0 2 d_draw_47 (hw _ (List.mem_of_getElem? (i := 7) rfl)) (by decide) (by decide) (by decide) (by decide) (by decide) (pc' := 49) rfl ?_
        intro T80 b82 k86 X81 hb83 K84 V85
        have sz87 : T0.heap.size ≤ b82 := Nat.le_trans K00.1 (Nat.le_of_eq hb83.symm)
        have KK88 := K00.trans K84 (fun x q => nomatch q)
        have g89 : Z.heap.size ≤ b82 := Nat.le_trans X0.le (Nat.le_of_eq hb83.symm)
        have V90 : Arv Z T80.heap b82 k86 .char (2 : Int32) [(.int (0 : Int32)), (.int (0 : Int32))] (.int (0 : Int32)) := V85.pad (pad_rep [] (.int (0 : Int32)) 2)
        refine F_astore X81 d_draw_49 rfl (l' := #[.val (.int n), .val (.int c0), .val (.int c1), .val (.int c2), .val (.ref b82)]) rfl (pc' := 51) rfl ?_
        refine F_aload X81 d_draw_51 rfl rfl (pc' := 53) rfl ?_
        refine F_iconst X81 (v := (0 : Int32)) d_draw_53 rfl (pc' := 54) rfl ?_
        refine F_iloadN X81 d_draw_54 rfl (pc' := 55) rfl ?_
        refine F_i2c X81 (v := c0) d_draw_55 (c8_i2c bc0) (pc' := 56) rfl ?_
        refine F_castore X81 0 (y := c0) d_draw_56 (c8_nar bc0) V90 ⟨by decide, by decide⟩ rfl (Nat.le_of_ble_eq_true rfl) g89 (pc' := 57) rfl ?_
        intro T91 X92 K93 V94
        have KK95 := KK88.trans K93 (allS (Or.inr sz87) (fun x q => nomatch q))
        have V96 : Arv Z T91.heap b82 k86 .char (2 : Int32) [(.int c0), (.int (0 : Int32))] (.int (0 : Int32)) := V94
        refine F_aload X92 d_draw_57 rfl rfl (pc' := 59) rfl ?_
        refine F_iconst X92 (v := (1 : Int32)) d_draw_59 rfl (pc' := 60) rfl ?_
        refine F_iloadN X92 d_draw_60 rfl (pc' := 61) rfl ?_
        refine F_i2c X92 (v := c1) d_draw_61 (c8_i2c bc1) (pc' := 62) rfl ?_
        refine F_castore X92 1 (y := c1) d_draw_62 (c8_nar bc1) V96 ⟨by decide, by decide⟩ rfl (Nat.le_of_ble_eq_true rfl) g89 (pc' := 63) rfl ?_
        intro T97 X98 K99 V100
        have KK101 := KK95.trans K99 (allS (Or.inr sz87) (fun x q => nomatch q))
        have V102 : Arv Z T97.heap b82 k86 .char (2 : Int32) [(.int c0), (.int c1)] (.int (0 : Int32)) := V100
        refine F_new X98 d_draw_63 (hw _ (List.mem_of_getElem? (i := 4) rfl)) (hw _ (List.mem_of_getElem? (i := 5) rfl)) (hw _ (List.mem_of_getElem? (i := 6) rfl)) (by decide) (by decide) (pc' := 66) rfl ?_
        intro T103 b105 X104 hb106 K107 E108 D109
        have sz110 : T0.heap.size ≤ b105 := Nat.le_trans KK101.1 (Nat.le_of_eq hb106.symm)
        have ne111 : b82 ≠ b105 := Nat.ne_of_lt (Nat.lt_of_lt_of_eq V102.lt hb106.symm)
        have KK112 := KK101.trans K107 (fun x q => nomatch q)
        have Arv_113 := V102.keep K107 nin0
        have g114 : Z.heap.size ≤ b105 := Nat.le_trans X98.le (Nat.le_of_eq hb106.symm)
        have F115 : Fld Z T103.heap b105 "java/lang/String" "value" "[B" .null := D109 (Or.inr (hw _ (List.mem_of_getElem? (i := 20) rfl))) (ty := (.array .byte)) (by decide)
        have F116 : Fld Z T103.heap b105 "java/lang/String" "coder" "B" (.int (0 : Int32)) := D109 (Or.inr (hw _ (List.mem_of_getElem? (i := 21) rfl))) (ty := .byte) (by decide)
        refine F_dup X104 d_draw_66 rfl (pc' := 67) rfl ?_
        refine F_aload X104 d_draw_67 rfl rfl (pc' := 69) rfl ?_
        refine F_special X104 (rm := rm_sinit) (a := b105) d_draw_69 rfl rfl (hw _ (List.mem_of_getElem? (i := 8) rfl)) (hw _ (List.mem_of_getElem? (i := 9) rfl)) (hw _ (List.mem_of_getElem? (i := 10) rfl)) (by decide) (hw _ (List.mem_of_getElem? (i := 6) rfl)) (argsL := [(.ref b82)]) (st := [(.ref b105)]) rfl (ct_sinit l Z a0 hw G1 G3 OS hEL hSA b105 b82 k86 [c0, c1] (.int (0 : Int32)) .null (.int (0 : Int32)) X104.old (Nat.le_of_ble_eq_true rfl) (Nat.le_of_ble_eq_true rfl) (allC bc0 (allC bc1 allN)) E108 F115 F116 g114 Arv_113) (lenOf (pd_6) rfl) rfl (by decide) (by decide) (by decide) (Nat.le_of_ble_eq_true rfl) [b105] (fun _ _ q => q.2.1) (sfS (own_safe X104.al E108 F115 (hw _ (List.mem_of_getElem? (i := 5) rfl))) (sf0))  (pc' := 72) rfl ?_
        intro T117 _ X118 hQ119
        obtain ⟨rfl, K120, t121, sz122, S123⟩ := hQ119
        have ne124 : b82 ≠ t121 := Nat.ne_of_lt (Nat.lt_of_lt_of_le Arv_113.lt sz122)
        have ne125 : b105 ≠ t121 := Nat.ne_of_lt (Nat.lt_of_lt_of_le E108.lt sz122)
        have KK126 := KK112.trans K120 (allS (Or.inr sz110) (fun x q => nomatch q))
        have Arv_127 := Arv_113.keep K120 (ninS ne111 nin0)
        have sz128 : T0.heap.size ≤ t121 := Nat.le_trans KK112.1 sz122
        show EndW p e below s Z _ _ _ T117 (mkF m 72 #[.val (.int n), .val (.int c0), .val (.int c1), .val (.int c2), .val (.ref b82)] [(.ref b105)])
        exact F_areturn X118 (t := (.object "java/lang/String")) d_draw_72 rfl rfl rfl rfl (by decide) (by decide) (⟨b105, t121, rfl, KK126, sz110, by rw [mkL, if_neg h1, if_neg h17, if_pos h43]; exact S123⟩)
      · skip
        refine F_icT X0 d_draw_43 (XT.ii_ne_t h43) (pc' := 73) (by decide) rfl ?_
        refine F_iconst X0 (v := (3 : Int32)) d_draw_73 rfl (pc' := 74) rfl ?_
        refine F_newarray X0 3 d_draw_74 (hw _ (List.mem_of_getElem? (i := 7) rfl)) (by decide) (by decide) (by decide) (by decide) (by decide) (pc' := 76) rfl ?_
        intro T129 b131 k135 X130 hb132 K133 V134
        have sz136 : T0.heap.size ≤ b131 := Nat.le_trans K00.1 (Nat.le_of_eq hb132.symm)
        have KK137 := K00.trans K133 (fun x q => nomatch q)
        have g138 : Z.heap.size ≤ b131 := Nat.le_trans X0.le (Nat.le_of_eq hb132.symm)
        have V139 : Arv Z T129.heap b131 k135 .char (3 : Int32) [(.int (0 : Int32)), (.int (0 : Int32)), (.int (0 : Int32))] (.int (0 : Int32)) := V134.pad (pad_rep [] (.int (0 : Int32)) 3)
        refine F_astore X130 d_draw_76 rfl (l' := #[.val (.int n), .val (.int c0), .val (.int c1), .val (.int c2), .val (.ref b131)]) rfl (pc' := 78) rfl ?_
        refine F_aload X130 d_draw_78 rfl rfl (pc' := 80) rfl ?_
        refine F_iconst X130 (v := (0 : Int32)) d_draw_80 rfl (pc' := 81) rfl ?_
        refine F_iloadN X130 d_draw_81 rfl (pc' := 82) rfl ?_
        refine F_i2c X130 (v := c0) d_draw_82 (c8_i2c bc0) (pc' := 83) rfl ?_
        refine F_castore X130 0 (y := c0) d_draw_83 (c8_nar bc0) V139 ⟨by decide, by decide⟩ rfl (Nat.le_of_ble_eq_true rfl) g138 (pc' := 84) rfl ?_
        intro T140 X141 K142 V143
        have KK144 := KK137.trans K142 (allS (Or.inr sz136) (fun x q => nomatch q))
        have V145 : Arv Z T140.heap b131 k135 .char (3 : Int32) [(.int c0), (.int (0 : Int32)), (.int (0 : Int32))] (.int (0 : Int32)) := V143
        refine F_aload X141 d_draw_84 rfl rfl (pc' := 86) rfl ?_
        refine F_iconst X141 (v := (1 : Int32)) d_draw_86 rfl (pc' := 87) rfl ?_
        refine F_iloadN X141 d_draw_87 rfl (pc' := 88) rfl ?_
        refine F_i2c X141 (v := c1) d_draw_88 (c8_i2c bc1) (pc' := 89) rfl ?_
        refine F_castore X141 1 (y := c1) d_draw_89 (c8_nar bc1) V145 ⟨by decide, by decide⟩ rfl (Nat.le_of_ble_eq_true rfl) g138 (pc' := 90) rfl ?_
        intro T146 X147 K148 V149
        have KK150 := KK144.trans K148 (allS (Or.inr sz136) (fun x q => nomatch q))
        have V151 : Arv Z T146.heap b131 k135 .char (3 : Int32) [(.int c0), (.int c1), (.int (0 : Int32))] (.int (0 : Int32)) := V149
        refine F_aload X147 d_draw_90 rfl rfl (pc' := 92) rfl ?_
        refine F_iconst X147 (v := (2 : Int32)) d_draw_92 rfl (pc' := 93) rfl ?_
        refine F_iloadN X147 d_draw_93 rfl (pc' := 94) rfl ?_
        refine F_i2c X147 (v := c2) d_draw_94 (c8_i2c bc2) (pc' := 95) rfl ?_
        refine F_castore X147 2 (y := c2) d_draw_95 (c8_nar bc2) V151 ⟨by decide, by decide⟩ rfl (Nat.le_of_ble_eq_true rfl) g138 (pc' := 96) rfl ?_
        intro T152 X153 K154 V155
        have KK156 := KK150.trans K154 (allS (Or.inr sz136) (fun x q => nomatch q))
        have V157 : Arv Z T152.heap b131 k135 .char (3 : Int32) [(.int c0), (.int c1), (.int c2)] (.int (0 : Int32)) := V155
        refine F_new X153 d_draw_96 (hw _ (List.mem_of_getElem? (i := 4) rfl)) (hw _ (List.mem_of_getElem? (i := 5) rfl)) (hw _ (List.mem_of_getElem? (i := 6) rfl)) (by decide) (by decide) (pc' := 99) rfl ?_
        intro T158 b160 X159 hb161 K162 E163 D164
        have sz165 : T0.heap.size ≤ b160 := Nat.le_trans KK156.1 (Nat.le_of_eq hb161.symm)
        have ne166 : b131 ≠ b160 := Nat.ne_of_lt (Nat.lt_of_lt_of_eq V157.lt hb161.symm)
        have KK167 := KK156.trans K162 (fun x q => nomatch q)
        have Arv_168 := V157.keep K162 nin0
        have g169 : Z.heap.size ≤ b160 := Nat.le_trans X153.le (Nat.le_of_eq hb161.symm)
        have F170 : Fld Z T158.heap b160 "java/lang/String" "value" "[B" .null := D164 (Or.inr (hw _ (List.mem_of_getElem? (i := 20) rfl))) (ty := (.array .byte)) (by decide)
        have F171 : Fld Z T158.heap b160 "java/lang/String" "coder" "B" (.int (0 : Int32)) := D164 (Or.inr (hw _ (List.mem_of_getElem? (i := 21) rfl))) (ty := .byte) (by decide)
        refine F_dup X159 d_draw_99 rfl (pc' := 100) rfl ?_
        refine F_aload X159 d_draw_100 rfl rfl (pc' := 102) rfl ?_
        refine F_special X159 (rm := rm_sinit) (a := b160) d_draw_102 rfl rfl (hw _ (List.mem_of_getElem? (i := 8) rfl)) (hw _ (List.mem_of_getElem? (i := 9) rfl)) (hw _ (List.mem_of_getElem? (i := 10) rfl)) (by decide) (hw _ (List.mem_of_getElem? (i := 6) rfl)) (argsL := [(.ref b131)]) (st := [(.ref b160)]) rfl (ct_sinit l Z a0 hw G1 G3 OS hEL hSA b160 b131 k135 [c0, c1, c2] (.int (0 : Int32)) .null (.int (0 : Int32)) X159.old (Nat.le_of_ble_eq_true rfl) (Nat.le_of_ble_eq_true rfl) (allC bc0 (allC bc1 (allC bc2 allN))) E163 F170 F171 g169 Arv_168) (lenOf (pd_6) rfl) rfl (by decide) (by decide) (by decide) (Nat.le_of_ble_eq_true rfl) [b160] (fun _ _ q => q.2.1) (sfS (own_safe X159.al E163 F170 (hw _ (List.mem_of_getElem? (i := 5) rfl))) (sf0))  (pc' := 105) rfl ?_
        intro T172 _ X173 hQ174
        obtain ⟨rfl, K175, t176, sz177, S178⟩ := hQ174
        have ne179 : b131 ≠ t176 := Nat.ne_of_lt (Nat.lt_of_lt_of_le Arv_168.lt sz177)
        have ne180 : b160 ≠ t176 := Nat.ne_of_lt (Nat.lt_of_lt_of_le E163.lt sz177)
        have KK181 := KK167.trans K175 (allS (Or.inr sz165) (fun x q => nomatch q))
        have Arv_182 := Arv_168.keep K175 (ninS ne166 nin0)
        have sz183 : T0.heap.size ≤ t176 := Nat.le_trans KK167.1 sz177
        show EndW p e below s Z _ _ _ T172 (mkF m 105 #[.val (.int n), .val (.int c0), .val (.int c1), .val (.int c2), .val (.ref b131)] [(.ref b160)])
        exact F_areturn X173 (t := (.object "java/lang/String")) d_draw_105 rfl rfl rfl rfl (by decide) (by decide) (⟨b160, t176, rfl, KK181, sz165, by rw [mkL, if_neg h1, if_neg h17, if_neg h43]; exact S178⟩)
theorem d_recinit_0 : decode jdk_30_method_1_code 0 = .ok (.aload_n 0, 1) := by decide +kernel
theorem d_recinit_1 : decode jdk_30_method_1_code 1 = .ok (.invokespecial 1, 3) := by decide +kernel
theorem d_recinit_4 : decode jdk_30_method_1_code 4 = .ok (.return_, 1) := by decide +kernel
abbrev rm_recinit : Room := ({ frames := 1, cells := 0, slots := 0, locals := 12 } : Room)
def Q_recinit (Z : State) (x : Addr) (h0 : Heap) (v : Option Value) (h : Heap) : Prop := v = none ∧ h = h0
set_option maxRecDepth 65536 in
set_option maxHeartbeats 40000000 in
theorem ct_recinit (l : Launch) (Z : State) (a0 : Array Value) (hw : ∀ d ∈ tables_1, d.before a0 Z = true) (G1 : Int32) (G3 : Value) (OS : Sts Z G1 G3) (hEL : EW Z a0 EL) (hSA : ∀ a ∈ Bundle.stringAtoms, a.before a0 Z = true) (x : Addr) {h0 : Heap} (O : Ext Z.heap h0)  : Ct l Z (⟨"java/lang/Record", "<init>", "()V"⟩ : MethodName) jdk_30_method_1_code 1 none rm_recinit #[(.ref x)] h0 (Q_recinit Z x h0) := by
  refine Ct.of_body (Ls := #[.val (.ref x)]) (by decide +kernel) O (fun m => by first | rfl | (simp [entryFrame, mkF, argsToLocals, Value.category]; done) | (rcases ref_cases (Sts.ref OS) with rfl | ⟨r, rfl⟩ <;> rfl)) ?_
  intro p e s m below meth c T0 X0 e0
  subst e0
  refine E_aloadN X0 d_recinit_0 rfl rfl (pc' := 1) rfl ?_
  refine E_initO X0 d_recinit_1 (hw _ (List.mem_of_getElem? (i := 50) rfl)) (hw _ (List.mem_of_getElem? (i := 16) rfl)) (hw _ (List.mem_of_getElem? (i := 17) rfl)) rfl (by decide) (Nat.le_of_ble_eq_true rfl) (pc' := 4) rfl ?_
  intro T1 X2 e3
  exact E_return X2 d_recinit_4 rfl (by decide) (by decide) (⟨rfl, e3⟩)
theorem d_lof_0 : decode jdk_40_method_36_code 0 = .ok (.getstatic 90, 3) := by decide +kernel
theorem d_lof_3 : decode jdk_40_method_36_code 3 = .ok (.areturn, 1) := by decide +kernel
abbrev rm_lof : Room := ({ frames := 0, cells := 0, slots := 0, locals := 0 } : Room)
def Q_lof (Z : State) (la : Addr) (h0 : Heap) (v : Option Value) (h : Heap) : Prop := v = some (.ref la) ∧ h = h0
set_option maxRecDepth 65536 in
set_option maxHeartbeats 40000000 in
theorem ct_lof (l : Launch) (Z : State) (a0 : Array Value) (hw : ∀ d ∈ tables_1, d.before a0 Z = true) (G1 : Int32) (G3 : Value) (OS : Sts Z G1 G3) (hEL : EW Z a0 EL) (hSA : ∀ a ∈ Bundle.stringAtoms, a.before a0 Z = true) (la : Addr) {h0 : Heap} (O : Ext Z.heap h0) (SE : Sta Z Z.heap "java/util/ImmutableCollections" "EMPTY_LIST" "Ljava/util/ImmutableCollections$ListN;" (.ref la)) : Ct l Z (⟨"java/util/List", "of", "()Ljava/util/List;"⟩ : MethodName) jdk_40_method_36_code 0 (some (.object "java/util/List")) rm_lof #[] h0 (Q_lof Z la h0) := by
  refine Ct.of_body (Ls := #[]) (by decide +kernel) O (fun m => by first | rfl | (simp [entryFrame, mkF, argsToLocals, Value.category]; done) | (rcases ref_cases (Sts.ref OS) with rfl | ⟨r, rfl⟩ <;> rfl)) ?_
  intro p e s m below meth c T0 X0 e0
  subst e0
  refine E_getstatic X0 d_lof_0 (hw _ (List.mem_of_getElem? (i := 40) rfl)) Via.refl SE (pc' := 3) rfl ?_
  intro T1 X2 e3
  exact E_areturn X2 (t := (.object "java/util/List")) d_lof_3 rfl rfl rfl rfl (by decide) (by decide) (⟨rfl, e3⟩)
theorem d_oinit4_0 : decode prog_98_method_2_code 0 = .ok (.aload_n 0, 1) := by decide +kernel
theorem d_oinit4_1 : decode prog_98_method_2_code 1 = .ok (.invokespecial 1, 3) := by decide +kernel
theorem d_oinit4_4 : decode prog_98_method_2_code 4 = .ok (.aload_n 0, 1) := by decide +kernel
theorem d_oinit4_5 : decode prog_98_method_2_code 5 = .ok (.aload_n 1, 1) := by decide +kernel
theorem d_oinit4_6 : decode prog_98_method_2_code 6 = .ok (.putfield 7, 3) := by decide +kernel
theorem d_oinit4_9 : decode prog_98_method_2_code 9 = .ok (.aload_n 0, 1) := by decide +kernel
theorem d_oinit4_10 : decode prog_98_method_2_code 10 = .ok (.aload_n 2, 1) := by decide +kernel
theorem d_oinit4_11 : decode prog_98_method_2_code 11 = .ok (.putfield 13, 3) := by decide +kernel
theorem d_oinit4_14 : decode prog_98_method_2_code 14 = .ok (.aload_n 0, 1) := by decide +kernel
theorem d_oinit4_15 : decode prog_98_method_2_code 15 = .ok (.iload_n 3, 1) := by decide +kernel
theorem d_oinit4_16 : decode prog_98_method_2_code 16 = .ok (.putfield 16, 3) := by decide +kernel
theorem d_oinit4_19 : decode prog_98_method_2_code 19 = .ok (.aload_n 0, 1) := by decide +kernel
theorem d_oinit4_20 : decode prog_98_method_2_code 20 = .ok (.aload 4, 2) := by decide +kernel
theorem d_oinit4_22 : decode prog_98_method_2_code 22 = .ok (.putfield 20, 3) := by decide +kernel
theorem d_oinit4_25 : decode prog_98_method_2_code 25 = .ok (.return_, 1) := by decide +kernel
abbrev rm_oinit4 : Room := ({ frames := 2, cells := 0, slots := 0, locals := 24 } : Room)
def Q_oinit4 (Z : State) (x n ev la : Addr) (h0 : Heap) (v : Option Value) (h : Heap) : Prop := v = none ∧ Keep h0 h [x] ∧ Fld Z h x "com/example/holdfast/holdfast/cli/LevelArguments$Option" "name" "Ljava/lang/String;" (.ref n) ∧ Fld Z h x "com/example/holdfast/holdfast/cli/LevelArguments$Option" "value" "Ljava/lang/String;" (.ref ev) ∧ Fld Z h x "com/example/holdfast/holdfast/cli/LevelArguments$Option" "required" "Z" (.int (0 : Int32)) ∧ Fld Z h x "com/example/holdfast/holdfast/cli/LevelArguments$Option" "choices" "Ljava/util/List;" (.ref la)
set_option maxRecDepth 65536 in
set_option maxHeartbeats 40000000 in
theorem ct_oinit4 (l : Launch) (Z : State) (a0 : Array Value) (hw : ∀ d ∈ tables_1, d.before a0 Z = true) (G1 : Int32) (G3 : Value) (OS : Sts Z G1 G3) (hEL : EW Z a0 EL) (hSA : ∀ a ∈ Bundle.stringAtoms, a.before a0 Z = true) (x n ev la : Addr) {h0 : Heap} (O : Ext Z.heap h0) (E0 : Exa Z h0 x "com/example/holdfast/holdfast/cli/LevelArguments$Option") (F_name : Fld Z h0 x "com/example/holdfast/holdfast/cli/LevelArguments$Option" "name" "Ljava/lang/String;" .null) (F_value : Fld Z h0 x "com/example/holdfast/holdfast/cli/LevelArguments$Option" "value" "Ljava/lang/String;" .null) (F_required : Fld Z h0 x "com/example/holdfast/holdfast/cli/LevelArguments$Option" "required" "Z" (.int (0 : Int32))) (F_choices : Fld Z h0 x "com/example/holdfast/holdfast/cli/LevelArguments$Option" "choices" "Ljava/util/List;" .null) (gx : Z.heap.size ≤ x) : Ct l Z (⟨"com/example/holdfast/holdfast/cli/LevelArguments$Option", "<init>", "(Ljava/lang/String;Ljava/lang/String;ZLjava/util/List;)V"⟩ : MethodName) prog_98_method_2_code 5 none rm_oinit4 #[(.ref x), (.ref n), (.ref ev), (.int (0 : Int32)), (.ref la)] h0 (Q_oinit4 Z x n ev la h0) := by
  refine Ct.of_body (Ls := #[.val (.ref x), .val (.ref n), .val (.ref ev), .val (.int (0 : Int32)), .val (.ref la)]) (by decide +kernel) O (fun m => by first | rfl | (simp [entryFrame, mkF, argsToLocals, Value.category]; done) | (rcases ref_cases (Sts.ref OS) with rfl | ⟨r, rfl⟩ <;> rfl)) ?_
  intro p e s m below meth c T0 X0 e0
  subst e0
  have K00 := Keep.refl T0.heap [x]
  refine E_aloadN X0 d_oinit4_0 rfl rfl (pc' := 1) rfl ?_
  refine E_special X0 (rm := rm_recinit) (a := x) d_oinit4_1 rfl rfl (hw _ (List.mem_of_getElem? (i := 45) rfl)) (hw _ (List.mem_of_getElem? (i := 46) rfl)) (hw _ (List.mem_of_getElem? (i := 49) rfl)) (by decide) (hw _ (List.mem_of_getElem? (i := 48) rfl)) (argsL := []) (st := []) rfl (ct_recinit l Z a0 hw G1 G3 OS hEL hSA x X0.old) (lenOf (pd_7) rfl) rfl (by decide) (by decide) (by decide) (Nat.le_of_ble_eq_true rfl)  (pc' := 4) rfl ?_
  intro T1 _ X2 hQ3
  obtain ⟨rfl, e4⟩ := hQ3
  have KK5 := own_keq K00 e4
  rw [← e4] at E0 F_name F_value F_required F_choices
  show Ends p e below s Z _ _ _ T1 (mkF m 4 #[.val (.ref x), .val (.ref n), .val (.ref ev), .val (.int (0 : Int32)), .val (.ref la)] [])
  refine E_aloadN X2 d_oinit4_4 rfl rfl (pc' := 5) rfl ?_
  refine E_aloadN X2 d_oinit4_5 rfl rfl (pc' := 6) rfl ?_
  refine E_putfield X2 (ty := (.object "java/lang/String")) d_oinit4_6 (hw _ (List.mem_of_getElem? (i := 51) rfl)) Via.refl F_name E0 (Or.inr ⟨(hw _ (List.mem_of_getElem? (i := 52) rfl)), rfl, rfl⟩) (hw _ (List.mem_of_getElem? (i := 31) rfl)) (by decide) rfl rfl gx  (pc' := 9) rfl ?_
  intro T6 X7 W8
  have K9 := Keep.of_wr W8
  have KK10 := KK5.trans K9 (allS (Or.inl (by simp)) (fun x q => nomatch q))
  have Exa_11 := E0.keep K9
  have F12 := F_name.same W8
  have F13 := F_value.other W8 (Or.inr (slot_ne (Or.inr (hw _ (List.mem_of_getElem? (i := 54) rfl))) (Or.inr (hw _ (List.mem_of_getElem? (i := 52) rfl))) (by decide) (t := (.object "java/lang/String")) (t' := (.object "java/lang/String")) (by decide) (by decide)))
  have F14 := F_required.other W8 (Or.inr (slot_ne (Or.inr (hw _ (List.mem_of_getElem? (i := 56) rfl))) (Or.inr (hw _ (List.mem_of_getElem? (i := 52) rfl))) (by decide) (t := .boolean) (t' := (.object "java/lang/String")) (by decide) (by decide)))
  have F15 := F_choices.other W8 (Or.inr (slot_ne (Or.inr (hw _ (List.mem_of_getElem? (i := 58) rfl))) (Or.inr (hw _ (List.mem_of_getElem? (i := 52) rfl))) (by decide) (t := (.object "java/util/List")) (t' := (.object "java/lang/String")) (by decide) (by decide)))
  refine E_aloadN X7 d_oinit4_9 rfl rfl (pc' := 10) rfl ?_
  refine E_aloadN X7 d_oinit4_10 rfl rfl (pc' := 11) rfl ?_
  refine E_putfield X7 (ty := (.object "java/lang/String")) d_oinit4_11 (hw _ (List.mem_of_getElem? (i := 53) rfl)) Via.refl F13 Exa_11 (Or.inr ⟨(hw _ (List.mem_of_getElem? (i := 54) rfl)), rfl, rfl⟩) (hw _ (List.mem_of_getElem? (i := 31) rfl)) (by decide) rfl rfl gx  (pc' := 14) rfl ?_
  intro T16 X17 W18
  have K19 := Keep.of_wr W18
  have KK20 := KK10.trans K19 (allS (Or.inl (by simp)) (fun x q => nomatch q))
  have Exa_21 := Exa_11.keep K19
  have F22 := F13.same W18
  have F23 := F12.other W18 (Or.inr (slot_ne (Or.inr (hw _ (List.mem_of_getElem? (i := 52) rfl))) (Or.inr (hw _ (List.mem_of_getElem? (i := 54) rfl))) (by decide) (t := (.object "java/lang/String")) (t' := (.object "java/lang/String")) (by decide) (by decide)))
  have F24 := F14.other W18 (Or.inr (slot_ne (Or.inr (hw _ (List.mem_of_getElem? (i := 56) rfl))) (Or.inr (hw _ (List.mem_of_getElem? (i := 54) rfl))) (by decide) (t := .boolean) (t' := (.object "java/lang/String")) (by decide) (by decide)))
  have F25 := F15.other W18 (Or.inr (slot_ne (Or.inr (hw _ (List.mem_of_getElem? (i := 58) rfl))) (Or.inr (hw _ (List.mem_of_getElem? (i := 54) rfl))) (by decide) (t := (.object "java/util/List")) (t' := (.object "java/lang/String")) (by decide) (by decide)))
  refine E_aloadN X17 d_oinit4_14 rfl rfl (pc' := 15) rfl ?_
  refine E_iloadN X17 d_oinit4_15 rfl (pc' := 16) rfl ?_
  refine E_putfield X17 (ty := .boolean) d_oinit4_16 (hw _ (List.mem_of_getElem? (i := 55) rfl)) Via.refl F24 Exa_21 (Or.inr ⟨(hw _ (List.mem_of_getElem? (i := 56) rfl)), rfl, rfl⟩) (hw _ (List.mem_of_getElem? (i := 31) rfl)) (by decide) rfl rfl gx  (pc' := 19) rfl ?_
  intro T26 X27 W28
  have K29 := Keep.of_wr W28
  have KK30 := KK20.trans K29 (allS (Or.inl (by simp)) (fun x q => nomatch q))
  have Exa_31 := Exa_21.keep K29
  have F32 := F24.same W28
  have F33 := F22.other W28 (Or.inr (slot_ne (Or.inr (hw _ (List.mem_of_getElem? (i := 54) rfl))) (Or.inr (hw _ (List.mem_of_getElem? (i := 56) rfl))) (by decide) (t := (.object "java/lang/String")) (t' := .boolean) (by decide) (by decide)))
  have F34 := F23.other W28 (Or.inr (slot_ne (Or.inr (hw _ (List.mem_of_getElem? (i := 52) rfl))) (Or.inr (hw _ (List.mem_of_getElem? (i := 56) rfl))) (by decide) (t := (.object "java/lang/String")) (t' := .boolean) (by decide) (by decide)))
  have F35 := F25.other W28 (Or.inr (slot_ne (Or.inr (hw _ (List.mem_of_getElem? (i := 58) rfl))) (Or.inr (hw _ (List.mem_of_getElem? (i := 56) rfl))) (by decide) (t := (.object "java/util/List")) (t' := .boolean) (by decide) (by decide)))
  refine E_aloadN X27 d_oinit4_19 rfl rfl (pc' := 20) rfl ?_
  refine E_aload X27 d_oinit4_20 rfl rfl (pc' := 22) rfl ?_
  refine E_putfield X27 (ty := (.object "java/util/List")) d_oinit4_22 (hw _ (List.mem_of_getElem? (i := 57) rfl)) Via.refl F35 Exa_31 (Or.inr ⟨(hw _ (List.mem_of_getElem? (i := 58) rfl)), rfl, rfl⟩) (hw _ (List.mem_of_getElem? (i := 31) rfl)) (by decide) rfl rfl gx  (pc' := 25) rfl ?_
  intro T36 X37 W38
  have K39 := Keep.of_wr W38
  have KK40 := KK30.trans K39 (allS (Or.inl (by simp)) (fun x q => nomatch q))
  have Exa_41 := Exa_31.keep K39
  have F42 := F35.same W38
  have F43 := F32.other W38 (Or.inr (slot_ne (Or.inr (hw _ (List.mem_of_getElem? (i := 56) rfl))) (Or.inr (hw _ (List.mem_of_getElem? (i := 58) rfl))) (by decide) (t := .boolean) (t' := (.object "java/util/List")) (by decide) (by decide)))
  have F44 := F33.other W38 (Or.inr (slot_ne (Or.inr (hw _ (List.mem_of_getElem? (i := 54) rfl))) (Or.inr (hw _ (List.mem_of_getElem? (i := 58) rfl))) (by decide) (t := (.object "java/lang/String")) (t' := (.object "java/util/List")) (by decide) (by decide)))
  have F45 := F34.other W38 (Or.inr (slot_ne (Or.inr (hw _ (List.mem_of_getElem? (i := 52) rfl))) (Or.inr (hw _ (List.mem_of_getElem? (i := 58) rfl))) (by decide) (t := (.object "java/lang/String")) (t' := (.object "java/util/List")) (by decide) (by decide)))
  exact E_return X37 d_oinit4_25 rfl (by decide) (by decide) (⟨rfl, KK40, F45, F44, F43, F42⟩)
theorem d_oinit3_0 : decode prog_98_method_1_code 0 = .ok (.aload_n 0, 1) := by decide +kernel
theorem d_oinit3_1 : decode prog_98_method_1_code 1 = .ok (.aload_n 1, 1) := by decide +kernel
theorem d_oinit3_2 : decode prog_98_method_1_code 2 = .ok (.aload_n 2, 1) := by decide +kernel
theorem d_oinit3_3 : decode prog_98_method_1_code 3 = .ok (.iload_n 3, 1) := by decide +kernel
theorem d_oinit3_4 : decode prog_98_method_1_code 4 = .ok (.invokestatic 24, 3) := by decide +kernel
theorem d_oinit3_7 : decode prog_98_method_1_code 7 = .ok (.invokespecial 30, 3) := by decide +kernel
theorem d_oinit3_10 : decode prog_98_method_1_code 10 = .ok (.return_, 1) := by decide +kernel
abbrev rm_oinit3 : Room := ({ frames := 3, cells := 0, slots := 0, locals := 40 } : Room)
def Q_oinit3 (Z : State) (x n ev la : Addr) (h0 : Heap) (v : Option Value) (h : Heap) : Prop := v = none ∧ Keep h0 h [x] ∧ Fld Z h x "com/example/holdfast/holdfast/cli/LevelArguments$Option" "name" "Ljava/lang/String;" (.ref n) ∧ Fld Z h x "com/example/holdfast/holdfast/cli/LevelArguments$Option" "value" "Ljava/lang/String;" (.ref ev) ∧ Fld Z h x "com/example/holdfast/holdfast/cli/LevelArguments$Option" "required" "Z" (.int (0 : Int32)) ∧ Fld Z h x "com/example/holdfast/holdfast/cli/LevelArguments$Option" "choices" "Ljava/util/List;" (.ref la)
set_option maxRecDepth 65536 in
set_option maxHeartbeats 40000000 in
theorem ct_oinit3 (l : Launch) (Z : State) (a0 : Array Value) (hw : ∀ d ∈ tables_1, d.before a0 Z = true) (G1 : Int32) (G3 : Value) (OS : Sts Z G1 G3) (hEL : EW Z a0 EL) (hSA : ∀ a ∈ Bundle.stringAtoms, a.before a0 Z = true) (x n ev la : Addr) {h0 : Heap} (O : Ext Z.heap h0) (SE : Sta Z Z.heap "java/util/ImmutableCollections" "EMPTY_LIST" "Ljava/util/ImmutableCollections$ListN;" (.ref la)) (E0 : Exa Z h0 x "com/example/holdfast/holdfast/cli/LevelArguments$Option") (F_name : Fld Z h0 x "com/example/holdfast/holdfast/cli/LevelArguments$Option" "name" "Ljava/lang/String;" .null) (F_value : Fld Z h0 x "com/example/holdfast/holdfast/cli/LevelArguments$Option" "value" "Ljava/lang/String;" .null) (F_required : Fld Z h0 x "com/example/holdfast/holdfast/cli/LevelArguments$Option" "required" "Z" (.int (0 : Int32))) (F_choices : Fld Z h0 x "com/example/holdfast/holdfast/cli/LevelArguments$Option" "choices" "Ljava/util/List;" .null) (gx : Z.heap.size ≤ x) : Ct l Z (⟨"com/example/holdfast/holdfast/cli/LevelArguments$Option", "<init>", "(Ljava/lang/String;Ljava/lang/String;Z)V"⟩ : MethodName) prog_98_method_1_code 4 none rm_oinit3 #[(.ref x), (.ref n), (.ref ev), (.int (0 : Int32))] h0 (Q_oinit3 Z x n ev la h0) := by
  refine Ct.of_body (Ls := #[.val (.ref x), .val (.ref n), .val (.ref ev), .val (.int (0 : Int32))]) (by decide +kernel) O (fun m => by first | rfl | (simp [entryFrame, mkF, argsToLocals, Value.category]; done) | (rcases ref_cases (Sts.ref OS) with rfl | ⟨r, rfl⟩ <;> rfl)) ?_
  intro p e s m below meth c T0 X0 e0
  subst e0
  have K00 := Keep.refl T0.heap [x]
  refine E_aloadN X0 d_oinit3_0 rfl rfl (pc' := 1) rfl ?_
  refine E_aloadN X0 d_oinit3_1 rfl rfl (pc' := 2) rfl ?_
  refine E_aloadN X0 d_oinit3_2 rfl rfl (pc' := 3) rfl ?_
  refine E_iloadN X0 d_oinit3_3 rfl (pc' := 4) rfl ?_
  refine E_static X0 (rm := rm_lof) d_oinit3_4 (hw _ (List.mem_of_getElem? (i := 36) rfl)) (hw _ (List.mem_of_getElem? (i := 37) rfl)) (hw _ (List.mem_of_getElem? (i := 38) rfl)) (hw _ (List.mem_of_getElem? (i := 39) rfl)) (by decide) (argsL := []) (st := [(.int (0 : Int32)), (.ref ev), (.ref n), (.ref x)]) rfl (ct_lof l Z a0 hw G1 G3 OS hEL hSA la X0.old SE) (lenOf (pd_8) rfl) rfl (by decide) (by decide) (by decide) (Nat.le_of_ble_eq_true rfl)  (pc' := 7) rfl ?_
  intro T1 _ X2 hQ3
  obtain ⟨rfl, e4⟩ := hQ3
  have KK5 := own_keq K00 e4
  rw [← e4] at E0 F_name F_value F_required F_choices
  show Ends p e below s Z _ _ _ T1 (mkF m 7 #[.val (.ref x), .val (.ref n), .val (.ref ev), .val (.int (0 : Int32))] [(.ref la), (.int (0 : Int32)), (.ref ev), (.ref n), (.ref x)])
  refine E_special X2 (rm := rm_oinit4) (a := x) d_oinit3_7 rfl rfl (hw _ (List.mem_of_getElem? (i := 42) rfl)) (hw _ (List.mem_of_getElem? (i := 43) rfl)) (hw _ (List.mem_of_getElem? (i := 44) rfl)) (by decide) (hw _ (List.mem_of_getElem? (i := 28) rfl)) (argsL := [(.ref n), (.ref ev), (.int (0 : Int32)), (.ref la)]) (st := []) rfl (ct_oinit4 l Z a0 hw G1 G3 OS hEL hSA x n ev la X2.old E0 F_name F_value F_required F_choices gx) (lenOf (pd_9) rfl) rfl (by decide) (by decide) (by decide) (Nat.le_of_ble_eq_true rfl)  (pc' := 10) rfl ?_
  intro T6 _ X7 hQ8
  obtain ⟨rfl, K9, G1_, G2_, G3_, G4_⟩ := hQ8
  have KK10 := KK5.trans K9 (allS (Or.inl (by simp)) (fun x q => nomatch q))
  have Exa_11 := E0.keep K9
  show Ends p e below s Z _ _ _ T6 (mkF m 10 #[.val (.ref x), .val (.ref n), .val (.ref ev), .val (.int (0 : Int32))] [])
  exact E_return X7 d_oinit3_10 rfl (by decide) (by decide) (⟨rfl, KK10, G1_, G2_, G3_, G4_⟩)
theorem d_flag_0 : decode prog_98_method_3_code 0 = .ok (.new 8, 3) := by decide +kernel
theorem d_flag_3 : decode prog_98_method_3_code 3 = .ok (.dup, 1) := by decide +kernel
theorem d_flag_4 : decode prog_98_method_3_code 4 = .ok (.aload_n 0, 1) := by decide +kernel
theorem d_flag_5 : decode prog_98_method_3_code 5 = .ok (.ldc 33, 2) := by decide +kernel
theorem d_flag_7 : decode prog_98_method_3_code 7 = .ok (.iconst 0, 1) := by decide +kernel
theorem d_flag_8 : decode prog_98_method_3_code 8 = .ok (.invokespecial 35, 3) := by decide +kernel
theorem d_flag_11 : decode prog_98_method_3_code 11 = .ok (.areturn, 1) := by decide +kernel
abbrev rm_flag : Room := ({ frames := 4, cells := 3, slots := 8, locals := 56 } : Room)
def Q_flag (Z : State) (n la : Addr) (h0 : Heap) (v : Option Value) (h : Heap) : Prop := ∃ x ev te, v = some (.ref x) ∧ Keep h0 h [] ∧ Exa Z h x "com/example/holdfast/holdfast/cli/LevelArguments$Option" ∧ Fld Z h x "com/example/holdfast/holdfast/cli/LevelArguments$Option" "name" "Ljava/lang/String;" (.ref n) ∧ Fld Z h x "com/example/holdfast/holdfast/cli/LevelArguments$Option" "value" "Ljava/lang/String;" (.ref ev) ∧ Fld Z h x "com/example/holdfast/holdfast/cli/LevelArguments$Option" "required" "Z" (.int (0 : Int32)) ∧ Fld Z h x "com/example/holdfast/holdfast/cli/LevelArguments$Option" "choices" "Ljava/util/List;" (.ref la) ∧ OStr Z h ev te []
set_option maxRecDepth 65536 in
set_option maxHeartbeats 40000000 in
theorem ct_flag (l : Launch) (Z : State) (a0 : Array Value) (hw : ∀ d ∈ tables_1, d.before a0 Z = true) (G1 : Int32) (G3 : Value) (OS : Sts Z G1 G3) (hEL : EW Z a0 EL) (hSA : ∀ a ∈ Bundle.stringAtoms, a.before a0 Z = true) (n la : Addr) {h0 : Heap} (O : Ext Z.heap h0) (SE : Sta Z Z.heap "java/util/ImmutableCollections" "EMPTY_LIST" "Ljava/util/ImmutableCollections$ListN;" (.ref la)) : CtW l Z (⟨"com/example/holdfast/holdfast/cli/LevelArguments$Option", "flag", "(Ljava/lang/String;)Lcom/example/holdfast/holdfast/cli/LevelArguments$Option;"⟩ : MethodName) prog_98_method_3_code 1 (some (.object "com/example/holdfast/holdfast/cli/LevelArguments$Option")) rm_flag #[(.ref n)] h0 (Q_flag Z n la h0) := by
  refine CtW.of_body (Ls := #[.val (.ref n)]) (by decide +kernel) O hEL (fun m => by first | rfl | (simp [entryFrame, mkF, argsToLocals, Value.category]; done) | (rcases ref_cases (Sts.ref OS) with rfl | ⟨r, rfl⟩ <;> rfl)) ?_
  intro p e s m below meth c T0 X0 e0
  subst e0
  have K00 := Keep.refl T0.heap []
  refine F_new X0 d_flag_0 (hw _ (List.mem_of_getElem? (i := 30) rfl)) (hw _ (List.mem_of_getElem? (i := 31) rfl)) (hw _ (List.mem_of_getElem? (i := 28) rfl)) (by decide) (by decide) (pc' := 3) rfl ?_
  intro T1 b3 X2 hb4 K5 E6 D7
  have sz8 : T0.heap.size ≤ b3 := Nat.le_trans K00.1 (Nat.le_of_eq hb4.symm)
  have KK9 := K00.trans K5 (fun x q => nomatch q)
  have g10 : Z.heap.size ≤ b3 := Nat.le_trans X0.le (Nat.le_of_eq hb4.symm)
  have F11 : Fld Z T1.heap b3 "com/example/holdfast/holdfast/cli/LevelArguments$Option" "name" "Ljava/lang/String;" .null := D7 (Or.inr (hw _ (List.mem_of_getElem? (i := 52) rfl))) (ty := (.object "java/lang/String")) (by decide)
  have F12 : Fld Z T1.heap b3 "com/example/holdfast/holdfast/cli/LevelArguments$Option" "value" "Ljava/lang/String;" .null := D7 (Or.inr (hw _ (List.mem_of_getElem? (i := 54) rfl))) (ty := (.object "java/lang/String")) (by decide)
  have F13 : Fld Z T1.heap b3 "com/example/holdfast/holdfast/cli/LevelArguments$Option" "required" "Z" (.int (0 : Int32)) := D7 (Or.inr (hw _ (List.mem_of_getElem? (i := 56) rfl))) (ty := .boolean) (by decide)
  have F14 : Fld Z T1.heap b3 "com/example/holdfast/holdfast/cli/LevelArguments$Option" "choices" "Ljava/util/List;" .null := D7 (Or.inr (hw _ (List.mem_of_getElem? (i := 58) rfl))) (ty := (.object "java/util/List")) (by decide)
  refine F_dup X2 d_flag_3 rfl (pc' := 4) rfl ?_
  refine F_aloadN X2 d_flag_4 rfl rfl (pc' := 5) rfl ?_
  have Sf0 : Safe Z EL _ T1.heap b3 := (Safe.exa X2.al E6 (by decide) (by decide))
  refine F_ldcS X2 (n := 0) (z := Int32.ofNat ([] : List Int32).length) (vs := ([] : List Int32).map lo8) d_flag_5 (hw _ (List.mem_of_getElem? (i := 32) rfl)) hSA hEL (by simp [EL, consts_1]) lit_0 (by decide) rfl (by decide) (by decide) (by decide) (by decide) (pc' := 7) rfl ?_
  intro T15 la17 lb18 k19 X16 K20 E21 C22 F23 V24 hs25
  obtain ⟨Sf26, ne27, ne28⟩ := hs25 b3 E6.lt Sf0
  have KK29 := KK9.trans K20 (fun x q => nomatch q)
  have Exa_30 := E6.keep K20
  have Fld_31 := F11.keep K20 nin0
  have Fld_32 := F12.keep K20 nin0
  have Fld_33 := F13.keep K20 nin0
  have Fld_34 := F14.keep K20 nin0
  have S36 : OStr Z T15.heap la17 lb18 [] := own_lit E21 F23 C22 V24 (by decide) (by decide)
  refine F_iconst X16 (v := (0 : Int32)) d_flag_7 rfl (pc' := 8) rfl ?_
  refine F_special X16 (rm := rm_oinit3) (a := b3) d_flag_8 rfl rfl (hw _ (List.mem_of_getElem? (i := 33) rfl)) (hw _ (List.mem_of_getElem? (i := 34) rfl)) (hw _ (List.mem_of_getElem? (i := 35) rfl)) (by decide) (hw _ (List.mem_of_getElem? (i := 28) rfl)) (argsL := [(.ref n), (.ref la17), (.int (0 : Int32))]) (st := [(.ref b3)]) rfl (ct_oinit3 l Z a0 hw G1 G3 OS hEL hSA b3 n la17 la X16.old SE Exa_30 Fld_31 Fld_32 Fld_33 Fld_34 g10) (lenOf (pd_10) rfl) rfl (by decide) (by decide) (by decide) (Nat.le_of_ble_eq_true rfl) [b3] (fun _ _ q => q.2.1) (sfS Sf26 (sf0))  (pc' := 11) rfl ?_
  intro T37 _ X38 hQ39
  obtain ⟨rfl, K40, G1_, G2_, G3_, G4_⟩ := hQ39
  have KK41 := KK29.trans K40 (allS (Or.inr sz8) (fun x q => nomatch q))
  have Exa_42 := Exa_30.keep K40
  have Str_43 := OStr.keep S36 K40 (ninS (Ne.symm ne27) nin0) (ninS (Ne.symm ne28) nin0)
  have Fld_44 := C22.keep K40 (ninS (Ne.symm ne27) nin0)
  show EndW p e below s Z _ _ _ T37 (mkF m 11 #[.val (.ref n)] [(.ref b3)])
  exact F_areturn X38 (t := (.object "com/example/holdfast/holdfast/cli/LevelArguments$Option")) d_flag_11 rfl rfl rfl rfl (by decide) (by decide) (⟨b3, la17, lb18, rfl, KK41, Exa_42, G1_, G2_, G3_, G4_, Str_43⟩)
theorem d_g_name_0 : decode prog_98_method_9_code 0 = .ok (.aload_n 0, 1) := by decide +kernel
theorem d_g_name_1 : decode prog_98_method_9_code 1 = .ok (.getfield 7, 3) := by decide +kernel
theorem d_g_name_4 : decode prog_98_method_9_code 4 = .ok (.areturn, 1) := by decide +kernel
abbrev rm_g_name : Room := ({ frames := 0, cells := 0, slots := 0, locals := 0 } : Room)
def Q_g_name (Z : State) (x y : Addr) (h0 : Heap) (v : Option Value) (h : Heap) : Prop := v = some (.ref y) ∧ h = h0
set_option maxRecDepth 65536 in
set_option maxHeartbeats 40000000 in
theorem ct_g_name (l : Launch) (Z : State) (a0 : Array Value) (hw : ∀ d ∈ tables_1, d.before a0 Z = true) (G1 : Int32) (G3 : Value) (OS : Sts Z G1 G3) (hEL : EW Z a0 EL) (hSA : ∀ a ∈ Bundle.stringAtoms, a.before a0 Z = true) (x y : Addr) {h0 : Heap} (O : Ext Z.heap h0) (F0 : Fld Z h0 x "com/example/holdfast/holdfast/cli/LevelArguments$Option" "name" "Ljava/lang/String;" (.ref y)) : Ct l Z (⟨"com/example/holdfast/holdfast/cli/LevelArguments$Option", "name", "()Ljava/lang/String;"⟩ : MethodName) prog_98_method_9_code 1 (some (.object "java/lang/String")) rm_g_name #[(.ref x)] h0 (Q_g_name Z x y h0) := by
  refine Ct.of_body (Ls := #[.val (.ref x)]) (by decide +kernel) O (fun m => by first | rfl | (simp [entryFrame, mkF, argsToLocals, Value.category]; done) | (rcases ref_cases (Sts.ref OS) with rfl | ⟨r, rfl⟩ <;> rfl)) ?_
  intro p e s m below meth c T0 X0 e0
  subst e0
  refine E_aloadN X0 d_g_name_0 rfl rfl (pc' := 1) rfl ?_
  refine E_getfield X0 d_g_name_1 (hw _ (List.mem_of_getElem? (i := 51) rfl)) Via.refl F0 (pc' := 4) rfl ?_
  intro T1 X2 e3
  rw [← e3] at F0
  exact E_areturn X2 (t := (.object "java/lang/String")) d_g_name_4 rfl rfl rfl rfl (by decide) (by decide) (⟨rfl, e3⟩)
theorem d_g_value_0 : decode prog_98_method_10_code 0 = .ok (.aload_n 0, 1) := by decide +kernel
theorem d_g_value_1 : decode prog_98_method_10_code 1 = .ok (.getfield 13, 3) := by decide +kernel
theorem d_g_value_4 : decode prog_98_method_10_code 4 = .ok (.areturn, 1) := by decide +kernel
abbrev rm_g_value : Room := ({ frames := 0, cells := 0, slots := 0, locals := 0 } : Room)
def Q_g_value (Z : State) (x y : Addr) (h0 : Heap) (v : Option Value) (h : Heap) : Prop := v = some (.ref y) ∧ h = h0
set_option maxRecDepth 65536 in
set_option maxHeartbeats 40000000 in
theorem ct_g_value (l : Launch) (Z : State) (a0 : Array Value) (hw : ∀ d ∈ tables_1, d.before a0 Z = true) (G1 : Int32) (G3 : Value) (OS : Sts Z G1 G3) (hEL : EW Z a0 EL) (hSA : ∀ a ∈ Bundle.stringAtoms, a.before a0 Z = true) (x y : Addr) {h0 : Heap} (O : Ext Z.heap h0) (F0 : Fld Z h0 x "com/example/holdfast/holdfast/cli/LevelArguments$Option" "value" "Ljava/lang/String;" (.ref y)) : Ct l Z (⟨"com/example/holdfast/holdfast/cli/LevelArguments$Option", "value", "()Ljava/lang/String;"⟩ : MethodName) prog_98_method_10_code 1 (some (.object "java/lang/String")) rm_g_value #[(.ref x)] h0 (Q_g_value Z x y h0) := by
  refine Ct.of_body (Ls := #[.val (.ref x)]) (by decide +kernel) O (fun m => by first | rfl | (simp [entryFrame, mkF, argsToLocals, Value.category]; done) | (rcases ref_cases (Sts.ref OS) with rfl | ⟨r, rfl⟩ <;> rfl)) ?_
  intro p e s m below meth c T0 X0 e0
  subst e0
  refine E_aloadN X0 d_g_value_0 rfl rfl (pc' := 1) rfl ?_
  refine E_getfield X0 d_g_value_1 (hw _ (List.mem_of_getElem? (i := 53) rfl)) Via.refl F0 (pc' := 4) rfl ?_
  intro T1 X2 e3
  rw [← e3] at F0
  exact E_areturn X2 (t := (.object "java/lang/String")) d_g_value_4 rfl rfl rfl rfl (by decide) (by decide) (⟨rfl, e3⟩)
theorem d_g_required_0 : decode prog_98_method_11_code 0 = .ok (.aload_n 0, 1) := by decide +kernel
theorem d_g_required_1 : decode prog_98_method_11_code 1 = .ok (.getfield 16, 3) := by decide +kernel
theorem d_g_required_4 : decode prog_98_method_11_code 4 = .ok (.ireturn, 1) := by decide +kernel
abbrev rm_g_required : Room := ({ frames := 0, cells := 0, slots := 0, locals := 0 } : Room)
def Q_g_required (Z : State) (x y : Addr) (h0 : Heap) (v : Option Value) (h : Heap) : Prop := v = some (.int (0 : Int32)) ∧ h = h0
set_option maxRecDepth 65536 in
set_option maxHeartbeats 40000000 in
theorem ct_g_required (l : Launch) (Z : State) (a0 : Array Value) (hw : ∀ d ∈ tables_1, d.before a0 Z = true) (G1 : Int32) (G3 : Value) (OS : Sts Z G1 G3) (hEL : EW Z a0 EL) (hSA : ∀ a ∈ Bundle.stringAtoms, a.before a0 Z = true) (x y : Addr) {h0 : Heap} (O : Ext Z.heap h0) (F0 : Fld Z h0 x "com/example/holdfast/holdfast/cli/LevelArguments$Option" "required" "Z" (.int (0 : Int32))) : Ct l Z (⟨"com/example/holdfast/holdfast/cli/LevelArguments$Option", "required", "()Z"⟩ : MethodName) prog_98_method_11_code 1 (some .boolean) rm_g_required #[(.ref x)] h0 (Q_g_required Z x y h0) := by
  refine Ct.of_body (Ls := #[.val (.ref x)]) (by decide +kernel) O (fun m => by first | rfl | (simp [entryFrame, mkF, argsToLocals, Value.category]; done) | (rcases ref_cases (Sts.ref OS) with rfl | ⟨r, rfl⟩ <;> rfl)) ?_
  intro p e s m below meth c T0 X0 e0
  subst e0
  refine E_aloadN X0 d_g_required_0 rfl rfl (pc' := 1) rfl ?_
  refine E_getfield X0 d_g_required_1 (hw _ (List.mem_of_getElem? (i := 55) rfl)) Via.refl F0 (pc' := 4) rfl ?_
  intro T1 X2 e3
  rw [← e3] at F0
  exact E_ireturnN X2 (t := .boolean) d_g_required_4 rfl (by simp) (by decide) (by decide) (⟨rfl, e3⟩)
theorem d_g_choices_0 : decode prog_98_method_12_code 0 = .ok (.aload_n 0, 1) := by decide +kernel
theorem d_g_choices_1 : decode prog_98_method_12_code 1 = .ok (.getfield 20, 3) := by decide +kernel
theorem d_g_choices_4 : decode prog_98_method_12_code 4 = .ok (.areturn, 1) := by decide +kernel
abbrev rm_g_choices : Room := ({ frames := 0, cells := 0, slots := 0, locals := 0 } : Room)
def Q_g_choices (Z : State) (x y : Addr) (h0 : Heap) (v : Option Value) (h : Heap) : Prop := v = some (.ref y) ∧ h = h0
set_option maxRecDepth 65536 in
set_option maxHeartbeats 40000000 in
theorem ct_g_choices (l : Launch) (Z : State) (a0 : Array Value) (hw : ∀ d ∈ tables_1, d.before a0 Z = true) (G1 : Int32) (G3 : Value) (OS : Sts Z G1 G3) (hEL : EW Z a0 EL) (hSA : ∀ a ∈ Bundle.stringAtoms, a.before a0 Z = true) (x y : Addr) {h0 : Heap} (O : Ext Z.heap h0) (F0 : Fld Z h0 x "com/example/holdfast/holdfast/cli/LevelArguments$Option" "choices" "Ljava/util/List;" (.ref y)) : Ct l Z (⟨"com/example/holdfast/holdfast/cli/LevelArguments$Option", "choices", "()Ljava/util/List;"⟩ : MethodName) prog_98_method_12_code 1 (some (.object "java/util/List")) rm_g_choices #[(.ref x)] h0 (Q_g_choices Z x y h0) := by
  refine Ct.of_body (Ls := #[.val (.ref x)]) (by decide +kernel) O (fun m => by first | rfl | (simp [entryFrame, mkF, argsToLocals, Value.category]; done) | (rcases ref_cases (Sts.ref OS) with rfl | ⟨r, rfl⟩ <;> rfl)) ?_
  intro p e s m below meth c T0 X0 e0
  subst e0
  refine E_aloadN X0 d_g_choices_0 rfl rfl (pc' := 1) rfl ?_
  refine E_getfield X0 d_g_choices_1 (hw _ (List.mem_of_getElem? (i := 57) rfl)) Via.refl F0 (pc' := 4) rfl ?_
  intro T1 X2 e3
  rw [← e3] at F0
  exact E_areturn X2 (t := (.object "java/util/List")) d_g_choices_4 rfl rfl rfl rfl (by decide) (by decide) (⟨rfl, e3⟩)
theorem d_lsize_0 : decode jdk_45_method_3_code 0 = .ok (.aload_n 0, 1) := by decide +kernel
theorem d_lsize_1 : decode jdk_45_method_3_code 1 = .ok (.getfield 7, 3) := by decide +kernel
theorem d_lsize_4 : decode jdk_45_method_3_code 4 = .ok (.arraylength, 1) := by decide +kernel
theorem d_lsize_5 : decode jdk_45_method_3_code 5 = .ok (.ireturn, 1) := by decide +kernel
abbrev rm_lsize : Room := ({ frames := 0, cells := 0, slots := 0, locals := 0 } : Room)
def Q_lsize (Z : State) (la ra : Addr) (kr : ClassId) (h0 : Heap) (v : Option Value) (h : Heap) : Prop := v = some (.int 0) ∧ h = h0
set_option maxRecDepth 65536 in
set_option maxHeartbeats 40000000 in
theorem ct_lsize (l : Launch) (Z : State) (a0 : Array Value) (hw : ∀ d ∈ tables_1, d.before a0 Z = true) (G1 : Int32) (G3 : Value) (OS : Sts Z G1 G3) (hEL : EW Z a0 EL) (hSA : ∀ a ∈ Bundle.stringAtoms, a.before a0 Z = true) (la ra : Addr) (kr : ClassId) {h0 : Heap} (O : Ext Z.heap h0) (F0 : Fld Z h0 la "java/util/ImmutableCollections$ListN" "elements" "[Ljava/lang/Object;" (.ref ra)) (V0 : Arv Z h0 ra kr (.object "java/lang/Object") (0 : Int32) [] .null) : Ct l Z (⟨"java/util/ImmutableCollections$ListN", "size", "()I"⟩ : MethodName) jdk_45_method_3_code 1 (some .int) rm_lsize #[(.ref la)] h0 (Q_lsize Z la ra kr h0) := by
  refine Ct.of_body (Ls := #[.val (.ref la)]) (by decide +kernel) O (fun m => by first | rfl | (simp [entryFrame, mkF, argsToLocals, Value.category]; done) | (rcases ref_cases (Sts.ref OS) with rfl | ⟨r, rfl⟩ <;> rfl)) ?_
  intro p e s m below meth c T0 X0 e0
  subst e0
  refine E_aloadN X0 d_lsize_0 rfl rfl (pc' := 1) rfl ?_
  refine E_getfield X0 d_lsize_1 (hw _ (List.mem_of_getElem? (i := 115) rfl)) Via.refl F0 (pc' := 4) rfl ?_
  intro T1 X2 e3
  rw [← e3] at F0 V0
  refine E_arraylength X2 d_lsize_4 V0 (pc' := 5) rfl ?_
  exact E_ireturnI X2 d_lsize_5 rfl (by decide) (by decide) (⟨rfl, e3⟩)
set_option maxRecDepth 65536 in
set_option maxHeartbeats 40000000 in
theorem ct_law (l : Launch) (Z : State) (a0 : Array Value) (hw : ∀ d ∈ tables_1, d.before a0 Z = true) (p0 p1 p2 p3 : Int32) (G1 : Int32) (G3 : Value) (la ra : Addr) (kr : ClassId) (O : Ext Z.heap Z.heap) (OS : Sts Z G1 G3) (hEL : EW Z a0 EL) (hSA : ∀ a ∈ Bundle.stringAtoms, a.before a0 Z = true) (SE : Sta Z Z.heap "java/util/ImmutableCollections" "EMPTY_LIST" "Ljava/util/ImmutableCollections$ListN;" (.ref la)) (ELa : Exa Z Z.heap la "java/util/ImmutableCollections$ListN") (FLe : Fld Z Z.heap la "java/util/ImmutableCollections$ListN" "elements" "[Ljava/lang/Object;" (.ref ra)) (VLe : Arv Z Z.heap ra kr (.object "java/lang/Object") (0 : Int32) [] .null) : CtW l Z x code maxLocals ret room_1 #[(.int p0), (.int p1), (.int p2), (.int p3)] Z.heap (fun v _ => v = some (.int 1)) := by
  show CtW l Z (⟨"com/example/holdfast/holdfast/cli/OptionFlagPinLaw", "law", "(IIII)Z"⟩ : MethodName) code 11 (some .boolean) ({ frames := 8, cells := 32, slots := 2176, locals := 192 } : Room) _ _ _
  refine CtW.of_body (Ls := #[.val (.int p0), .val (.int p1), .val (.int p2), .val (.int p3), .unset, .unset, .unset, .unset, .unset, .unset, .unset]) (by decide +kernel) O hEL (fun m => by first | rfl | (simp [entryFrame, mkF, argsToLocals, Value.category]; done)) ?_
  intro p e s m below meth c T0 X0 e0
  obtain ⟨cA, hcA⟩ : ∃ z, z = p1 &&& (255 : Int32) := ⟨_, rfl⟩
  have bcA : ¬ cA < 0 ∧ ¬ (255 : Int32) < cA := by rw [hcA]; exact c8_ok p1
  obtain ⟨cB, hcB⟩ : ∃ z, z = p2 &&& (255 : Int32) := ⟨_, rfl⟩
  have bcB : ¬ cB < 0 ∧ ¬ (255 : Int32) < cB := by rw [hcB]; exact c8_ok p2
  obtain ⟨cC, hcC⟩ : ∃ z, z = p3 &&& (255 : Int32) := ⟨_, rfl⟩
  have bcC : ¬ cC < 0 ∧ ¬ (255 : Int32) < cC := by rw [hcC]; exact c8_ok p3
  obtain ⟨nn, hnn⟩ : ∃ z, z = p0 &&& (3 : Int32) := ⟨_, rfl⟩
  refine F_iloadN X0 at_0 rfl (pc' := 1) rfl ?_
  refine F_iconst X0 (v := (3 : Int32)) at_1 rfl (pc' := 2) rfl ?_
  refine F_iand X0 (v := nn) at_2 hnn.symm (pc' := 3) rfl ?_
  refine F_istore X0 at_3 (l' := #[.val (.int p0), .val (.int p1), .val (.int p2), .val (.int p3), .val (.int nn), .unset, .unset, .unset, .unset, .unset, .unset]) rfl (pc' := 5) rfl ?_
  refine F_iloadN X0 at_5 rfl (pc' := 6) rfl ?_
  refine F_sipush X0 (v := (255 : Int32)) at_6 rfl (pc' := 9) rfl ?_
  refine F_iand X0 (v := cA) at_9 hcA.symm (pc' := 10) rfl ?_
  refine F_istore X0 at_10 (l' := #[.val (.int p0), .val (.int p1), .val (.int p2), .val (.int p3), .val (.int nn), .val (.int cA), .unset, .unset, .unset, .unset, .unset]) rfl (pc' := 12) rfl ?_
  refine F_iloadN X0 at_12 rfl (pc' := 13) rfl ?_
  refine F_sipush X0 (v := (255 : Int32)) at_13 rfl (pc' := 16) rfl ?_
  refine F_iand X0 (v := cB) at_16 hcB.symm (pc' := 17) rfl ?_
  refine F_istore X0 at_17 (l' := #[.val (.int p0), .val (.int p1), .val (.int p2), .val (.int p3), .val (.int nn), .val (.int cA), .val (.int cB), .unset, .unset, .unset, .unset]) rfl (pc' := 19) rfl ?_
  refine F_iloadN X0 at_19 rfl (pc' := 20) rfl ?_
  refine F_sipush X0 (v := (255 : Int32)) at_20 rfl (pc' := 23) rfl ?_
  refine F_iand X0 (v := cC) at_23 hcC.symm (pc' := 24) rfl ?_
  refine F_istore X0 at_24 (l' := #[.val (.int p0), .val (.int p1), .val (.int p2), .val (.int p3), .val (.int nn), .val (.int cA), .val (.int cB), .val (.int cC), .unset, .unset, .unset]) rfl (pc' := 26) rfl ?_
  refine F_iload X0 at_26 rfl (pc' := 28) rfl ?_
  refine F_iload X0 at_28 rfl (pc' := 30) rfl ?_
  refine F_iload X0 at_30 rfl (pc' := 32) rfl ?_
  refine F_iload X0 at_32 rfl (pc' := 34) rfl ?_
  refine G_static X0 (rm := rm_draw) at_34 (hw _ (List.mem_of_getElem? (i := 0) rfl)) (hw _ (List.mem_of_getElem? (i := 1) rfl)) (hw _ (List.mem_of_getElem? (i := 2) rfl)) (hw _ (List.mem_of_getElem? (i := 3) rfl)) (by decide) (argsL := [(.int nn), (.int cA), (.int cB), (.int cC)]) (st := []) rfl (ct_draw l Z a0 hw G1 G3 OS hEL hSA nn cA cB cC X0.old bcA bcB bcC) (lenOf (pd_11) rfl) rfl (by decide) (by decide) (by decide) (Nat.le_of_ble_eq_true rfl)  (pc' := 37) rfl ?_
  intro T1 _ X2 hQ3 hsf4
  obtain ⟨fx, fxt, rfl, K5, szfx, S6⟩ := hQ3
  show EndW p e below s Z _ _ _ T1 (mkF m 37 #[.val (.int p0), .val (.int p1), .val (.int p2), .val (.int p3), .val (.int nn), .val (.int cA), .val (.int cB), .val (.int cC), .unset, .unset, .unset] [(.ref fx)])
  refine F_astore X2 at_37 rfl (l' := #[.val (.int p0), .val (.int p1), .val (.int p2), .val (.int p3), .val (.int nn), .val (.int cA), .val (.int cB), .val (.int cC), .val (.ref fx), .unset, .unset]) rfl (pc' := 39) rfl ?_
  refine F_iload X2 at_39 rfl (pc' := 41) rfl ?_
  refine F_iload X2 at_41 rfl (pc' := 43) rfl ?_
  refine F_iload X2 at_43 rfl (pc' := 45) rfl ?_
  refine F_iload X2 at_45 rfl (pc' := 47) rfl ?_
  refine G_static X2 (rm := rm_draw) at_47 (hw _ (List.mem_of_getElem? (i := 0) rfl)) (hw _ (List.mem_of_getElem? (i := 1) rfl)) (hw _ (List.mem_of_getElem? (i := 2) rfl)) (hw _ (List.mem_of_getElem? (i := 3) rfl)) (by decide) (argsL := [(.int nn), (.int cA), (.int cB), (.int cC)]) (st := []) rfl (ct_draw l Z a0 hw G1 G3 OS hEL hSA nn cA cB cC X2.old bcA bcB bcC) (lenOf (pd_11) rfl) rfl (by decide) (by decide) (by decide) (Nat.le_of_ble_eq_true rfl)  (pc' := 50) rfl ?_
  intro T7 _ X8 hQ9 hsf10
  obtain ⟨gx, gxt, rfl, K11, szgx, S12⟩ := hQ9
  have Str_13 := OStr.keep S6 K11 nin0 nin0
  show EndW p e below s Z _ _ _ T7 (mkF m 50 #[.val (.int p0), .val (.int p1), .val (.int p2), .val (.int p3), .val (.int nn), .val (.int cA), .val (.int cB), .val (.int cC), .val (.ref fx), .unset, .unset] [(.ref gx)])
  refine F_astore X8 at_50 rfl (l' := #[.val (.int p0), .val (.int p1), .val (.int p2), .val (.int p3), .val (.int nn), .val (.int cA), .val (.int cB), .val (.int cC), .val (.ref fx), .val (.ref gx), .unset]) rfl (pc' := 52) rfl ?_
  refine F_aload X8 at_52 rfl rfl (pc' := 54) rfl ?_
  refine G_static X8 (rm := rm_flag) at_54 (hw _ (List.mem_of_getElem? (i := 26) rfl)) (hw _ (List.mem_of_getElem? (i := 27) rfl)) (hw _ (List.mem_of_getElem? (i := 28) rfl)) (hw _ (List.mem_of_getElem? (i := 29) rfl)) (by decide) (argsL := [(.ref fx)]) (st := []) rfl (ct_flag l Z a0 hw G1 G3 OS hEL hSA fx la X8.old SE) (lenOf (pd_12) rfl) rfl (by decide) (by decide) (by decide) (Nat.le_of_ble_eq_true rfl)  (pc' := 57) rfl ?_
  intro T14 _ X15 hQ16 hsf17
  obtain ⟨ob, ev, te, rfl, K18, EO, O1, O2, O3, O4, S19⟩ := hQ16
  have Str_20 := OStr.keep Str_13 K18 nin0 nin0
  have Str_21 := OStr.keep S12 K18 nin0 nin0
  have EL0 := ELa.keep (Keep.of_ext X15.old)
  show EndW p e below s Z _ _ _ T14 (mkF m 57 #[.val (.int p0), .val (.int p1), .val (.int p2), .val (.int p3), .val (.int nn), .val (.int cA), .val (.int cB), .val (.int cC), .val (.ref fx), .val (.ref gx), .unset] [(.ref ob)])
  refine F_astore X15 at_57 rfl (l' := #[.val (.int p0), .val (.int p1), .val (.int p2), .val (.int p3), .val (.int nn), .val (.int cA), .val (.int cB), .val (.int cC), .val (.ref fx), .val (.ref gx), .val (.ref ob)]) rfl (pc' := 59) rfl ?_
  refine F_aload X15 at_59 rfl rfl (pc' := 61) rfl ?_
  refine F_virtual X15 (rm := rm_g_name) (a := ob) (D := "com/example/holdfast/holdfast/cli/LevelArguments$Option") at_61 (hw _ (List.mem_of_getElem? (i := 59) rfl)) (hw _ (List.mem_of_getElem? (i := 60) rfl)) (hw _ (List.mem_of_getElem? (i := 62) rfl)) (hw _ (List.mem_of_getElem? (i := 61) rfl)) (notFace_of_selects (args := #[]) (mvT X15.hZ (hw _ (List.mem_of_getElem? (i := 62) rfl)))) (by decide) EO (hw _ (List.mem_of_getElem? (i := 28) rfl)) (hw _ (List.mem_of_getElem? (i := 63) rfl)) (argsL := []) (st := []) rfl (ct_g_name l Z a0 hw G1 G3 OS hEL hSA ob fx X15.old O1) (lenOf (pd_13) rfl) rfl (by decide) (by decide) (by decide) (Nat.le_of_ble_eq_true rfl) [] (fun _ _ q => by obtain ⟨_, e⟩ := q; exact own_ks e) (sf0)  (pc' := 64) rfl ?_
  intro T22 _ X23 hQ24
  obtain ⟨rfl, e25⟩ := hQ24
  rw [← e25] at Str_20 Str_21 EO O1 O2 O3 O4 S19 EL0
  show EndW p e below s Z _ _ _ T22 (mkF m 64 #[.val (.int p0), .val (.int p1), .val (.int p2), .val (.int p3), .val (.int nn), .val (.int cA), .val (.int cB), .val (.int cC), .val (.ref fx), .val (.ref gx), .val (.ref ob)] [(.ref fx)])
  refine F_nullF X23 at_64 (pc' := 67) rfl ?_
  refine F_aload X23 at_67 rfl rfl (pc' := 69) rfl ?_
  refine F_virtual X23 (rm := rm_g_value) (a := ob) (D := "com/example/holdfast/holdfast/cli/LevelArguments$Option") at_69 (hw _ (List.mem_of_getElem? (i := 64) rfl)) (hw _ (List.mem_of_getElem? (i := 65) rfl)) (hw _ (List.mem_of_getElem? (i := 67) rfl)) (hw _ (List.mem_of_getElem? (i := 66) rfl)) (notFace_of_selects (args := #[]) (mvT X23.hZ (hw _ (List.mem_of_getElem? (i := 67) rfl)))) (by decide) EO (hw _ (List.mem_of_getElem? (i := 28) rfl)) (hw _ (List.mem_of_getElem? (i := 68) rfl)) (argsL := []) (st := []) rfl (ct_g_value l Z a0 hw G1 G3 OS hEL hSA ob ev X23.old O2) (lenOf (pd_13) rfl) rfl (by decide) (by decide) (by decide) (Nat.le_of_ble_eq_true rfl) [] (fun _ _ q => by obtain ⟨_, e⟩ := q; exact own_ks e) (sf0)  (pc' := 72) rfl ?_
  intro T26 _ X27 hQ28
  obtain ⟨rfl, e29⟩ := hQ28
  rw [← e29] at Str_20 Str_21 EO O1 O2 O3 O4 S19 EL0
  show EndW p e below s Z _ _ _ T26 (mkF m 72 #[.val (.int p0), .val (.int p1), .val (.int p2), .val (.int p3), .val (.int nn), .val (.int cA), .val (.int cB), .val (.int cC), .val (.ref fx), .val (.ref gx), .val (.ref ob)] [(.ref ev)])
  refine F_nullF X27 at_72 (pc' := 75) rfl ?_
  refine F_aload X27 at_75 rfl rfl (pc' := 77) rfl ?_
  refine F_virtual X27 (rm := rm_g_choices) (a := ob) (D := "com/example/holdfast/holdfast/cli/LevelArguments$Option") at_77 (hw _ (List.mem_of_getElem? (i := 69) rfl)) (hw _ (List.mem_of_getElem? (i := 70) rfl)) (hw _ (List.mem_of_getElem? (i := 72) rfl)) (hw _ (List.mem_of_getElem? (i := 71) rfl)) (notFace_of_selects (args := #[]) (mvT X27.hZ (hw _ (List.mem_of_getElem? (i := 72) rfl)))) (by decide) EO (hw _ (List.mem_of_getElem? (i := 28) rfl)) (hw _ (List.mem_of_getElem? (i := 73) rfl)) (argsL := []) (st := []) rfl (ct_g_choices l Z a0 hw G1 G3 OS hEL hSA ob la X27.old O4) (lenOf (pd_8) rfl) rfl (by decide) (by decide) (by decide) (Nat.le_of_ble_eq_true rfl) [] (fun _ _ q => by obtain ⟨_, e⟩ := q; exact own_ks e) (sf0)  (pc' := 80) rfl ?_
  intro T30 _ X31 hQ32
  obtain ⟨rfl, e33⟩ := hQ32
  rw [← e33] at Str_20 Str_21 EO O1 O2 O3 O4 S19 EL0
  show EndW p e below s Z _ _ _ T30 (mkF m 80 #[.val (.int p0), .val (.int p1), .val (.int p2), .val (.int p3), .val (.int nn), .val (.int cA), .val (.int cB), .val (.int cC), .val (.ref fx), .val (.ref gx), .val (.ref ob)] [(.ref la)])
  refine F_nonnullT X31 at_80 (pc' := 85) (by decide) rfl ?_
  refine F_aload X31 at_85 rfl rfl (pc' := 87) rfl ?_
  refine F_virtual X31 (rm := rm_g_name) (a := ob) (D := "com/example/holdfast/holdfast/cli/LevelArguments$Option") at_87 (hw _ (List.mem_of_getElem? (i := 59) rfl)) (hw _ (List.mem_of_getElem? (i := 60) rfl)) (hw _ (List.mem_of_getElem? (i := 62) rfl)) (hw _ (List.mem_of_getElem? (i := 61) rfl)) (notFace_of_selects (args := #[]) (mvT X31.hZ (hw _ (List.mem_of_getElem? (i := 62) rfl)))) (by decide) EO (hw _ (List.mem_of_getElem? (i := 28) rfl)) (hw _ (List.mem_of_getElem? (i := 63) rfl)) (argsL := []) (st := []) rfl (ct_g_name l Z a0 hw G1 G3 OS hEL hSA ob fx X31.old O1) (lenOf (pd_13) rfl) rfl (by decide) (by decide) (by decide) (Nat.le_of_ble_eq_true rfl) [] (fun _ _ q => by obtain ⟨_, e⟩ := q; exact own_ks e) (sf0)  (pc' := 90) rfl ?_
  intro T34 _ X35 hQ36
  obtain ⟨rfl, e37⟩ := hQ36
  rw [← e37] at Str_20 Str_21 EO O1 O2 O3 O4 S19 EL0
  show EndW p e below s Z _ _ _ T34 (mkF m 90 #[.val (.int p0), .val (.int p1), .val (.int p2), .val (.int p3), .val (.int nn), .val (.int cA), .val (.int cB), .val (.int cC), .val (.ref fx), .val (.ref gx), .val (.ref ob)] [(.ref fx)])
  refine F_aload X35 at_90 rfl rfl (pc' := 92) rfl ?_
  refine F_virtual X35 (rm := rm_seq) (a := fx) (D := "java/lang/String") at_92 (hw _ (List.mem_of_getElem? (i := 74) rfl)) (hw _ (List.mem_of_getElem? (i := 75) rfl)) (hw _ (List.mem_of_getElem? (i := 77) rfl)) (hw _ (List.mem_of_getElem? (i := 76) rfl)) (notFace_of_selects (args := #[]) (mvT X35.hZ (hw _ (List.mem_of_getElem? (i := 77) rfl)))) (by decide) (OStr.exa Str_20) (hw _ (List.mem_of_getElem? (i := 6) rfl)) (hw _ (List.mem_of_getElem? (i := 78) rfl)) (argsL := [(.ref gx)]) (st := []) rfl (ct_seq l Z a0 hw G1 G3 OS hEL hSA fx gx fxt gxt (mkL nn cA cB cC) (mkL nn cA cB cC) X35.old Str_20 Str_21) (lenOf (pd_14) rfl) rfl (by decide) (by decide) (by decide) (Nat.le_of_ble_eq_true rfl) [] (fun _ _ q => by obtain ⟨_, _, e, _, _⟩ := q; exact own_ks e) (sf0)  (pc' := 95) rfl ?_
  intro T39 _ X40 hQ41
  obtain ⟨z38, rfl, e42, yz38, nz38⟩ := hQ41
  rw [← e42] at Str_20 Str_21 EO O1 O2 O3 O4 S19 EL0
  obtain rfl := yz38 rfl
  show EndW p e below s Z _ _ _ T39 (mkF m 95 #[.val (.int p0), .val (.int p1), .val (.int p2), .val (.int p3), .val (.int nn), .val (.int cA), .val (.int cB), .val (.int cC), .val (.ref fx), .val (.ref gx), .val (.ref ob)] [(.int (1 : Int32))])
  refine F_ifF X40 at_95 (XT.i0_eq_f (by decide)) (pc' := 98) rfl ?_
  refine F_aload X40 at_98 rfl rfl (pc' := 100) rfl ?_
  refine F_virtual X40 (rm := rm_g_name) (a := ob) (D := "com/example/holdfast/holdfast/cli/LevelArguments$Option") at_100 (hw _ (List.mem_of_getElem? (i := 59) rfl)) (hw _ (List.mem_of_getElem? (i := 60) rfl)) (hw _ (List.mem_of_getElem? (i := 62) rfl)) (hw _ (List.mem_of_getElem? (i := 61) rfl)) (notFace_of_selects (args := #[]) (mvT X40.hZ (hw _ (List.mem_of_getElem? (i := 62) rfl)))) (by decide) EO (hw _ (List.mem_of_getElem? (i := 28) rfl)) (hw _ (List.mem_of_getElem? (i := 63) rfl)) (argsL := []) (st := []) rfl (ct_g_name l Z a0 hw G1 G3 OS hEL hSA ob fx X40.old O1) (lenOf (pd_13) rfl) rfl (by decide) (by decide) (by decide) (Nat.le_of_ble_eq_true rfl) [] (fun _ _ q => by obtain ⟨_, e⟩ := q; exact own_ks e) (sf0)  (pc' := 103) rfl ?_
  intro T43 _ X44 hQ45
  obtain ⟨rfl, e46⟩ := hQ45
  rw [← e46] at Str_20 Str_21 EO O1 O2 O3 O4 S19 EL0
  show EndW p e below s Z _ _ _ T43 (mkF m 103 #[.val (.int p0), .val (.int p1), .val (.int p2), .val (.int p3), .val (.int nn), .val (.int cA), .val (.int cB), .val (.int cC), .val (.ref fx), .val (.ref gx), .val (.ref ob)] [(.ref fx)])
  refine F_virtual X44 (rm := rm_slen) (a := fx) (D := "java/lang/String") at_103 (hw _ (List.mem_of_getElem? (i := 85) rfl)) (hw _ (List.mem_of_getElem? (i := 86) rfl)) (hw _ (List.mem_of_getElem? (i := 88) rfl)) (hw _ (List.mem_of_getElem? (i := 87) rfl)) (notFace_of_selects (args := #[]) (mvT X44.hZ (hw _ (List.mem_of_getElem? (i := 88) rfl)))) (by decide) (OStr.exa Str_20) (hw _ (List.mem_of_getElem? (i := 6) rfl)) (hw _ (List.mem_of_getElem? (i := 89) rfl)) (argsL := []) (st := []) rfl (ct_slen l Z a0 hw G1 G3 OS hEL hSA fx fxt ((mkL nn cA cB cC)) X44.old Str_20) (lenOf (pd_15) rfl) rfl (by decide) (by decide) (by decide) (Nat.le_of_ble_eq_true rfl) [] (fun _ _ q => by obtain ⟨_, e⟩ := q; exact own_ks e) (sf0)  (pc' := 106) rfl ?_
  intro T47 _ X48 hQ49
  obtain ⟨rfl, e50⟩ := hQ49
  rw [← e50] at Str_20 Str_21 EO O1 O2 O3 O4 S19 EL0
  show EndW p e below s Z _ _ _ T47 (mkF m 106 #[.val (.int p0), .val (.int p1), .val (.int p2), .val (.int p3), .val (.int nn), .val (.int cA), .val (.int cB), .val (.int cC), .val (.ref fx), .val (.ref gx), .val (.ref ob)] [(.int (Int32.ofNat (((mkL nn cA cB cC))).length))])
  refine F_iload X48 at_106 rfl (pc' := 108) rfl ?_
  refine F_icF X48 at_108 (XT.ii_ne_f (mk_len hnn)) (pc' := 111) rfl ?_
  refine F_aload X48 at_111 rfl rfl (pc' := 113) rfl ?_
  refine F_virtual X48 (rm := rm_g_value) (a := ob) (D := "com/example/holdfast/holdfast/cli/LevelArguments$Option") at_113 (hw _ (List.mem_of_getElem? (i := 64) rfl)) (hw _ (List.mem_of_getElem? (i := 65) rfl)) (hw _ (List.mem_of_getElem? (i := 67) rfl)) (hw _ (List.mem_of_getElem? (i := 66) rfl)) (notFace_of_selects (args := #[]) (mvT X48.hZ (hw _ (List.mem_of_getElem? (i := 67) rfl)))) (by decide) EO (hw _ (List.mem_of_getElem? (i := 28) rfl)) (hw _ (List.mem_of_getElem? (i := 68) rfl)) (argsL := []) (st := []) rfl (ct_g_value l Z a0 hw G1 G3 OS hEL hSA ob ev X48.old O2) (lenOf (pd_13) rfl) rfl (by decide) (by decide) (by decide) (Nat.le_of_ble_eq_true rfl) [] (fun _ _ q => by obtain ⟨_, e⟩ := q; exact own_ks e) (sf0)  (pc' := 116) rfl ?_
  intro T51 _ X52 hQ53
  obtain ⟨rfl, e54⟩ := hQ53
  rw [← e54] at Str_20 Str_21 EO O1 O2 O3 O4 S19 EL0
  show EndW p e below s Z _ _ _ T51 (mkF m 116 #[.val (.int p0), .val (.int p1), .val (.int p2), .val (.int p3), .val (.int nn), .val (.int cA), .val (.int cB), .val (.int cC), .val (.ref fx), .val (.ref gx), .val (.ref ob)] [(.ref ev)])
  refine F_virtual X52 (rm := rm_semp) (a := ev) (D := "java/lang/String") at_116 (hw _ (List.mem_of_getElem? (i := 95) rfl)) (hw _ (List.mem_of_getElem? (i := 96) rfl)) (hw _ (List.mem_of_getElem? (i := 98) rfl)) (hw _ (List.mem_of_getElem? (i := 97) rfl)) (notFace_of_selects (args := #[]) (mvT X52.hZ (hw _ (List.mem_of_getElem? (i := 98) rfl)))) (by decide) (OStr.exa S19) (hw _ (List.mem_of_getElem? (i := 6) rfl)) (hw _ (List.mem_of_getElem? (i := 99) rfl)) (argsL := []) (st := []) rfl (ct_semp l Z a0 hw G1 G3 OS hEL hSA ev te [] X52.old S19) (lenOf (pd_16) rfl) rfl (by decide) (by decide) (by decide) (Nat.le_of_ble_eq_true rfl) [] (fun _ _ q => by obtain ⟨_, _, e, _, _⟩ := q; exact own_ks e) (sf0)  (pc' := 119) rfl ?_
  intro T56 _ X57 hQ58
  obtain ⟨z55, rfl, e59, yz55, nz55⟩ := hQ58
  rw [← e59] at Str_20 Str_21 EO O1 O2 O3 O4 S19 EL0
  obtain rfl := yz55 rfl
  show EndW p e below s Z _ _ _ T56 (mkF m 119 #[.val (.int p0), .val (.int p1), .val (.int p2), .val (.int p3), .val (.int nn), .val (.int cA), .val (.int cB), .val (.int cC), .val (.ref fx), .val (.ref gx), .val (.ref ob)] [(.int (1 : Int32))])
  refine F_ifF X57 at_119 (XT.i0_eq_f (by decide)) (pc' := 122) rfl ?_
  refine F_aload X57 at_122 rfl rfl (pc' := 124) rfl ?_
  refine F_virtual X57 (rm := rm_g_required) (a := ob) (D := "com/example/holdfast/holdfast/cli/LevelArguments$Option") at_124 (hw _ (List.mem_of_getElem? (i := 100) rfl)) (hw _ (List.mem_of_getElem? (i := 101) rfl)) (hw _ (List.mem_of_getElem? (i := 103) rfl)) (hw _ (List.mem_of_getElem? (i := 102) rfl)) (notFace_of_selects (args := #[]) (mvT X57.hZ (hw _ (List.mem_of_getElem? (i := 103) rfl)))) (by decide) EO (hw _ (List.mem_of_getElem? (i := 28) rfl)) (hw _ (List.mem_of_getElem? (i := 104) rfl)) (argsL := []) (st := []) rfl (ct_g_required l Z a0 hw G1 G3 OS hEL hSA ob la X57.old O3) (lenOf (pd_16) rfl) rfl (by decide) (by decide) (by decide) (Nat.le_of_ble_eq_true rfl) [] (fun _ _ q => by obtain ⟨_, e⟩ := q; exact own_ks e) (sf0)  (pc' := 127) rfl ?_
  intro T60 _ X61 hQ62
  obtain ⟨rfl, e63⟩ := hQ62
  rw [← e63] at Str_20 Str_21 EO O1 O2 O3 O4 S19 EL0
  show EndW p e below s Z _ _ _ T60 (mkF m 127 #[.val (.int p0), .val (.int p1), .val (.int p2), .val (.int p3), .val (.int nn), .val (.int cA), .val (.int cB), .val (.int cC), .val (.ref fx), .val (.ref gx), .val (.ref ob)] [(.int (0 : Int32))])
  refine F_ifF X61 at_127 (XT.i0_ne_f (by decide)) (pc' := 130) rfl ?_
  refine F_aload X61 at_130 rfl rfl (pc' := 132) rfl ?_
  refine F_virtual X61 (rm := rm_g_choices) (a := ob) (D := "com/example/holdfast/holdfast/cli/LevelArguments$Option") at_132 (hw _ (List.mem_of_getElem? (i := 69) rfl)) (hw _ (List.mem_of_getElem? (i := 70) rfl)) (hw _ (List.mem_of_getElem? (i := 72) rfl)) (hw _ (List.mem_of_getElem? (i := 71) rfl)) (notFace_of_selects (args := #[]) (mvT X61.hZ (hw _ (List.mem_of_getElem? (i := 72) rfl)))) (by decide) EO (hw _ (List.mem_of_getElem? (i := 28) rfl)) (hw _ (List.mem_of_getElem? (i := 73) rfl)) (argsL := []) (st := []) rfl (ct_g_choices l Z a0 hw G1 G3 OS hEL hSA ob la X61.old O4) (lenOf (pd_8) rfl) rfl (by decide) (by decide) (by decide) (Nat.le_of_ble_eq_true rfl) [] (fun _ _ q => by obtain ⟨_, e⟩ := q; exact own_ks e) (sf0)  (pc' := 135) rfl ?_
  intro T64 _ X65 hQ66
  obtain ⟨rfl, e67⟩ := hQ66
  rw [← e67] at Str_20 Str_21 EO O1 O2 O3 O4 S19 EL0
  show EndW p e below s Z _ _ _ T64 (mkF m 135 #[.val (.int p0), .val (.int p1), .val (.int p2), .val (.int p3), .val (.int nn), .val (.int cA), .val (.int cB), .val (.int cC), .val (.ref fx), .val (.ref gx), .val (.ref ob)] [(.ref la)])
  refine F_interface X65 (rm := rm_lsize) (a := la) (D := "java/util/ImmutableCollections$ListN") at_135 (hw _ (List.mem_of_getElem? (i := 105) rfl)) (hw _ (List.mem_of_getElem? (i := 106) rfl)) (hw _ (List.mem_of_getElem? (i := 108) rfl)) (hw _ (List.mem_of_getElem? (i := 109) rfl)) (hw _ (List.mem_of_getElem? (i := 107) rfl)) rfl (hw _ (List.mem_of_getElem? (i := 110) rfl)) (hw _ (List.mem_of_getElem? (i := 111) rfl)) (hw _ (List.mem_of_getElem? (i := 112) rfl)) (by decide) EL0 (hw _ (List.mem_of_getElem? (i := 113) rfl)) (hw _ (List.mem_of_getElem? (i := 114) rfl)) (argsL := []) (st := []) rfl (ct_lsize l Z a0 hw G1 G3 OS hEL hSA la ra kr X65.old (FLe.keep (Keep.of_ext X65.old) nin0) (VLe.keep (Keep.of_ext X65.old) nin0)) (lenOf (pd_15) rfl) rfl (by decide) (by decide) (by decide) (Nat.le_of_ble_eq_true rfl) [] (fun _ _ q => by obtain ⟨_, e⟩ := q; exact own_ks e) (sf0)  (pc' := 140) rfl ?_
  intro T68 _ X69 hQ70
  obtain ⟨rfl, e71⟩ := hQ70
  rw [← e71] at Str_20 Str_21 EO O1 O2 O3 O4 S19 EL0
  show EndW p e below s Z _ _ _ T68 (mkF m 140 #[.val (.int p0), .val (.int p1), .val (.int p2), .val (.int p3), .val (.int nn), .val (.int cA), .val (.int cB), .val (.int cC), .val (.ref fx), .val (.ref gx), .val (.ref ob)] [(.int (0 : Int32))])
  refine F_ifF X69 at_140 (XT.i0_ne_f (by decide)) (pc' := 143) rfl ?_
  refine F_iconst X69 (v := (1 : Int32)) at_143 rfl (pc' := 144) rfl ?_
  refine F_goto X69 at_144 (pc' := 148) (by decide) rfl ?_
  exact F_ireturnN X69 (t := .boolean) at_148 rfl (by simp) (by decide) (by decide) (rfl)
theorem own_arv {Z : State} {args : Array Value} {t : Term} {a : Addr} {c : Cell} {K : String} (hf : Fit Z) (A : Arr Z Z.heap a c (.object K)) (et : t.eval args Z none [] Z = some (.ref a)) (el : (Term.length t).eval args Z none [] Z = some (.int 0)) : Arv Z Z.heap a c.cls (.object K) (0 : Int32) [] .null := by
  by_cases q : c.slots.size < 2 ^ 31
  · have e := len_f et (A.fin (Vm.Alike.refl _)) q
    rw [el] at e
    exact Arv.start hf A q (Value.int.inj (Option.some.inj e)).symm (by decide) rfl trivial
  · simp [Term.eval, et, A.fin (Vm.Alike.refl _), q] at el
set_option maxRecDepth 65536 in
set_option maxHeartbeats 40000000 in
theorem comes_1 {Post : Tables → Env → Array Value → State → Outcome → State → Prop} (hpost : ∀ tb e args s v u, (limb_1_1.after args s (.returned v) u = true ∧ limb_1_2.after args s (.returned v) u = true ∧ True) → ReturnedEndW s (.returned v) u (Jvm.fieldLocs frame_1_writes args s ++ Jvm.arrayLocs frame_1_arrays args s ++ Jvm.staticLocs frame_1_statics s) 32 2176 → Post tb e args s (.returned v) u) :
    ArmFor flags0 classFile x code maxLocals ret World_1 tables_1 room_1 Calls_1 rest_1 Pre_1 Post := by
  intro l hfl _ _ p e ha hc hk s m args below hf hA hF happ hP
  obtain ⟨hcalls, hrest, hpre⟩ := hP
  obtain ⟨-, -, -, hnamed, -, -, -, hat⟩ := (Spec.applies_iff hf).mp happ
  obtain ⟨hg, hn⟩ := and_e (Cond.before_iff.mp (show (Jvm.Cond.and given_1 narrow_1).before args s = true from hpre))
  obtain ⟨hcnt, g0⟩ := and_e hg
  obtain ⟨i0, g1⟩ := and_e g0
  obtain ⟨i1, g2⟩ := and_e g1
  obtain ⟨i2, g3⟩ := and_e g2
  obtain ⟨w0, w1, w2, w3, rfl⟩ : ∃ w0 w1 w2 w3 : Value, args = #[w0, w1, w2, w3] := by
    have hs : args.size = 4 := by simpa [Cond.value, given_1] using hcnt
    obtain ⟨L⟩ := args
    match L, hs with
    | [w0, w1, w2, w3], _ => exact ⟨w0, w1, w2, w3, rfl⟩
  have hw := fun d (hd : d ∈ tables_1) => atoms_spec (ws := Jvm.Cond.code x code maxLocals ret :: tables_1) hat d (List.mem_cons_of_mem _ hd)
  obtain ⟨hsets, hown0⟩ := atoms_of _ (rest_1_c_eq ▸ (show rest_1_c.before _ s = true from hrest))
  have hr0 := Cond.before_iff.mp hown0
  have hfit : Fit s := fun {y c} hc i hi => by
    obtain ⟨ha, rfl⟩ := Array.getElem?_eq_some_iff.mp hc
    have q := List.all_eq_true.mp ((Array.all_eq_true_iff_forall_mem.mp hF) _ (Array.getElem_mem ha)) i (List.mem_range.mpr hi)
    simpa [Array.getElem?_eq_getElem hi] using q
  obtain ⟨x0, ex0⟩ := is_v i0
  obtain rfl : w0 = (.int x0) := Option.some.inj ex0
  obtain ⟨x1, ex1⟩ := is_v i1
  obtain rfl : w1 = (.int x1) := Option.some.inj ex1
  obtain ⟨x2, ex2⟩ := is_v i2
  obtain rfl : w2 = (.int x2) := Option.some.inj ex2
  obtain ⟨x3, ex3⟩ := is_v g3
  obtain rfl : w3 = (.int x3) := Option.some.inj ex3
  have n5 := not_v (Cond.before_iff.mp (hsets _ (List.mem_of_getElem? (i := 9) rfl)))
  obtain ⟨g1, eg1⟩ := is_v (Cond.before_iff.mp (hsets _ (List.mem_of_getElem? (i := 8) rfl)))
  have S12 : Sta s s.heap "java/lang/String" "COMPACT_STRINGS" "Z" (.int g1) := Sta.start eg1 (Or.inl (hsets _ (List.mem_of_getElem? (i := 7) rfl)))
  obtain ⟨g3, eg3, r15⟩ := isR_v (Cond.before_iff.mp (hsets _ (List.mem_of_getElem? (i := 15) rfl)))
  have S16 : Sta s s.heap "jdk/internal/util/Preconditions" "SIOOBE_FORMATTER" "Ljava/util/function/BiFunction;" g3 := Sta.start eg3 (Or.inl (hsets _ (List.mem_of_getElem? (i := 14) rfl)))
  have c17 : ¬ (g1 = (0 : Int32)) := gotF (Cond.eq_ints eg1 (Term.int_eval (0))) n5
  have xx2 := Cond.before_iff.mp (hsets _ (List.mem_of_getElem? (i := 2) rfl))
  obtain ⟨la, ela⟩ := exa_v xx2
  have SE : Sta s s.heap "java/util/ImmutableCollections" "EMPTY_LIST" "Ljava/util/ImmutableCollections$ListN;" (.ref la) := Sta.start ela (Or.inl (hsets _ (List.mem_of_getElem? (i := 1) rfl)))
  have ELa : Exa s s.heap la "java/util/ImmutableCollections$ListN" := Exa.start ela xx2
  have xx3 := Cond.before_iff.mp (hsets _ (List.mem_of_getElem? (i := 3) rfl))
  obtain ⟨ra, era⟩ := arr_v xx3
  have FLe : Fld s s.heap la "java/util/ImmutableCollections$ListN" "elements" "[Ljava/lang/Object;" (.ref ra) := Fld.start ((fld_at ela).symm.trans era)
  obtain ⟨rc, AR⟩ := Arr.start era xx3
  have xx5 := eqv_i (Term.int_eval 0) (Cond.before_iff.mp (hsets _ (List.mem_of_getElem? (i := 5) rfl)))
  have VLe := own_arv hfit AR era xx5
  have hEL : EW s #[(.int x0), (.int x1), (.int x2), (.int x3)] EL := by
    exact (EW.cons (hw _ (List.mem_of_getElem? (i := 32) rfl)) (by decide +kernel) (EW.cons (hw _ (List.mem_of_getElem? (i := 18) rfl)) (by decide +kernel) EW.nil))
  have hSA : ∀ d ∈ Bundle.stringAtoms, d.before #[(.int x0), (.int x1), (.int x2), (.int x3)] s = true := fun d hd => hw d ((by decide +kernel : ∀ d ∈ Bundle.stringAtoms, d ∈ tables_1) d hd)
  have hCH : CHv s EL s.vm s.heap := CHv.start hEL (fun p hp => hcalls.1 p hp) (hsets _ (List.mem_of_getElem? (i := 9) rfl)) (hw _ (List.mem_of_getElem? (i := 19) rfl)) (hw _ (List.mem_of_getElem? (i := 5) rfl))
  obtain ⟨n, o, h1, h2, h3, _, L, rfl, ⟨N, -, rfl⟩, -, hq⟩ := ct_law l s _ hw x0 x1 x2 x3 g1 g3 la ra rc.cls ⟨Nat.le_refl _, fun _ _ q => q⟩ ⟨S12, c17, S16, r15⟩ hEL hSA SE ELa FLe VLe tables_1 p e ha hc hk s m _ below hf ((Spec.applies_iff_loose hf).mp happ).1 ⟨rfl, State.Warmed39.refl s, rfl, hCH⟩ trivial
  refine ⟨n, _, h1, h2, h3, hpost _ _ _ _ _ _ ⟨Cond.after_iff.mpr rfl, Cond.after_iff.mpr (eq_i res_at (Term.int_eval (1)) rfl), trivial⟩ ⟨hq.1, hq.2.1, hq.2.2.1, (hq.2.2.2.sift fun y hy => Or.inr (N y hy)).mono (by decide) (by decide)⟩⟩
theorem main_1_1 : Claimed_1_1 := comes_1 fun _ _ _ _ _ _ h hF => ⟨h.1, hF⟩
theorem main_1_2 : Claimed_1_2 := comes_1 fun _ _ _ _ _ _ h hF => ⟨h.2.1, hF⟩
end Jvm.Pilot.@@N@@
namespace Jvm.Pilot.@@N@@
open Jvm Jvm.ClassFile Sem Op Lib Jvm.Free Jvm.Stand Jvm.Pilot.@@N@@.Jvm.D
/-! MADE BY PROGRAM (witnessworld.py) out of the Statement's table words and the real class files: 32 classes; the members and pool entries that the words name. The judged class is class 1, her method 1. -/
namespace start1
open Jvm.ClassFile
def u (s : String) : CpInfo := .utf8 (stringToUtf16 s)
/-- a pool by its gaps: so many unusable entries, then the entry; so many at the end -/
def gap : Nat → List CpInfo → List CpInfo
  | 0, r => r
  | n + 1, r => .unusable :: gap n r
def poolList (es : List (Nat × CpInfo)) (last : Nat) : List CpInfo := es.foldr (fun e r => gap e.1 (e.2 :: r)) (gap last [])
def pool (es : List (Nat × CpInfo)) (last : Nat) : Array CpInfo := ⟨poolList es last⟩
def fileOf (pool : Array CpInfo) (this : Nat) (attrs : Array Attribute := #[]) (ms : Array MethodInfo := #[]) (fl : Nat := 33) (sup : Nat := 0) (ifs : Array Nat := #[]) (fds : Array FieldInfo := #[]) : ClassFile where
  minorVersion := 0
  majorVersion := 65
  constantPool := pool
  accessFlags := fl
  thisClass := this
  superClass := sup
  interfaces := ifs
  fields := fds
  methods := ms
  attributes := attrs
def plain (name : String) (sup : Option ClassId) : Class where
  name := name
  kind := .ordinary
  loader := none
  accessFlags := 33
  super := sup
  interfaces := #[]
  cf := none
  fields := #[]
  methods := #[]
  instanceTypes := #[]
  staticTypes := #[]
  resolved := #[]
  callSites := []
  init := .initialized
  statics := none
  mirror := none

def pool0 : Array CpInfo := pool [(5, u "<init>"), (0, u "()V"), (1, .class_ 10), (1, u "java/lang/Object")] 113

def k0c0 : Code := { maxStack := 0, maxLocals := 1, code := object_method_1_code, exceptionTable := #[], attributes := #[] }
def k0m0 : Method := { name := "<init>", desc := "()V", sig := { parameters := [], returnType := none }, accessFlags := 1, code := some k0c0 }
/-- java/lang/Object -/
def k0 : Class := { plain "java/lang/Object" none with
  accessFlags := 33
  interfaces := #[]
  cf := some (fileOf pool0 8 #[] #[{ accessFlags := 1, nameIndex := 5, descriptorIndex := 6, attributes := #[] }] 33 0 #[] #[])
  fields := #[]
  methods := #[k0m0]
  instanceTypes := #[]
  staticTypes := #[]
  resolved := Array.replicate 124 none
  statics := none }

def pool1 : Array CpInfo := pool [(2, .class_ 4), (1, u "java/lang/Object"), (0, u "<init>"), (0, u "()V"), (0, .methodref 8 9), (0, .class_ 10), (0, .nameAndType 11 12), (0, u "com/example/holdfast/holdfast/cli/OptionFlagPinLaw"), (0, u "draw"), (0, u "(IIII)Ljava/lang/String;"), (0, .methodref 14 15), (0, .class_ 16), (0, .nameAndType 17 18), (0, u "com/example/holdfast/holdfast/cli/LevelArguments$Option"), (0, u "flag"), (0, u "(Ljava/lang/String;)Lcom/example/holdfast/holdfast/cli/LevelArguments$Option;"), (0, .methodref 14 20), (0, .nameAndType 21 22), (0, u "name"), (0, u "()Ljava/lang/String;"), (0, .methodref 14 24), (0, .nameAndType 25 22), (0, u "value"), (0, .methodref 14 27), (0, .nameAndType 28 29), (0, u "choices"), (0, u "()Ljava/util/List;"), (0, .methodref 31 32), (0, .class_ 33), (0, .nameAndType 34 35), (0, u "java/lang/String"), (0, u "equals"), (0, u "(Ljava/lang/Object;)Z"), (0, .methodref 31 37), (0, .nameAndType 38 39), (0, u "length"), (0, u "()I"), (0, .methodref 31 41), (0, .nameAndType 42 43), (0, u "isEmpty"), (0, u "()Z"), (0, .methodref 14 45), (0, .nameAndType 46 43), (0, u "required"), (0, .interfaceMethodref 48 49), (0, .class_ 50), (0, .nameAndType 51 39), (0, u "java/util/List"), (0, u "size"), (0, .methodref 31 53), (0, .nameAndType 5 54), (0, u "([C)V"), (2, u "law"), (0, u "(IIII)Z")] 7

def k1m0 : Method := { name := "<init>", desc := "()V", sig := { parameters := [], returnType := none }, accessFlags := 1, code := none }
def k1c1 : Code := { maxStack := 4, maxLocals := 11, code := code, exceptionTable := #[], attributes := #[] }
def k1m1 : Method := { name := "law", desc := "(IIII)Z", sig := { parameters := [.int, .int, .int, .int], returnType := some .boolean }, accessFlags := 9, code := some k1c1 }
def k1c2 : Code := { maxStack := 3, maxLocals := 5, code := method_3_code, exceptionTable := #[], attributes := #[] }
def k1m2 : Method := { name := "draw", desc := "(IIII)Ljava/lang/String;", sig := { parameters := [.int, .int, .int, .int], returnType := some (.object "java/lang/String") }, accessFlags := 10, code := some k1c2 }
/-- com/example/holdfast/holdfast/cli/OptionFlagPinLaw -/
def k1 : Class := { plain "com/example/holdfast/holdfast/cli/OptionFlagPinLaw" (some 0) with
  accessFlags := 49
  interfaces := #[]
  cf := some (fileOf pool1 8 #[] #[{ accessFlags := 1, nameIndex := 5, descriptorIndex := 6, attributes := #[] }, { accessFlags := 9, nameIndex := 57, descriptorIndex := 58, attributes := #[] }, { accessFlags := 10, nameIndex := 11, descriptorIndex := 12, attributes := #[] }] 49 2 #[] #[])
  fields := #[]
  methods := #[k1m0, k1m1, k1m2]
  instanceTypes := #[]
  staticTypes := #[]
  resolved := Array.replicate 66 none
  statics := none }

def pool2 : Array CpInfo := pool [(1, .class_ 2), (0, u "java/io/Serializable"), (0, .class_ 4), (0, u "java/lang/Object")] 2

/-- java/io/Serializable -/
def k2 : Class := { plain "java/io/Serializable" (some 0) with
  accessFlags := 1537
  interfaces := #[]
  cf := some (fileOf pool2 1 #[] #[] 1537 3 #[] #[])
  fields := #[]
  methods := #[]
  instanceTypes := #[]
  staticTypes := #[]
  resolved := Array.replicate 7 none
  statics := none }

def pool3 : Array CpInfo := pool [(1, .class_ 2), (0, u "java/lang/Comparable"), (0, .class_ 4), (0, u "java/lang/Object")] 7

/-- java/lang/Comparable -/
def k3 : Class := { plain "java/lang/Comparable" (some 0) with
  accessFlags := 1537
  interfaces := #[]
  cf := some (fileOf pool3 1 #[] #[] 1537 3 #[] #[])
  fields := #[]
  methods := #[]
  instanceTypes := #[]
  staticTypes := #[]
  resolved := Array.replicate 12 none
  statics := none }

def pool4 : Array CpInfo := pool [(2, .class_ 4), (1, u "java/lang/CharSequence"), (42, .class_ 48), (0, u "java/lang/CharSequence$1CodePointIterator"), (10, .class_ 60), (0, u "java/lang/CharSequence$1CharIterator"), (5, .class_ 67), (0, u "java/lang/Object")] 63

/-- java/lang/CharSequence -/
def k4 : Class := { plain "java/lang/CharSequence" (some 0) with
  accessFlags := 1537
  interfaces := #[]
  cf := some (fileOf pool4 2 #[.nestMembers #[47, 59]] #[] 1537 66 #[] #[])
  fields := #[]
  methods := #[]
  instanceTypes := #[]
  staticTypes := #[]
  resolved := Array.replicate 131 none
  statics := none }

def pool5 : Array CpInfo := pool [(1, .class_ 2), (0, u "java/lang/constant/Constable"), (0, .class_ 4), (0, u "java/lang/Object")] 6

/-- java/lang/constant/Constable -/
def k5 : Class := { plain "java/lang/constant/Constable" (some 0) with
  accessFlags := 1537
  interfaces := #[]
  cf := some (fileOf pool5 1 #[] #[] 1537 3 #[] #[])
  fields := #[]
  methods := #[]
  instanceTypes := #[]
  staticTypes := #[]
  resolved := Array.replicate 11 none
  statics := none }

def pool6 : Array CpInfo := pool [(1, .class_ 2), (0, u "java/lang/constant/ConstantDesc"), (0, .class_ 4), (0, u "java/lang/Object")] 32

/-- java/lang/constant/ConstantDesc -/
def k6 : Class := { plain "java/lang/constant/ConstantDesc" (some 0) with
  accessFlags := 1537
  interfaces := #[]
  cf := some (fileOf pool6 1 #[] #[] 1537 3 #[] #[])
  fields := #[]
  methods := #[]
  instanceTypes := #[]
  staticTypes := #[]
  resolved := Array.replicate 37 none
  statics := none }

def pool7 : Array CpInfo := pool [(1, .methodref 2 3), (0, .class_ 4), (0, .nameAndType 5 6), (0, u "java/lang/Object"), (0, u "<init>"), (0, u "()V"), (0, .string 8), (0, u ""), (0, .fieldref 10 11), (0, .class_ 12), (0, .nameAndType 13 14), (0, u "java/lang/String"), (0, u "value"), (0, u "[B"), (0, .fieldref 10 16), (0, .nameAndType 17 18), (0, u "coder"), (0, u "B"), (2, u "hash"), (0, u "I"), (2, u "hashIsZero"), (0, u "Z"), (0, .methodref 10 28), (0, .nameAndType 5 29), (0, u "([CIILjava/lang/Void;)V"), (8, .fieldref 10 39), (0, .nameAndType 40 26), (0, u "COMPACT_STRINGS"), (1, .class_ 44), (1, u "java/lang/StringUTF16"), (0, u "compress"), (1, .methodref 42 48), (0, .nameAndType 49 50), (0, u "coderFromArrayLen"), (0, u "([BI)B"), (56, .class_ 109), (1, u "java/lang/StringLatin1"), (32, u "()Z"), (34, .methodref 42 178), (0, .nameAndType 45 179), (0, u "([CII)[B"), (154, u "()I"), (0, .methodref 10 336), (0, .nameAndType 17 337), (0, u "()B"), (169, u "length"), (33, .methodref 107 542), (0, .nameAndType 543 544), (0, u "equals"), (0, u "([B[B)Z"), (28, u "(Ljava/lang/Object;)Z"), (1, .class_ 576), (0, u "java/lang/CharSequence"), (22, u "CASE_INSENSITIVE_ORDER"), (0, u "Ljava/util/Comparator;"), (91, u "isEmpty"), (317, u "([C)V"), (90, u "serialPersistentFields"), (0, u "[Ljava/io/ObjectStreamField;"), (0, .class_ 1104), (0, u "java/lang/String$CaseInsensitiveComparator"), (1, .class_ 1107), (0, u "java/io/Serializable"), (0, .class_ 1109), (0, u "java/lang/Comparable"), (0, .class_ 1111), (0, u "java/lang/constant/Constable"), (0, .class_ 1113), (0, u "java/lang/constant/ConstantDesc"), (2, u "serialVersionUID"), (0, u "J"), (3, u "REPL"), (0, u "C"), (2, u "LATIN1"), (1, u "UTF16")] 323

def k7m0 : Method := { name := "<init>", desc := "()V", sig := { parameters := [], returnType := none }, accessFlags := 1, code := none }
def k7c1 : Code := { maxStack := 5, maxLocals := 2, code := jdk_42_method_3_code, exceptionTable := #[], attributes := #[] }
def k7m1 : Method := { name := "<init>", desc := "([C)V", sig := { parameters := [(.array .char)], returnType := none }, accessFlags := 1, code := some k7c1 }
def k7c2 : Code := { maxStack := 2, maxLocals := 1, code := jdk_42_method_54_code, exceptionTable := #[], attributes := #[] }
def k7m2 : Method := { name := "length", desc := "()I", sig := { parameters := [], returnType := some .int }, accessFlags := 1, code := some k7c2 }
def k7c3 : Code := { maxStack := 1, maxLocals := 1, code := jdk_42_method_55_code, exceptionTable := #[], attributes := #[] }
def k7m3 : Method := { name := "isEmpty", desc := "()Z", sig := { parameters := [], returnType := some .boolean }, accessFlags := 1, code := some k7c3 }
def k7c4 : Code := { maxStack := 2, maxLocals := 3, code := jdk_42_method_66_code, exceptionTable := #[], attributes := #[] }
def k7m4 : Method := { name := "equals", desc := "(Ljava/lang/Object;)Z", sig := { parameters := [(.object "java/lang/Object")], returnType := some .boolean }, accessFlags := 1, code := some k7c4 }
def k7c5 : Code := { maxStack := 4, maxLocals := 6, code := jdk_42_method_149_code, exceptionTable := #[], attributes := #[] }
def k7m5 : Method := { name := "<init>", desc := "([CIILjava/lang/Void;)V", sig := { parameters := [(.array .char), .int, .int, (.object "java/lang/Void")], returnType := none }, accessFlags := 2, code := some k7c5 }
def k7c6 : Code := { maxStack := 1, maxLocals := 1, code := jdk_42_method_152_code, exceptionTable := #[], attributes := #[] }
def k7m6 : Method := { name := "coder", desc := "()B", sig := { parameters := [], returnType := some .byte }, accessFlags := 0, code := some k7c6 }
/-- java/lang/String -/
def k7 : Class := { plain "java/lang/String" (some 0) with
  accessFlags := 49
  interfaces := #[2, 3, 4, 5, 6]
  cf := some (fileOf pool7 10 #[.nestMembers #[1103]] #[{ accessFlags := 1, nameIndex := 5, descriptorIndex := 6, attributes := #[] }, { accessFlags := 1, nameIndex := 5, descriptorIndex := 1010, attributes := #[] }, { accessFlags := 1, nameIndex := 507, descriptorIndex := 334, attributes := #[] }, { accessFlags := 1, nameIndex := 692, descriptorIndex := 142, attributes := #[] }, { accessFlags := 1, nameIndex := 543, descriptorIndex := 573, attributes := #[] }, { accessFlags := 2, nameIndex := 5, descriptorIndex := 29, attributes := #[] }, { accessFlags := 0, nameIndex := 17, descriptorIndex := 337, attributes := #[] }] 49 2 #[1106, 1108, 575, 1110, 1112] #[{ accessFlags := 18, nameIndex := 13, descriptorIndex := 14, attributes := #[] }, { accessFlags := 18, nameIndex := 17, descriptorIndex := 18, attributes := #[] }, { accessFlags := 2, nameIndex := 21, descriptorIndex := 22, attributes := #[] }, { accessFlags := 2, nameIndex := 25, descriptorIndex := 26, attributes := #[] }, { accessFlags := 26, nameIndex := 1116, descriptorIndex := 1117, attributes := #[] }, { accessFlags := 24, nameIndex := 40, descriptorIndex := 26, attributes := #[] }, { accessFlags := 26, nameIndex := 1101, descriptorIndex := 1102, attributes := #[] }, { accessFlags := 26, nameIndex := 1121, descriptorIndex := 1122, attributes := #[] }, { accessFlags := 25, nameIndex := 599, descriptorIndex := 600, attributes := #[] }, { accessFlags := 24, nameIndex := 1125, descriptorIndex := 18, attributes := #[] }, { accessFlags := 24, nameIndex := 1127, descriptorIndex := 18, attributes := #[] }])
  fields := #[{ name := "value", type := (.array .byte), accessFlags := 18, slot := 0, constantValue := 0 }, { name := "coder", type := .byte, accessFlags := 18, slot := 1, constantValue := 0 }, { name := "hash", type := .int, accessFlags := 2, slot := 2, constantValue := 0 }, { name := "hashIsZero", type := .boolean, accessFlags := 2, slot := 3, constantValue := 0 }, { name := "serialVersionUID", type := .long, accessFlags := 26, slot := 0, constantValue := 0 }, { name := "COMPACT_STRINGS", type := .boolean, accessFlags := 24, slot := 1, constantValue := 0 }, { name := "serialPersistentFields", type := (.array (.object "java/io/ObjectStreamField")), accessFlags := 26, slot := 2, constantValue := 0 }, { name := "REPL", type := .char, accessFlags := 26, slot := 3, constantValue := 0 }, { name := "CASE_INSENSITIVE_ORDER", type := (.object "java/util/Comparator"), accessFlags := 25, slot := 4, constantValue := 0 }, { name := "LATIN1", type := .byte, accessFlags := 24, slot := 5, constantValue := 0 }, { name := "UTF16", type := .byte, accessFlags := 24, slot := 6, constantValue := 0 }]
  methods := #[k7m0, k7m1, k7m2, k7m3, k7m4, k7m5, k7m6]
  instanceTypes := #[(.array .byte), .byte, .int, .boolean]
  staticTypes := #[.long, .boolean, (.array (.object "java/io/ObjectStreamField")), .char, (.object "java/util/Comparator"), .byte, .byte]
  resolved := Array.replicate 1451 none
  statics := some 0 }

def pool8 : Array CpInfo := pool [(1, .methodref 2 3), (0, .class_ 4), (0, .nameAndType 5 6), (0, u "java/lang/Object"), (0, u "<init>"), (0, u "()V"), (0, .class_ 8), (0, u "java/lang/Record")] 13

def k8c0 : Code := { maxStack := 1, maxLocals := 1, code := jdk_30_method_1_code, exceptionTable := #[], attributes := #[] }
def k8m0 : Method := { name := "<init>", desc := "()V", sig := { parameters := [], returnType := none }, accessFlags := 4, code := some k8c0 }
/-- java/lang/Record -/
def k8 : Class := { plain "java/lang/Record" (some 0) with
  accessFlags := 1057
  interfaces := #[]
  cf := some (fileOf pool8 7 #[] #[{ accessFlags := 4, nameIndex := 5, descriptorIndex := 6, attributes := #[] }] 1057 2 #[] #[])
  fields := #[]
  methods := #[k8m0]
  instanceTypes := #[]
  staticTypes := #[]
  resolved := Array.replicate 22 none
  statics := none }

def pool9 : Array CpInfo := pool [(1, .methodref 2 3), (0, .class_ 4), (0, .nameAndType 5 6), (0, u "java/lang/Record"), (0, u "<init>"), (0, u "()V"), (0, .fieldref 8 9), (0, .class_ 10), (0, .nameAndType 11 12), (0, u "com/example/holdfast/holdfast/cli/LevelArguments$Option"), (0, u "name"), (0, u "Ljava/lang/String;"), (0, .fieldref 8 14), (0, .nameAndType 15 12), (0, u "value"), (0, .fieldref 8 17), (0, .nameAndType 18 19), (0, u "required"), (0, u "Z"), (0, .fieldref 8 21), (0, .nameAndType 22 23), (0, u "choices"), (0, u "Ljava/util/List;"), (0, .interfaceMethodref 25 26), (0, .class_ 27), (0, .nameAndType 28 29), (0, u "java/util/List"), (0, u "of"), (0, u "()Ljava/util/List;"), (0, .methodref 8 31), (0, .nameAndType 5 32), (0, u "(Ljava/lang/String;Ljava/lang/String;ZLjava/util/List;)V"), (0, .string 34), (0, u ""), (0, .methodref 8 36), (0, .nameAndType 5 37), (0, u "(Ljava/lang/String;Ljava/lang/String;Z)V"), (15, u "()Z"), (26, u "flag"), (0, u "(Ljava/lang/String;)Lcom/example/holdfast/holdfast/cli/LevelArguments$Option;"), (4, u "()Ljava/lang/String;"), (7, .class_ 95), (0, u "com/example/holdfast/holdfast/cli/LevelArguments")] 34

def k9c0 : Code := { maxStack := 5, maxLocals := 4, code := prog_98_method_1_code, exceptionTable := #[], attributes := #[] }
def k9m0 : Method := { name := "<init>", desc := "(Ljava/lang/String;Ljava/lang/String;Z)V", sig := { parameters := [(.object "java/lang/String"), (.object "java/lang/String"), .boolean], returnType := none }, accessFlags := 0, code := some k9c0 }
def k9c1 : Code := { maxStack := 2, maxLocals := 5, code := prog_98_method_2_code, exceptionTable := #[], attributes := #[] }
def k9m1 : Method := { name := "<init>", desc := "(Ljava/lang/String;Ljava/lang/String;ZLjava/util/List;)V", sig := { parameters := [(.object "java/lang/String"), (.object "java/lang/String"), .boolean, (.object "java/util/List")], returnType := none }, accessFlags := 0, code := some k9c1 }
def k9c2 : Code := { maxStack := 5, maxLocals := 1, code := prog_98_method_3_code, exceptionTable := #[], attributes := #[] }
def k9m2 : Method := { name := "flag", desc := "(Ljava/lang/String;)Lcom/example/holdfast/holdfast/cli/LevelArguments$Option;", sig := { parameters := [(.object "java/lang/String")], returnType := some (.object "com/example/holdfast/holdfast/cli/LevelArguments$Option") }, accessFlags := 8, code := some k9c2 }
def k9c3 : Code := { maxStack := 1, maxLocals := 1, code := prog_98_method_9_code, exceptionTable := #[], attributes := #[] }
def k9m3 : Method := { name := "name", desc := "()Ljava/lang/String;", sig := { parameters := [], returnType := some (.object "java/lang/String") }, accessFlags := 1, code := some k9c3 }
def k9c4 : Code := { maxStack := 1, maxLocals := 1, code := prog_98_method_10_code, exceptionTable := #[], attributes := #[] }
def k9m4 : Method := { name := "value", desc := "()Ljava/lang/String;", sig := { parameters := [], returnType := some (.object "java/lang/String") }, accessFlags := 1, code := some k9c4 }
def k9c5 : Code := { maxStack := 1, maxLocals := 1, code := prog_98_method_11_code, exceptionTable := #[], attributes := #[] }
def k9m5 : Method := { name := "required", desc := "()Z", sig := { parameters := [], returnType := some .boolean }, accessFlags := 1, code := some k9c5 }
def k9c6 : Code := { maxStack := 1, maxLocals := 1, code := prog_98_method_12_code, exceptionTable := #[], attributes := #[] }
def k9m6 : Method := { name := "choices", desc := "()Ljava/util/List;", sig := { parameters := [], returnType := some (.object "java/util/List") }, accessFlags := 1, code := some k9c6 }
/-- com/example/holdfast/holdfast/cli/LevelArguments$Option -/
def k9 : Class := { plain "com/example/holdfast/holdfast/cli/LevelArguments$Option" (some 8) with
  accessFlags := 48
  interfaces := #[]
  cf := some (fileOf pool9 8 #[.nestHost 94] #[{ accessFlags := 0, nameIndex := 5, descriptorIndex := 37, attributes := #[] }, { accessFlags := 0, nameIndex := 5, descriptorIndex := 32, attributes := #[] }, { accessFlags := 8, nameIndex := 80, descriptorIndex := 81, attributes := #[] }, { accessFlags := 1, nameIndex := 11, descriptorIndex := 86, attributes := #[] }, { accessFlags := 1, nameIndex := 15, descriptorIndex := 86, attributes := #[] }, { accessFlags := 1, nameIndex := 18, descriptorIndex := 53, attributes := #[] }, { accessFlags := 1, nameIndex := 22, descriptorIndex := 29, attributes := #[] }] 48 2 #[] #[{ accessFlags := 18, nameIndex := 11, descriptorIndex := 12, attributes := #[] }, { accessFlags := 18, nameIndex := 15, descriptorIndex := 12, attributes := #[] }, { accessFlags := 18, nameIndex := 18, descriptorIndex := 19, attributes := #[] }, { accessFlags := 18, nameIndex := 22, descriptorIndex := 23, attributes := #[] }])
  fields := #[{ name := "name", type := (.object "java/lang/String"), accessFlags := 18, slot := 0, constantValue := 0 }, { name := "value", type := (.object "java/lang/String"), accessFlags := 18, slot := 1, constantValue := 0 }, { name := "required", type := .boolean, accessFlags := 18, slot := 2, constantValue := 0 }, { name := "choices", type := (.object "java/util/List"), accessFlags := 18, slot := 3, constantValue := 0 }]
  methods := #[k9m0, k9m1, k9m2, k9m3, k9m4, k9m5, k9m6]
  instanceTypes := #[(.object "java/lang/String"), (.object "java/lang/String"), .boolean, (.object "java/util/List")]
  staticTypes := #[]
  resolved := Array.replicate 130 none
  statics := none }

def pool10 : Array CpInfo := pool [(8, .class_ 10), (1, u "java/lang/Iterable"), (24, .class_ 36), (0, u "java/lang/Object")] 25

/-- java/lang/Iterable -/
def k10 : Class := { plain "java/lang/Iterable" (some 0) with
  accessFlags := 1537
  interfaces := #[]
  cf := some (fileOf pool10 8 #[] #[] 1537 35 #[] #[])
  fields := #[]
  methods := #[]
  instanceTypes := #[]
  staticTypes := #[]
  resolved := Array.replicate 62 none
  statics := none }

def pool11 : Array CpInfo := pool [(10, .class_ 12), (1, u "java/util/Collection"), (47, .class_ 61), (0, u "java/lang/Object"), (0, .class_ 63), (0, u "java/lang/Iterable")] 51

/-- java/util/Collection -/
def k11 : Class := { plain "java/util/Collection" (some 0) with
  accessFlags := 1537
  interfaces := #[10]
  cf := some (fileOf pool11 10 #[] #[] 1537 60 #[62] #[])
  fields := #[]
  methods := #[]
  instanceTypes := #[]
  staticTypes := #[]
  resolved := Array.replicate 115 none
  statics := none }

def pool12 : Array CpInfo := pool [(8, .class_ 10), (1, u "java/util/SequencedCollection"), (15, .class_ 27), (0, u "java/lang/Object"), (0, .class_ 29), (0, u "java/util/Collection")] 27

/-- java/util/SequencedCollection -/
def k12 : Class := { plain "java/util/SequencedCollection" (some 0) with
  accessFlags := 1537
  interfaces := #[11]
  cf := some (fileOf pool12 8 #[] #[] 1537 26 #[28] #[])
  fields := #[]
  methods := #[]
  instanceTypes := #[]
  staticTypes := #[]
  resolved := Array.replicate 57 none
  statics := none }

def pool13 : Array CpInfo := pool [(8, .class_ 10), (1, u "java/util/List"), (68, u "size"), (0, u "()I"), (7, u "of"), (1, .fieldref 91 92), (0, .class_ 93), (0, .nameAndType 94 95), (0, u "java/util/ImmutableCollections"), (0, u "EMPTY_LIST"), (0, u "Ljava/util/ImmutableCollections$ListN;"), (7, .class_ 104), (0, u "java/lang/Object"), (14, u "()Ljava/util/List;"), (0, .class_ 121), (0, u "java/util/SequencedCollection")] 129

def k13m0 : Method := { name := "size", desc := "()I", sig := { parameters := [], returnType := some .int }, accessFlags := 1025, code := none }
def k13c1 : Code := { maxStack := 1, maxLocals := 0, code := jdk_40_method_36_code, exceptionTable := #[], attributes := #[] }
def k13m1 : Method := { name := "of", desc := "()Ljava/util/List;", sig := { parameters := [], returnType := some (.object "java/util/List") }, accessFlags := 9, code := some k13c1 }
/-- java/util/List -/
def k13 : Class := { plain "java/util/List" (some 0) with
  accessFlags := 1537
  interfaces := #[12]
  cf := some (fileOf pool13 8 #[] #[{ accessFlags := 1025, nameIndex := 79, descriptorIndex := 80, attributes := #[] }, { accessFlags := 9, nameIndex := 88, descriptorIndex := 119, attributes := #[] }] 1537 103 #[120] #[])
  fields := #[]
  methods := #[k13m0, k13m1]
  instanceTypes := #[]
  staticTypes := #[]
  resolved := Array.replicate 251 none
  statics := none }

def pool14 : Array CpInfo := pool [(2, .class_ 4), (1, u "java/lang/Object"), (0, u "<init>"), (0, u "()V"), (3, .class_ 11), (0, u "java/util/ImmutableCollections$List12"), (0, .class_ 13), (0, u "java/util/ImmutableCollections$ListN"), (3, u "Z"), (29, .class_ 49), (1, u "java/util/ImmutableCollections"), (0, u "$assertionsDisabled"), (5, u "[Ljava/lang/Object;"), (5, u "EMPTY_LIST"), (0, u "Ljava/util/ImmutableCollections$ListN;"), (8, u "EMPTY_LIST_NULLS"), (22, u "SALT32L"), (0, u "J"), (2, u "REVERSE"), (6, u "archivedObjects"), (2, u "EMPTY"), (0, u "Ljava/lang/Object;"), (0, .class_ 112), (0, u "java/util/ImmutableCollections$SetN"), (5, u "EMPTY_SET"), (0, u "Ljava/util/ImmutableCollections$SetN;"), (0, .class_ 121), (0, u "java/util/ImmutableCollections$MapN"), (3, u "EMPTY_MAP"), (0, u "Ljava/util/ImmutableCollections$MapN;"), (4, u "EXPAND_FACTOR"), (0, u "I"), (36, .class_ 170), (0, u "java/util/ImmutableCollections$MapN$MapNIterator"), (0, .class_ 172), (0, u "java/util/ImmutableCollections$MapN$1"), (0, .class_ 174), (0, u "java/util/ImmutableCollections$Map1"), (0, .class_ 176), (0, u "java/util/ImmutableCollections$AbstractImmutableMap"), (0, .class_ 178), (0, u "java/util/ImmutableCollections$SetN$SetNIterator"), (0, .class_ 180), (0, u "java/util/ImmutableCollections$Set12"), (0, .class_ 182), (0, u "java/util/ImmutableCollections$Set12$1"), (0, .class_ 184), (0, u "java/util/ImmutableCollections$AbstractImmutableSet"), (0, .class_ 186), (0, u "java/util/ImmutableCollections$SubList"), (0, .class_ 188), (0, u "java/util/ImmutableCollections$ListItr"), (0, .class_ 190), (0, u "java/util/ImmutableCollections$AbstractImmutableList"), (0, .class_ 192), (0, u "java/util/ImmutableCollections$AbstractImmutableCollection"), (0, .class_ 194), (0, u "java/util/ImmutableCollections$Access"), (0, .class_ 196), (0, u "java/util/ImmutableCollections$Access$1")] 16

def k14m0 : Method := { name := "<init>", desc := "()V", sig := { parameters := [], returnType := none }, accessFlags := 2, code := none }
/-- java/util/ImmutableCollections -/
def k14 : Class := { plain "java/util/ImmutableCollections" (some 0) with
  accessFlags := 32
  interfaces := #[]
  cf := some (fileOf pool14 47 #[.nestMembers #[120, 169, 171, 173, 175, 111, 177, 179, 181, 183, 12, 10, 185, 187, 189, 191, 193, 195]] #[{ accessFlags := 2, nameIndex := 5, descriptorIndex := 6, attributes := #[] }] 32 2 #[] #[{ accessFlags := 26, nameIndex := 95, descriptorIndex := 96, attributes := #[] }, { accessFlags := 26, nameIndex := 99, descriptorIndex := 17, attributes := #[] }, { accessFlags := 10, nameIndex := 106, descriptorIndex := 56, attributes := #[] }, { accessFlags := 26, nameIndex := 109, descriptorIndex := 110, attributes := #[] }, { accessFlags := 24, nameIndex := 62, descriptorIndex := 63, attributes := #[] }, { accessFlags := 24, nameIndex := 72, descriptorIndex := 63, attributes := #[] }, { accessFlags := 24, nameIndex := 118, descriptorIndex := 119, attributes := #[] }, { accessFlags := 24, nameIndex := 125, descriptorIndex := 126, attributes := #[] }, { accessFlags := 24, nameIndex := 131, descriptorIndex := 132, attributes := #[] }, { accessFlags := 4120, nameIndex := 50, descriptorIndex := 17, attributes := #[] }])
  fields := #[{ name := "SALT32L", type := .long, accessFlags := 26, slot := 0, constantValue := 0 }, { name := "REVERSE", type := .boolean, accessFlags := 26, slot := 1, constantValue := 0 }, { name := "archivedObjects", type := (.array (.object "java/lang/Object")), accessFlags := 10, slot := 2, constantValue := 0 }, { name := "EMPTY", type := (.object "java/lang/Object"), accessFlags := 26, slot := 3, constantValue := 0 }, { name := "EMPTY_LIST", type := (.object "java/util/ImmutableCollections$ListN"), accessFlags := 24, slot := 4, constantValue := 0 }, { name := "EMPTY_LIST_NULLS", type := (.object "java/util/ImmutableCollections$ListN"), accessFlags := 24, slot := 5, constantValue := 0 }, { name := "EMPTY_SET", type := (.object "java/util/ImmutableCollections$SetN"), accessFlags := 24, slot := 6, constantValue := 0 }, { name := "EMPTY_MAP", type := (.object "java/util/ImmutableCollections$MapN"), accessFlags := 24, slot := 7, constantValue := 0 }, { name := "EXPAND_FACTOR", type := .int, accessFlags := 24, slot := 8, constantValue := 0 }, { name := "$assertionsDisabled", type := .boolean, accessFlags := 4120, slot := 9, constantValue := 0 }]
  methods := #[k14m0]
  instanceTypes := #[]
  staticTypes := #[.long, .boolean, (.array (.object "java/lang/Object")), (.object "java/lang/Object"), (.object "java/util/ImmutableCollections$ListN"), (.object "java/util/ImmutableCollections$ListN"), (.object "java/util/ImmutableCollections$SetN"), (.object "java/util/ImmutableCollections$MapN"), .int, .boolean]
  resolved := Array.replicate 213 none
  statics := some 1 }

def pool15 : Array CpInfo := pool [(4, .class_ 6), (1, u "java/lang/Object"), (0, u "<init>"), (0, u "()V"), (5, .class_ 16), (1, u "java/lang/StringLatin1"), (104, u "$assertionsDisabled"), (0, u "Z"), (98, .class_ 223), (1, u "java/lang/StringLatin1$LinesSpliterator"), (57, u "equals"), (0, u "([B[B)Z"), (107, .class_ 391), (0, u "java/lang/StringLatin1$CharsSpliterator")] 3

def k15m0 : Method := { name := "<init>", desc := "()V", sig := { parameters := [], returnType := none }, accessFlags := 0, code := none }
def k15c1 : Code := { maxStack := 3, maxLocals := 3, code := jdk_43_method_13_code, exceptionTable := #[], attributes := #[] }
def k15m1 : Method := { name := "equals", desc := "([B[B)Z", sig := { parameters := [(.array .byte), (.array .byte)], returnType := some .boolean }, accessFlags := 9, code := some k15c1 }
/-- java/lang/StringLatin1 -/
def k15 : Class := { plain "java/lang/StringLatin1" (some 0) with
  accessFlags := 48
  interfaces := #[]
  cf := some (fileOf pool15 14 #[.nestMembers #[390, 221]] #[{ accessFlags := 0, nameIndex := 7, descriptorIndex := 8, attributes := #[] }, { accessFlags := 9, nameIndex := 281, descriptorIndex := 282, attributes := #[] }] 48 4 #[] #[{ accessFlags := 4120, nameIndex := 121, descriptorIndex := 122, attributes := #[] }])
  fields := #[{ name := "$assertionsDisabled", type := .boolean, accessFlags := 4120, slot := 0, constantValue := 0 }]
  methods := #[k15m0, k15m1]
  instanceTypes := #[]
  staticTypes := #[.boolean]
  resolved := Array.replicate 395 none
  statics := none }

def pool16 : Array CpInfo := pool [(2, .class_ 4), (1, u "java/lang/Object"), (0, u "<init>"), (0, u "()V"), (1, .class_ 10), (1, u "java/util/AbstractCollection"), (66, .class_ 78), (0, u "java/util/Collection")] 81

def k16m0 : Method := { name := "<init>", desc := "()V", sig := { parameters := [], returnType := none }, accessFlags := 4, code := none }
/-- java/util/AbstractCollection -/
def k16 : Class := { plain "java/util/AbstractCollection" (some 0) with
  accessFlags := 1057
  interfaces := #[11]
  cf := some (fileOf pool16 8 #[] #[{ accessFlags := 4, nameIndex := 5, descriptorIndex := 6, attributes := #[] }] 1057 2 #[77] #[])
  fields := #[]
  methods := #[k16m0]
  instanceTypes := #[]
  staticTypes := #[]
  resolved := Array.replicate 160 none
  statics := none }

def pool17 : Array CpInfo := pool [(2, .class_ 4), (1, u "java/util/AbstractCollection"), (0, u "<init>"), (0, u "()V"), (1, .class_ 10), (1, u "java/util/ImmutableCollections"), (2, .class_ 14), (0, u "java/util/ImmutableCollections$AbstractImmutableCollection")] 41

def k17m0 : Method := { name := "<init>", desc := "()V", sig := { parameters := [], returnType := none }, accessFlags := 0, code := none }
/-- java/util/ImmutableCollections$AbstractImmutableCollection -/
def k17 : Class := { plain "java/util/ImmutableCollections$AbstractImmutableCollection" (some 16) with
  accessFlags := 1056
  interfaces := #[]
  cf := some (fileOf pool17 13 #[.nestHost 8] #[{ accessFlags := 0, nameIndex := 5, descriptorIndex := 6, attributes := #[] }] 1056 2 #[] #[])
  fields := #[]
  methods := #[k17m0]
  instanceTypes := #[]
  staticTypes := #[]
  resolved := Array.replicate 56 none
  statics := none }

def pool18 : Array CpInfo := pool [(1, .class_ 2), (0, u "java/util/RandomAccess"), (0, .class_ 4), (0, u "java/lang/Object")] 2

/-- java/util/RandomAccess -/
def k18 : Class := { plain "java/util/RandomAccess" (some 0) with
  accessFlags := 1537
  interfaces := #[]
  cf := some (fileOf pool18 1 #[] #[] 1537 3 #[] #[])
  fields := #[]
  methods := #[]
  instanceTypes := #[]
  staticTypes := #[]
  resolved := Array.replicate 7 none
  statics := none }

def pool19 : Array CpInfo := pool [(2, .class_ 4), (1, u "java/util/ImmutableCollections$AbstractImmutableCollection"), (0, u "<init>"), (0, u "()V"), (1, .class_ 10), (1, u "java/util/ImmutableCollections"), (3, .class_ 16), (1, u "java/util/ImmutableCollections$AbstractImmutableList"), (60, .class_ 78), (0, u "java/util/List"), (45, .class_ 125), (0, u "java/util/RandomAccess")] 70

def k19m0 : Method := { name := "<init>", desc := "()V", sig := { parameters := [], returnType := none }, accessFlags := 0, code := none }
/-- java/util/ImmutableCollections$AbstractImmutableList -/
def k19 : Class := { plain "java/util/ImmutableCollections$AbstractImmutableList" (some 17) with
  accessFlags := 1056
  interfaces := #[13, 18]
  cf := some (fileOf pool19 14 #[.nestHost 8] #[{ accessFlags := 0, nameIndex := 5, descriptorIndex := 6, attributes := #[] }] 1056 2 #[77, 124] #[])
  fields := #[]
  methods := #[k19m0]
  instanceTypes := #[]
  staticTypes := #[]
  resolved := Array.replicate 196 none
  statics := none }

def pool20 : Array CpInfo := pool [(2, .class_ 4), (1, u "java/util/ImmutableCollections$AbstractImmutableList"), (2, .fieldref 8 9), (0, .class_ 10), (0, .nameAndType 11 12), (0, u "java/util/ImmutableCollections$ListN"), (0, u "elements"), (0, u "[Ljava/lang/Object;"), (2, u "allowNulls"), (0, u "Z"), (42, .class_ 60), (0, u "java/io/Serializable"), (16, u "size"), (0, u "()I"), (35, .class_ 115), (0, u "java/util/ImmutableCollections")] 3

def k20c0 : Code := { maxStack := 1, maxLocals := 1, code := jdk_45_method_3_code, exceptionTable := #[], attributes := #[] }
def k20m0 : Method := { name := "size", desc := "()I", sig := { parameters := [], returnType := some .int }, accessFlags := 1, code := some k20c0 }
/-- java/util/ImmutableCollections$ListN -/
def k20 : Class := { plain "java/util/ImmutableCollections$ListN" (some 19) with
  accessFlags := 48
  interfaces := #[2]
  cf := some (fileOf pool20 8 #[.nestHost 114] #[{ accessFlags := 1, nameIndex := 77, descriptorIndex := 78, attributes := #[] }] 48 2 #[59] #[{ accessFlags := 18, nameIndex := 11, descriptorIndex := 12, attributes := #[] }, { accessFlags := 18, nameIndex := 15, descriptorIndex := 16, attributes := #[] }])
  fields := #[{ name := "elements", type := (.array (.object "java/lang/Object")), accessFlags := 18, slot := 0, constantValue := 0 }, { name := "allowNulls", type := .boolean, accessFlags := 18, slot := 1, constantValue := 0 }]
  methods := #[k20m0]
  instanceTypes := #[(.array (.object "java/lang/Object")), .boolean]
  staticTypes := #[]
  resolved := Array.replicate 119 none
  statics := none }

def pool21 : Array CpInfo := pool [(6, .class_ 8), (1, u "java/lang/Object"), (0, u "<init>"), (0, u "()V"), (1, .class_ 14), (1, u "java/lang/StringUTF16"), (31, u "$assertionsDisabled"), (0, u "Z"), (13, u "HI_BYTE_SHIFT"), (0, u "I"), (2, u "LO_BYTE_SHIFT"), (49, .methodref 12 116), (0, .nameAndType 117 118), (0, u "compress"), (0, u "([CI[BII)I"), (3, u "([CII)[B"), (138, u "coderFromArrayLen"), (0, u "([BI)B"), (106, .class_ 371), (1, u "java/lang/StringUTF16$LinesSpliterator"), (58, u "MAX_LENGTH"), (196, .class_ 628), (0, u "java/lang/StringUTF16$CodePointsSpliterator"), (0, .class_ 630), (0, u "java/lang/StringUTF16$CharsSpliterator")] 4

def k21m0 : Method := { name := "<init>", desc := "()V", sig := { parameters := [], returnType := none }, accessFlags := 0, code := none }
def k21c1 : Code := { maxStack := 2, maxLocals := 2, code := jdk_52_method_15_code, exceptionTable := #[], attributes := #[] }
def k21m1 : Method := { name := "coderFromArrayLen", desc := "([BI)B", sig := { parameters := [(.array .byte), .int], returnType := some .byte }, accessFlags := 8, code := some k21c1 }
def k21c2 : Code := { maxStack := 5, maxLocals := 6, code := jdk_52_method_16_code, exceptionTable := #[], attributes := #[] }
def k21m2 : Method := { name := "compress", desc := "([CII)[B", sig := { parameters := [(.array .char), .int, .int], returnType := some (.array .byte) }, accessFlags := 9, code := some k21c2 }
def k21c3 : Code := { maxStack := 3, maxLocals := 7, code := jdk_52_method_21_code, exceptionTable := #[], attributes := #[] }
def k21m3 : Method := { name := "compress", desc := "([CI[BII)I", sig := { parameters := [(.array .char), .int, (.array .byte), .int, .int], returnType := some .int }, accessFlags := 9, code := some k21c3 }
/-- java/lang/StringUTF16 -/
def k21 : Class := { plain "java/lang/StringUTF16" (some 0) with
  accessFlags := 48
  interfaces := #[]
  cf := some (fileOf pool21 12 #[.nestMembers #[627, 629, 369]] #[{ accessFlags := 0, nameIndex := 9, descriptorIndex := 10, attributes := #[] }, { accessFlags := 8, nameIndex := 261, descriptorIndex := 262, attributes := #[] }, { accessFlags := 9, nameIndex := 117, descriptorIndex := 122, attributes := #[] }, { accessFlags := 9, nameIndex := 117, descriptorIndex := 118, attributes := #[] }] 48 6 #[] #[{ accessFlags := 26, nameIndex := 61, descriptorIndex := 62, attributes := #[] }, { accessFlags := 26, nameIndex := 65, descriptorIndex := 62, attributes := #[] }, { accessFlags := 24, nameIndex := 430, descriptorIndex := 62, attributes := #[] }, { accessFlags := 4120, nameIndex := 46, descriptorIndex := 47, attributes := #[] }])
  fields := #[{ name := "HI_BYTE_SHIFT", type := .int, accessFlags := 26, slot := 0, constantValue := 0 }, { name := "LO_BYTE_SHIFT", type := .int, accessFlags := 26, slot := 1, constantValue := 0 }, { name := "MAX_LENGTH", type := .int, accessFlags := 24, slot := 2, constantValue := 0 }, { name := "$assertionsDisabled", type := .boolean, accessFlags := 4120, slot := 3, constantValue := 0 }]
  methods := #[k21m0, k21m1, k21m2, k21m3]
  instanceTypes := #[]
  staticTypes := #[.int, .int, .int, .boolean]
  resolved := Array.replicate 635 none
  statics := none }

def pool22 : Array CpInfo := pool [(2, .class_ 4), (1, u "java/lang/Object"), (0, u "<init>"), (0, u "()V"), (17, .class_ 26), (1, u "jdk/internal/util/Preconditions"), (28, .class_ 56), (0, u "jdk/internal/util/Preconditions$4"), (57, .class_ 115), (0, u "jdk/internal/util/Preconditions$1"), (7, u "SIOOBE_FORMATTER"), (0, u "Ljava/util/function/BiFunction;"), (0, .class_ 126), (0, u "jdk/internal/util/Preconditions$2"), (3, u "AIOOBE_FORMATTER"), (0, .class_ 132), (0, u "jdk/internal/util/Preconditions$3"), (3, u "IOOBE_FORMATTER")] 57

def k22m0 : Method := { name := "<init>", desc := "()V", sig := { parameters := [], returnType := none }, accessFlags := 1, code := none }
/-- jdk/internal/util/Preconditions -/
def k22 : Class := { plain "jdk/internal/util/Preconditions" (some 0) with
  accessFlags := 33
  interfaces := #[]
  cf := some (fileOf pool22 24 #[.nestMembers #[55, 131, 125, 114]] #[{ accessFlags := 1, nameIndex := 5, descriptorIndex := 6, attributes := #[] }] 33 2 #[] #[{ accessFlags := 25, nameIndex := 123, descriptorIndex := 124, attributes := #[] }, { accessFlags := 25, nameIndex := 130, descriptorIndex := 124, attributes := #[] }, { accessFlags := 25, nameIndex := 136, descriptorIndex := 124, attributes := #[] }])
  fields := #[{ name := "SIOOBE_FORMATTER", type := (.object "java/util/function/BiFunction"), accessFlags := 25, slot := 0, constantValue := 0 }, { name := "AIOOBE_FORMATTER", type := (.object "java/util/function/BiFunction"), accessFlags := 25, slot := 1, constantValue := 0 }, { name := "IOOBE_FORMATTER", type := (.object "java/util/function/BiFunction"), accessFlags := 25, slot := 2, constantValue := 0 }]
  methods := #[k22m0]
  instanceTypes := #[]
  staticTypes := #[(.object "java/util/function/BiFunction"), (.object "java/util/function/BiFunction"), (.object "java/util/function/BiFunction")]
  resolved := Array.replicate 194 none
  statics := some 2 }

def pool23 : Array CpInfo := pool [(9, u "<init>"), (6, .class_ 18), (1, u "java/lang/Object"), (0, u "()V"), (1, .class_ 23), (1, u "jdk/internal/util/ArraysSupport"), (0, u "LOG2_ARRAY_LONG_INDEX_SCALE"), (0, u "I"), (2, u "U"), (0, u "Ljdk/internal/misc/Unsafe;"), (8, u "BIG_ENDIAN"), (0, u "Z"), (8, u "LOG2_BYTE_BIT_SIZE"), (4, u "LOG2_ARRAY_INT_INDEX_SCALE"), (54, u "JLA"), (0, u "Ljdk/internal/access/JavaLangAccess;"), (11, u "LOG2_ARRAY_BOOLEAN_INDEX_SCALE"), (9, u "LOG2_ARRAY_BYTE_INDEX_SCALE"), (5, u "LOG2_ARRAY_CHAR_INDEX_SCALE"), (5, u "LOG2_ARRAY_SHORT_INDEX_SCALE"), (18, u "LOG2_ARRAY_FLOAT_INDEX_SCALE"), (24, u "LOG2_ARRAY_DOUBLE_INDEX_SCALE"), (89, u "T_BOOLEAN"), (2, u "T_CHAR"), (1, u "T_FLOAT"), (1, u "T_DOUBLE"), (1, u "T_BYTE"), (1, u "T_SHORT"), (1, u "T_INT"), (1, u "T_LONG"), (1, u "SOFT_MAX_ARRAY_LENGTH")] 83

def k23m0 : Method := { name := "<init>", desc := "()V", sig := { parameters := [], returnType := none }, accessFlags := 2, code := none }
/-- jdk/internal/util/ArraysSupport -/
def k23 : Class := { plain "jdk/internal/util/ArraysSupport" (some 0) with
  accessFlags := 33
  interfaces := #[]
  cf := some (fileOf pool23 21 #[] #[{ accessFlags := 2, nameIndex := 9, descriptorIndex := 19, attributes := #[] }] 33 16 #[] #[{ accessFlags := 24, nameIndex := 28, descriptorIndex := 29, attributes := #[] }, { accessFlags := 26, nameIndex := 38, descriptorIndex := 39, attributes := #[] }, { accessFlags := 25, nameIndex := 121, descriptorIndex := 25, attributes := #[] }, { accessFlags := 25, nameIndex := 131, descriptorIndex := 25, attributes := #[] }, { accessFlags := 25, nameIndex := 137, descriptorIndex := 25, attributes := #[] }, { accessFlags := 25, nameIndex := 143, descriptorIndex := 25, attributes := #[] }, { accessFlags := 25, nameIndex := 53, descriptorIndex := 25, attributes := #[] }, { accessFlags := 25, nameIndex := 24, descriptorIndex := 25, attributes := #[] }, { accessFlags := 25, nameIndex := 162, descriptorIndex := 25, attributes := #[] }, { accessFlags := 25, nameIndex := 187, descriptorIndex := 25, attributes := #[] }, { accessFlags := 26, nameIndex := 48, descriptorIndex := 25, attributes := #[] }, { accessFlags := 25, nameIndex := 277, descriptorIndex := 25, attributes := #[] }, { accessFlags := 25, nameIndex := 280, descriptorIndex := 25, attributes := #[] }, { accessFlags := 25, nameIndex := 282, descriptorIndex := 25, attributes := #[] }, { accessFlags := 25, nameIndex := 284, descriptorIndex := 25, attributes := #[] }, { accessFlags := 25, nameIndex := 286, descriptorIndex := 25, attributes := #[] }, { accessFlags := 25, nameIndex := 288, descriptorIndex := 25, attributes := #[] }, { accessFlags := 25, nameIndex := 290, descriptorIndex := 25, attributes := #[] }, { accessFlags := 25, nameIndex := 292, descriptorIndex := 25, attributes := #[] }, { accessFlags := 26, nameIndex := 108, descriptorIndex := 109, attributes := #[] }, { accessFlags := 25, nameIndex := 294, descriptorIndex := 25, attributes := #[] }])
  fields := #[{ name := "U", type := (.object "jdk/internal/misc/Unsafe"), accessFlags := 24, slot := 0, constantValue := 0 }, { name := "BIG_ENDIAN", type := .boolean, accessFlags := 26, slot := 1, constantValue := 0 }, { name := "LOG2_ARRAY_BOOLEAN_INDEX_SCALE", type := .int, accessFlags := 25, slot := 2, constantValue := 0 }, { name := "LOG2_ARRAY_BYTE_INDEX_SCALE", type := .int, accessFlags := 25, slot := 3, constantValue := 0 }, { name := "LOG2_ARRAY_CHAR_INDEX_SCALE", type := .int, accessFlags := 25, slot := 4, constantValue := 0 }, { name := "LOG2_ARRAY_SHORT_INDEX_SCALE", type := .int, accessFlags := 25, slot := 5, constantValue := 0 }, { name := "LOG2_ARRAY_INT_INDEX_SCALE", type := .int, accessFlags := 25, slot := 6, constantValue := 0 }, { name := "LOG2_ARRAY_LONG_INDEX_SCALE", type := .int, accessFlags := 25, slot := 7, constantValue := 0 }, { name := "LOG2_ARRAY_FLOAT_INDEX_SCALE", type := .int, accessFlags := 25, slot := 8, constantValue := 0 }, { name := "LOG2_ARRAY_DOUBLE_INDEX_SCALE", type := .int, accessFlags := 25, slot := 9, constantValue := 0 }, { name := "LOG2_BYTE_BIT_SIZE", type := .int, accessFlags := 26, slot := 10, constantValue := 0 }, { name := "T_BOOLEAN", type := .int, accessFlags := 25, slot := 11, constantValue := 0 }, { name := "T_CHAR", type := .int, accessFlags := 25, slot := 12, constantValue := 0 }, { name := "T_FLOAT", type := .int, accessFlags := 25, slot := 13, constantValue := 0 }, { name := "T_DOUBLE", type := .int, accessFlags := 25, slot := 14, constantValue := 0 }, { name := "T_BYTE", type := .int, accessFlags := 25, slot := 15, constantValue := 0 }, { name := "T_SHORT", type := .int, accessFlags := 25, slot := 16, constantValue := 0 }, { name := "T_INT", type := .int, accessFlags := 25, slot := 17, constantValue := 0 }, { name := "T_LONG", type := .int, accessFlags := 25, slot := 18, constantValue := 0 }, { name := "JLA", type := (.object "jdk/internal/access/JavaLangAccess"), accessFlags := 26, slot := 19, constantValue := 0 }, { name := "SOFT_MAX_ARRAY_LENGTH", type := .int, accessFlags := 25, slot := 20, constantValue := 0 }]
  methods := #[k23m0]
  instanceTypes := #[]
  staticTypes := #[(.object "jdk/internal/misc/Unsafe"), .boolean, .int, .int, .int, .int, .int, .int, .int, .int, .int, .int, .int, .int, .int, .int, .int, .int, .int, (.object "jdk/internal/access/JavaLangAccess"), .int]
  resolved := Array.replicate 378 none
  statics := none }

def pool24 : Array CpInfo := pool [(1, u "java/lang/Cloneable"), (0, .class_ 1), (0, u "java/lang/Object"), (0, .class_ 3)] 3

/-- java/lang/Cloneable -/
def k24 : Class := { plain "java/lang/Cloneable" (some 0) with
  accessFlags := 1537
  interfaces := #[]
  cf := some (fileOf pool24 2 #[] #[] 1537 4 #[] #[])
  fields := #[]
  methods := #[]
  instanceTypes := #[]
  staticTypes := #[]
  resolved := Array.replicate 8 none
  statics := none }

/-- the primitive byte -/
def k25 : Class := { plain "byte" none with kind := .primitive 'B', accessFlags := 0x411 }
/-- [B -/
def k26 : Class := { plain "[B" (some 0) with kind := .array 25 .byte, interfaces := #[24, 2], accessFlags := 1041 }

/-- the primitive char -/
def k27 : Class := { plain "char" none with kind := .primitive 'C', accessFlags := 0x411 }
/-- [C -/
def k28 : Class := { plain "[C" (some 0) with kind := .array 27 .char, interfaces := #[24, 2], accessFlags := 1041 }

/-- the primitive int -/
def k29 : Class := { plain "int" none with kind := .primitive 'I', accessFlags := 0x411 }
/-- [I -/
def k30 : Class := { plain "[I" (some 0) with kind := .array 29 .int, interfaces := #[24, 2], accessFlags := 1041 }

/-- [Ljava/lang/Object; -/
def k31 : Class := { plain "[Ljava/lang/Object;" (some 0) with kind := .array 0 (.object "java/lang/Object"), interfaces := #[24, 2], accessFlags := 1041 }

def heap : Heap := #[{ cls := 7, slots := #[.long 0, .int 1, .null, .int 0, .null, .int 0, .int 0], vm := .statics 7 },
  { cls := 14, slots := #[.long 0, .int 0, .null, .null, .ref 4, .null, .null, .null, .int 0, .int 0], vm := .statics 14 },
  { cls := 22, slots := #[.null, .null, .null], vm := .statics 22 },
  { cls := 31, slots := #[], vm := .none },
  { cls := 20, slots := #[.ref 3, .int 0], vm := .none }]
def classes : Array Class := #[k0, k1, k2, k3, k4, k5, k6, k7, k8, k9, k10, k11, k12, k13, k14, k15, k16, k17, k18, k19, k20, k21, k22, k23, k24, k25, k26, k27, k28, k29, k30, k31]
def interned : List (Array UInt16 × Addr) := []
def slotsUsed : Nat := 22
def theMethod : MethodId := ⟨1, 1⟩
def args0 : Array Value := #[.int 5, .int 6, .int 7, .int 8]
def aboutOver (below : List Frame) : State where
  vm := { classes := classes, interned := interned.toArray }
  heap := heap
  slotsUsed := slotsUsed
  threads := #[{ frames := .invoking theMethod args0 :: below }]
def below0 : List Frame := [.native { method := ⟨0, 0⟩, args := #[] }]
def about1 : State := aboutOver below0
def p0 : Program := .bare "" "" ""
def e0 : Env := launch0.env 0 0 0
theorem w_frames : about1.frames = Frame.invoking theMethod args0 :: below0 := rfl
set_option maxRecDepth 65536 in
theorem w_args : argsFit about1.vm theMethod args0 = true := by decide +kernel
set_option maxRecDepth 65536 in
theorem w_heap : heapFits about1 = true := by decide +kernel
set_option maxRecDepth 65536 in
theorem w_runnable : about1.curStatus? = some .runnable := by decide +kernel
set_option maxRecDepth 65536 in
theorem w_alone : about1.alone = true := by decide +kernel
set_option maxRecDepth 65536 in
theorem w_named : about1.methodNamed? x = some theMethod := by decide +kernel
set_option maxRecDepth 65536 in
theorem w_hears : about1.hears theMethod below0 = true := by decide +kernel
set_option maxRecDepth 65536 in
theorem w_ripe : about1.ripe theMethod args0 below0 = true := by decide +kernel
theorem w_running : about1.status = .running := rfl
set_option maxRecDepth 65536 in
theorem w_room : about1.hasRoom e0.platform room_1 = true :=
  launch0.hasRoom_least _ room_1 (by decide +kernel) (by decide +kernel) (by decide +kernel) (by decide +kernel) (by decide +kernel) (by decide +kernel)
theorem allAtoms_all (ts : List Jvm.Cond) (a : Array Jvm.Value) (st : Jvm.State) : (allAtoms ts).before a st = ts.all (fun c => c.before a st) := by
  induction ts with
  | nil => rfl
  | cons c t ih =>
    show (Jvm.Cond.and c (allAtoms t)).before a st = _
    rw [Jvm.Cond.before_and, ih, List.all_cons]
def words1 : List Jvm.Cond := Jvm.Cond.code x code maxLocals ret :: tables_1
/-- a 'code' word, met by the world's own term for the bytes: nothing is compared byte by byte -/
theorem code_word {y : MethodName} {bytes : ByteArray} {mx : Nat} {rt : Option FieldType} {a : Array Value} {s : State} {m : MethodId} {meth : Method} {c : Code} (h1 : s.methodNamed? y = some m) (h2 : s.vm.method? m = some meth) (h3 : meth.code = some c) (h4 : c.code = bytes)
    (h5 : (c.maxLocals == mx && c.exceptionTable.isEmpty && decide (c.maxStack ≤ mostOperands) && decide (meth.sig.returnType = rt) && !meth.locks && decide (parseMethodDescriptor y.desc = some meth.sig)) = true) : (Jvm.Cond.code y bytes mx rt).before a s = true := by
  simp only [Bool.and_eq_true, beq_iff_eq, Bool.not_eq_true', decide_eq_true_eq] at h5
  obtain ⟨⟨⟨⟨⟨g1, g2⟩, g3⟩, g4⟩, g5⟩, g6⟩ := h5
  simp [Cond.before, Cond.holds, Cond.value, h1, h2, h3, h4, g1, g2, g3, g4, g5, g6]
def isCode : Jvm.Cond → Bool
  | .code _ _ _ _ => true
  | _ => false
theorem all_split {L : List Jvm.Cond} {P : Jvm.Cond → Bool} (h1 : L.all (fun c => isCode c || P c) = true) (h2 : ∀ c ∈ L.filter isCode, P c = true) : L.all P = true := by
  refine List.all_eq_true.mpr fun c hc => ?_
  have h := List.all_eq_true.mp h1 c hc
  rcases Bool.eq_false_or_eq_true (isCode c) with hi | hi
  · exact h2 c (List.mem_filter.mpr ⟨hc, hi⟩)
  · simpa [hi] using h
set_option maxRecDepth 65536 in
theorem w_c0 : (Jvm.Cond.code x code maxLocals ret).before args0 about1 = true := code_word (m := ⟨1, 1⟩) (meth := k1m1) (c := k1c1) (by decide +kernel) rfl rfl rfl (by decide +kernel)
set_option maxRecDepth 65536 in
theorem w_c1 : (Jvm.Cond.code ({ cls := "com/example/holdfast/holdfast/cli/OptionFlagPinLaw", name := "draw", desc := "(IIII)Ljava/lang/String;" } : Jvm.MethodName) method_3_code (5 : Nat) (Option.some (Jvm.ClassFile.FieldType.object "java/lang/String"))).before args0 about1 = true := code_word (m := ⟨1, 2⟩) (meth := k1m2) (c := k1c2) (by decide +kernel) rfl rfl rfl (by decide +kernel)
set_option maxRecDepth 65536 in
theorem w_c2 : (Jvm.Cond.code ({ cls := "java/lang/String", name := "<init>", desc := "([C)V" } : Jvm.MethodName) jdk_42_method_3_code (2 : Nat) (Option.none : Option Jvm.ClassFile.FieldType)).before args0 about1 = true := code_word (m := ⟨7, 1⟩) (meth := k7m1) (c := k7c1) (by decide +kernel) rfl rfl rfl (by decide +kernel)
set_option maxRecDepth 65536 in
theorem w_c3 : (Jvm.Cond.code ({ cls := "java/lang/String", name := "<init>", desc := "([CIILjava/lang/Void;)V" } : Jvm.MethodName) jdk_42_method_149_code (6 : Nat) (Option.none : Option Jvm.ClassFile.FieldType)).before args0 about1 = true := code_word (m := ⟨7, 5⟩) (meth := k7m5) (c := k7c5) (by decide +kernel) rfl rfl rfl (by decide +kernel)
set_option maxRecDepth 65536 in
theorem w_c4 : (Jvm.Cond.code ({ cls := "java/lang/Object", name := "<init>", desc := "()V" } : Jvm.MethodName) object_method_1_code (1 : Nat) (Option.none : Option Jvm.ClassFile.FieldType)).before args0 about1 = true := code_word (m := ⟨0, 0⟩) (meth := k0m0) (c := k0c0) (by decide +kernel) rfl rfl rfl (by decide +kernel)
set_option maxRecDepth 65536 in
theorem w_c5 : (Jvm.Cond.code ({ cls := "com/example/holdfast/holdfast/cli/LevelArguments$Option", name := "flag", desc := "(Ljava/lang/String;)Lcom/example/holdfast/holdfast/cli/LevelArguments$Option;" } : Jvm.MethodName) prog_98_method_3_code (1 : Nat) (Option.some (Jvm.ClassFile.FieldType.object "com/example/holdfast/holdfast/cli/LevelArguments$Option"))).before args0 about1 = true := code_word (m := ⟨9, 2⟩) (meth := k9m2) (c := k9c2) (by decide +kernel) rfl rfl rfl (by decide +kernel)
set_option maxRecDepth 65536 in
theorem w_c6 : (Jvm.Cond.code ({ cls := "com/example/holdfast/holdfast/cli/LevelArguments$Option", name := "<init>", desc := "(Ljava/lang/String;Ljava/lang/String;Z)V" } : Jvm.MethodName) prog_98_method_1_code (4 : Nat) (Option.none : Option Jvm.ClassFile.FieldType)).before args0 about1 = true := code_word (m := ⟨9, 0⟩) (meth := k9m0) (c := k9c0) (by decide +kernel) rfl rfl rfl (by decide +kernel)
set_option maxRecDepth 65536 in
theorem w_c7 : (Jvm.Cond.code ({ cls := "java/util/List", name := "of", desc := "()Ljava/util/List;" } : Jvm.MethodName) jdk_40_method_36_code (0 : Nat) (Option.some (Jvm.ClassFile.FieldType.object "java/util/List"))).before args0 about1 = true := code_word (m := ⟨13, 1⟩) (meth := k13m1) (c := k13c1) (by decide +kernel) rfl rfl rfl (by decide +kernel)
set_option maxRecDepth 65536 in
theorem w_c8 : (Jvm.Cond.code ({ cls := "com/example/holdfast/holdfast/cli/LevelArguments$Option", name := "<init>", desc := "(Ljava/lang/String;Ljava/lang/String;ZLjava/util/List;)V" } : Jvm.MethodName) prog_98_method_2_code (5 : Nat) (Option.none : Option Jvm.ClassFile.FieldType)).before args0 about1 = true := code_word (m := ⟨9, 1⟩) (meth := k9m1) (c := k9c1) (by decide +kernel) rfl rfl rfl (by decide +kernel)
set_option maxRecDepth 65536 in
theorem w_c9 : (Jvm.Cond.code ({ cls := "java/lang/Record", name := "<init>", desc := "()V" } : Jvm.MethodName) jdk_30_method_1_code (1 : Nat) (Option.none : Option Jvm.ClassFile.FieldType)).before args0 about1 = true := code_word (m := ⟨8, 0⟩) (meth := k8m0) (c := k8c0) (by decide +kernel) rfl rfl rfl (by decide +kernel)
set_option maxRecDepth 65536 in
theorem w_c10 : (Jvm.Cond.code ({ cls := "com/example/holdfast/holdfast/cli/LevelArguments$Option", name := "name", desc := "()Ljava/lang/String;" } : Jvm.MethodName) prog_98_method_9_code (1 : Nat) (Option.some (Jvm.ClassFile.FieldType.object "java/lang/String"))).before args0 about1 = true := code_word (m := ⟨9, 3⟩) (meth := k9m3) (c := k9c3) (by decide +kernel) rfl rfl rfl (by decide +kernel)
set_option maxRecDepth 65536 in
theorem w_c11 : (Jvm.Cond.code ({ cls := "com/example/holdfast/holdfast/cli/LevelArguments$Option", name := "value", desc := "()Ljava/lang/String;" } : Jvm.MethodName) prog_98_method_10_code (1 : Nat) (Option.some (Jvm.ClassFile.FieldType.object "java/lang/String"))).before args0 about1 = true := code_word (m := ⟨9, 4⟩) (meth := k9m4) (c := k9c4) (by decide +kernel) rfl rfl rfl (by decide +kernel)
set_option maxRecDepth 65536 in
theorem w_c12 : (Jvm.Cond.code ({ cls := "com/example/holdfast/holdfast/cli/LevelArguments$Option", name := "choices", desc := "()Ljava/util/List;" } : Jvm.MethodName) prog_98_method_12_code (1 : Nat) (Option.some (Jvm.ClassFile.FieldType.object "java/util/List"))).before args0 about1 = true := code_word (m := ⟨9, 6⟩) (meth := k9m6) (c := k9c6) (by decide +kernel) rfl rfl rfl (by decide +kernel)
set_option maxRecDepth 65536 in
theorem w_c13 : (Jvm.Cond.code ({ cls := "java/lang/String", name := "equals", desc := "(Ljava/lang/Object;)Z" } : Jvm.MethodName) jdk_42_method_66_code (3 : Nat) (Option.some Jvm.ClassFile.FieldType.boolean)).before args0 about1 = true := code_word (m := ⟨7, 4⟩) (meth := k7m4) (c := k7c4) (by decide +kernel) rfl rfl rfl (by decide +kernel)
set_option maxRecDepth 65536 in
theorem w_c14 : (Jvm.Cond.code ({ cls := "java/lang/StringLatin1", name := "equals", desc := "([B[B)Z" } : Jvm.MethodName) jdk_43_method_13_code (3 : Nat) (Option.some Jvm.ClassFile.FieldType.boolean)).before args0 about1 = true := code_word (m := ⟨15, 1⟩) (meth := k15m1) (c := k15c1) (by decide +kernel) rfl rfl rfl (by decide +kernel)
set_option maxRecDepth 65536 in
theorem w_c15 : (Jvm.Cond.code ({ cls := "java/lang/String", name := "length", desc := "()I" } : Jvm.MethodName) jdk_42_method_54_code (1 : Nat) (Option.some Jvm.ClassFile.FieldType.int)).before args0 about1 = true := code_word (m := ⟨7, 2⟩) (meth := k7m2) (c := k7c2) (by decide +kernel) rfl rfl rfl (by decide +kernel)
set_option maxRecDepth 65536 in
theorem w_c16 : (Jvm.Cond.code ({ cls := "java/lang/String", name := "coder", desc := "()B" } : Jvm.MethodName) jdk_42_method_152_code (1 : Nat) (Option.some Jvm.ClassFile.FieldType.byte)).before args0 about1 = true := code_word (m := ⟨7, 6⟩) (meth := k7m6) (c := k7c6) (by decide +kernel) rfl rfl rfl (by decide +kernel)
set_option maxRecDepth 65536 in
theorem w_c17 : (Jvm.Cond.code ({ cls := "java/lang/String", name := "isEmpty", desc := "()Z" } : Jvm.MethodName) jdk_42_method_55_code (1 : Nat) (Option.some Jvm.ClassFile.FieldType.boolean)).before args0 about1 = true := code_word (m := ⟨7, 3⟩) (meth := k7m3) (c := k7c3) (by decide +kernel) rfl rfl rfl (by decide +kernel)
set_option maxRecDepth 65536 in
theorem w_c18 : (Jvm.Cond.code ({ cls := "com/example/holdfast/holdfast/cli/LevelArguments$Option", name := "required", desc := "()Z" } : Jvm.MethodName) prog_98_method_11_code (1 : Nat) (Option.some Jvm.ClassFile.FieldType.boolean)).before args0 about1 = true := code_word (m := ⟨9, 5⟩) (meth := k9m5) (c := k9c5) (by decide +kernel) rfl rfl rfl (by decide +kernel)
set_option maxRecDepth 65536 in
theorem w_c19 : (Jvm.Cond.code ({ cls := "java/util/ImmutableCollections$ListN", name := "size", desc := "()I" } : Jvm.MethodName) jdk_45_method_3_code (1 : Nat) (Option.some Jvm.ClassFile.FieldType.int)).before args0 about1 = true := code_word (m := ⟨20, 0⟩) (meth := k20m0) (c := k20c0) (by decide +kernel) rfl rfl rfl (by decide +kernel)
set_option maxRecDepth 65536 in
theorem w_c20 : (Jvm.Cond.code ({ cls := "java/lang/StringUTF16", name := "compress", desc := "([CII)[B" } : Jvm.MethodName) jdk_52_method_16_code (6 : Nat) (Option.some (Jvm.ClassFile.FieldType.array Jvm.ClassFile.FieldType.byte))).before args0 about1 = true := code_word (m := ⟨21, 2⟩) (meth := k21m2) (c := k21c2) (by decide +kernel) rfl rfl rfl (by decide +kernel)
set_option maxRecDepth 65536 in
theorem w_c21 : (Jvm.Cond.code ({ cls := "java/lang/StringUTF16", name := "compress", desc := "([CI[BII)I" } : Jvm.MethodName) jdk_52_method_21_code (7 : Nat) (Option.some Jvm.ClassFile.FieldType.int)).before args0 about1 = true := code_word (m := ⟨21, 3⟩) (meth := k21m3) (c := k21c3) (by decide +kernel) rfl rfl rfl (by decide +kernel)
set_option maxRecDepth 65536 in
theorem w_c22 : (Jvm.Cond.code ({ cls := "java/lang/StringUTF16", name := "coderFromArrayLen", desc := "([BI)B" } : Jvm.MethodName) jdk_52_method_15_code (2 : Nat) (Option.some Jvm.ClassFile.FieldType.byte)).before args0 about1 = true := code_word (m := ⟨21, 1⟩) (meth := k21m1) (c := k21c1) (by decide +kernel) rfl rfl rfl (by decide +kernel)
def codes1 : List Jvm.Cond := [Jvm.Cond.code x code maxLocals ret, Jvm.Cond.code ({ cls := "com/example/holdfast/holdfast/cli/OptionFlagPinLaw", name := "draw", desc := "(IIII)Ljava/lang/String;" } : Jvm.MethodName) method_3_code (5 : Nat) (Option.some (Jvm.ClassFile.FieldType.object "java/lang/String")), Jvm.Cond.code ({ cls := "java/lang/String", name := "<init>", desc := "([C)V" } : Jvm.MethodName) jdk_42_method_3_code (2 : Nat) (Option.none : Option Jvm.ClassFile.FieldType), Jvm.Cond.code ({ cls := "java/lang/String", name := "<init>", desc := "([CIILjava/lang/Void;)V" } : Jvm.MethodName) jdk_42_method_149_code (6 : Nat) (Option.none : Option Jvm.ClassFile.FieldType), Jvm.Cond.code ({ cls := "java/lang/Object", name := "<init>", desc := "()V" } : Jvm.MethodName) object_method_1_code (1 : Nat) (Option.none : Option Jvm.ClassFile.FieldType), Jvm.Cond.code ({ cls := "com/example/holdfast/holdfast/cli/LevelArguments$Option", name := "flag", desc := "(Ljava/lang/String;)Lcom/example/holdfast/holdfast/cli/LevelArguments$Option;" } : Jvm.MethodName) prog_98_method_3_code (1 : Nat) (Option.some (Jvm.ClassFile.FieldType.object "com/example/holdfast/holdfast/cli/LevelArguments$Option")), Jvm.Cond.code ({ cls := "com/example/holdfast/holdfast/cli/LevelArguments$Option", name := "<init>", desc := "(Ljava/lang/String;Ljava/lang/String;Z)V" } : Jvm.MethodName) prog_98_method_1_code (4 : Nat) (Option.none : Option Jvm.ClassFile.FieldType), Jvm.Cond.code ({ cls := "java/util/List", name := "of", desc := "()Ljava/util/List;" } : Jvm.MethodName) jdk_40_method_36_code (0 : Nat) (Option.some (Jvm.ClassFile.FieldType.object "java/util/List")), Jvm.Cond.code ({ cls := "com/example/holdfast/holdfast/cli/LevelArguments$Option", name := "<init>", desc := "(Ljava/lang/String;Ljava/lang/String;ZLjava/util/List;)V" } : Jvm.MethodName) prog_98_method_2_code (5 : Nat) (Option.none : Option Jvm.ClassFile.FieldType), Jvm.Cond.code ({ cls := "java/lang/Record", name := "<init>", desc := "()V" } : Jvm.MethodName) jdk_30_method_1_code (1 : Nat) (Option.none : Option Jvm.ClassFile.FieldType), Jvm.Cond.code ({ cls := "com/example/holdfast/holdfast/cli/LevelArguments$Option", name := "name", desc := "()Ljava/lang/String;" } : Jvm.MethodName) prog_98_method_9_code (1 : Nat) (Option.some (Jvm.ClassFile.FieldType.object "java/lang/String")), Jvm.Cond.code ({ cls := "com/example/holdfast/holdfast/cli/LevelArguments$Option", name := "value", desc := "()Ljava/lang/String;" } : Jvm.MethodName) prog_98_method_10_code (1 : Nat) (Option.some (Jvm.ClassFile.FieldType.object "java/lang/String")), Jvm.Cond.code ({ cls := "com/example/holdfast/holdfast/cli/LevelArguments$Option", name := "choices", desc := "()Ljava/util/List;" } : Jvm.MethodName) prog_98_method_12_code (1 : Nat) (Option.some (Jvm.ClassFile.FieldType.object "java/util/List")), Jvm.Cond.code ({ cls := "java/lang/String", name := "equals", desc := "(Ljava/lang/Object;)Z" } : Jvm.MethodName) jdk_42_method_66_code (3 : Nat) (Option.some Jvm.ClassFile.FieldType.boolean), Jvm.Cond.code ({ cls := "java/lang/StringLatin1", name := "equals", desc := "([B[B)Z" } : Jvm.MethodName) jdk_43_method_13_code (3 : Nat) (Option.some Jvm.ClassFile.FieldType.boolean), Jvm.Cond.code ({ cls := "java/lang/String", name := "length", desc := "()I" } : Jvm.MethodName) jdk_42_method_54_code (1 : Nat) (Option.some Jvm.ClassFile.FieldType.int), Jvm.Cond.code ({ cls := "java/lang/String", name := "coder", desc := "()B" } : Jvm.MethodName) jdk_42_method_152_code (1 : Nat) (Option.some Jvm.ClassFile.FieldType.byte), Jvm.Cond.code ({ cls := "java/lang/String", name := "isEmpty", desc := "()Z" } : Jvm.MethodName) jdk_42_method_55_code (1 : Nat) (Option.some Jvm.ClassFile.FieldType.boolean), Jvm.Cond.code ({ cls := "com/example/holdfast/holdfast/cli/LevelArguments$Option", name := "required", desc := "()Z" } : Jvm.MethodName) prog_98_method_11_code (1 : Nat) (Option.some Jvm.ClassFile.FieldType.boolean), Jvm.Cond.code ({ cls := "java/util/ImmutableCollections$ListN", name := "size", desc := "()I" } : Jvm.MethodName) jdk_45_method_3_code (1 : Nat) (Option.some Jvm.ClassFile.FieldType.int), Jvm.Cond.code ({ cls := "java/lang/StringUTF16", name := "compress", desc := "([CII)[B" } : Jvm.MethodName) jdk_52_method_16_code (6 : Nat) (Option.some (Jvm.ClassFile.FieldType.array Jvm.ClassFile.FieldType.byte)), Jvm.Cond.code ({ cls := "java/lang/StringUTF16", name := "compress", desc := "([CI[BII)I" } : Jvm.MethodName) jdk_52_method_21_code (7 : Nat) (Option.some Jvm.ClassFile.FieldType.int), Jvm.Cond.code ({ cls := "java/lang/StringUTF16", name := "coderFromArrayLen", desc := "([BI)B" } : Jvm.MethodName) jdk_52_method_15_code (2 : Nat) (Option.some Jvm.ClassFile.FieldType.byte)]
set_option maxRecDepth 65536 in
theorem codes_eq : words1.filter isCode = codes1 := rfl
theorem w_codes : ∀ c ∈ words1.filter isCode, c.before args0 about1 = true := by
  rw [codes_eq]
  intro c hc
  simp only [codes1, List.mem_cons, List.not_mem_nil, or_false] at hc
  rcases hc with rfl | rfl | rfl | rfl | rfl | rfl | rfl | rfl | rfl | rfl | rfl | rfl | rfl | rfl | rfl | rfl | rfl | rfl | rfl | rfl | rfl | rfl | rfl
  · exact w_c0
  · exact w_c1
  · exact w_c2
  · exact w_c3
  · exact w_c4
  · exact w_c5
  · exact w_c6
  · exact w_c7
  · exact w_c8
  · exact w_c9
  · exact w_c10
  · exact w_c11
  · exact w_c12
  · exact w_c13
  · exact w_c14
  · exact w_c15
  · exact w_c16
  · exact w_c17
  · exact w_c18
  · exact w_c19
  · exact w_c20
  · exact w_c21
  · exact w_c22
set_option maxRecDepth 65536 in
theorem w_t1 : (words1.take 24).all (fun c => isCode c || c.before args0 about1) = true := by decide +kernel
set_option maxRecDepth 65536 in
theorem w_t2 : ((words1.drop 24).take 24).all (fun c => isCode c || c.before args0 about1) = true := by decide +kernel
set_option maxRecDepth 65536 in
theorem w_t3 : (((words1.drop 24).drop 24).take 24).all (fun c => isCode c || c.before args0 about1) = true := by decide +kernel
set_option maxRecDepth 65536 in
theorem w_t4 : ((((words1.drop 24).drop 24).drop 24).take 24).all (fun c => isCode c || c.before args0 about1) = true := by decide +kernel
set_option maxRecDepth 65536 in
theorem w_t5 : (((((words1.drop 24).drop 24).drop 24).drop 24).take 24).all (fun c => isCode c || c.before args0 about1) = true := by decide +kernel
set_option maxRecDepth 65536 in
theorem w_t6 : (((((words1.drop 24).drop 24).drop 24).drop 24).drop 24).all (fun c => isCode c || c.before args0 about1) = true := by decide +kernel
theorem w_tables : (allAtoms (Jvm.Cond.code x code maxLocals ret :: tables_1)).before args0 about1 = true := by
  rw [allAtoms_all]
  show words1.all (fun c => c.before args0 about1) = true
  refine all_split ?_ w_codes
  rw [← List.take_append_drop 24 words1, List.all_append, w_t1, ← List.take_append_drop 24 (words1.drop 24), List.all_append, w_t2, ← List.take_append_drop 24 ((words1.drop 24).drop 24), List.all_append, w_t3, ← List.take_append_drop 24 (((words1.drop 24).drop 24).drop 24), List.all_append, w_t4, ← List.take_append_drop 24 ((((words1.drop 24).drop 24).drop 24).drop 24), List.all_append, w_t5, w_t6]
  rfl
set_option maxRecDepth 65536 in
theorem w_rest : rest_1_c.before args0 about1 = true := by decide +kernel
set_option maxRecDepth 65536 in
theorem w_case : (Jvm.Cond.and given_1 narrow_1).before args0 about1 = true := by decide +kernel
set_option maxRecDepth 65536 in
theorem w_consts : constsHeld consts_1 about1 := Jvm.Lit.constsHeldB_iff.mp (by decide +kernel)
theorem w_applies : (headSpec (Jvm.Cond.code x code maxLocals ret :: tables_1) room_1).applies x e0.platform about1 = true :=
  (Spec.applies_iff w_frames).mpr ⟨w_running, w_runnable, w_alone, w_named, w_hears, w_ripe, w_room, w_tables⟩
theorem atStart : AtStart classFile x code maxLocals ret World_1 tables_1 room_1 Calls_1 rest_1 Pre_1 launch0 p0 e0 about1 theMethod args0 below0 :=
  ⟨lists_1, trivial, launch0.admits_env _ _ _, launch0.least_env, fairChoices_fair.cas, fairChoices_fair.clock, w_frames, w_args, w_heap, w_applies, ⟨w_consts, trivial⟩, w_rest, w_case⟩
end start1
theorem witness_1 : WitnessClaimed_1 := ⟨start1.p0, start1.e0, start1.about1, start1.theMethod, start1.args0, start1.below0, start1.atStart⟩
end Jvm.Pilot.@@N@@
