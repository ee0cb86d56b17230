import JvmDerived
import JvmDerived.Pilot.@@N@@Statement
import JvmDerived.Pilot.@@N@@Code
set_option linter.unusedVariables false
set_option linter.unusedSimpArgs false
namespace Jvm.Pilot.@@N@@
open Jvm Jvm.ClassFile Sem Op Lib Jvm.Free Jvm.Stand Jvm.LawKit Jvm.RoadKit Bundle Jvm.Pilot.@@N@@.Jvm.D
section Own
variable {p : Program} {l : Launch} {e : Env} {R : Room} {s : State} {m : MethodId} {args : Array Value} {below : List Frame} {meth : Method} {c : Code} {T T' : State} {cells slots : Nat} {Z : State} {bytes : ByteArray} {mL : Nat} {ret : Option FieldType} {own nm : String} {Q : Option Value → Heap → Prop} {cC cS : Nat} {pc : Nat} {Ls : Array Slot} {st : List Value} {a0 : Array Value} {g g' : JFrame}
/-- the walk stands at T, so many cells and slots made, nothing old written -/
def Wk (l : Launch) (Z : State) (R : Room) (bytes : ByteArray) (mL : Nat) (ret : Option FieldType) (own nm : String) (p : Program) (e : Env) (s : State) (m : MethodId) (args : Array Value) (below : List Frame) (meth : Method) (c : Code) (T : State) (cells slots : Nat) : Prop :=
  (p.tables.exec = Jvm.exec ∧ c.code = bytes ∧ c.maxLocals = mL ∧ meth.sig.returnType = ret ∧ meth.locks = false ∧ s.vm.findClass own = some m.cls ∧ meth.name = nm ∧ Z.Warmed39 s.vm) ∧
  ∃ locs, Stand p l e R s m args below meth c T locs cells slots ∧ Fr Z.heap.size locs ∧ Ext Z.heap T.heap
/-- from T with frame g the method comes to its end, and Q holds there -/
def Ends (p : Program) (e : Env) (below : List Frame) (s : State) (Z : State) (Q : Option Value → Heap → Prop) (cC cS : Nat) (T : State) (g : JFrame) : Prop :=
  ∃ t o, Steps p.tables e below (T.setTop g) t ∧ t.status = .running ∧ Ended t below o ∧ ∃ v L, o = .returned v ∧ (Fr Z.heap.size L ∧ Ext Z.heap t.heap ∧ Q v t.heap) ∧ FrameEnd s o t L cC cS
/-- a method's contract -/
def Ct (l : Launch) (Z : State) (y : MethodName) (bytes : ByteArray) (mL : Nat) (ret : Option FieldType) (rm : Room) (as' : Array Value) (h : Heap) (Q : Option Value → Heap → Prop) : Prop :=
  ∀ ws, MetFree l y (head1 (Jvm.Cond.code y bytes mL ret :: ws) rm) (fun a U => a = as' ∧ Z.Warmed39 U.vm ∧ U.heap = h) (fun _ _ _ _ _ => True) (fun _ U o U' => ∃ v L, o = .returned v ∧ (Fr Z.heap.size L ∧ Ext Z.heap U'.heap ∧ Q v U'.heap) ∧ FrameEnd U o U' L rm.cells rm.slots)
theorem Wk.hx (X : Wk l Z R bytes mL ret own nm p e s m args below meth c T cells slots) : p.tables.exec = Jvm.exec := X.1.1
theorem Wk.hb (X : Wk l Z R bytes mL ret own nm p e s m args below meth c T cells slots) {pc : Nat} {r : Except DecodeError (Instr × Nat)} (h : decode bytes pc = r) : decode c.code pc = r := X.1.2.1 ▸ h
theorem Wk.hown (X : Wk l Z R bytes mL ret own nm p e s m args below meth c T cells slots) : s.vm.findClass own = some m.cls := X.1.2.2.2.2.2.1
theorem Wk.hZ (X : Wk l Z R bytes mL ret own nm p e s m args below meth c T cells slots) : Z.Warmed39 s.vm := X.1.2.2.2.2.2.2.2
theorem Wk.at (X : Wk l Z R bytes mL ret own nm p e s m args below meth c T cells slots) : At T m c below := by obtain ⟨-, _, X, -⟩ := X; exact X.here
theorem Wk.old (X : Wk l Z R bytes mL ret own nm p e s m args below meth c T cells slots) : Ext Z.heap T.heap := by obtain ⟨-, _, -, -, X⟩ := X; exact X
theorem Wk.le (X : Wk l Z R bytes mL ret own nm p e s m args below meth c T cells slots) : Z.heap.size ≤ T.heap.size := X.old.1
theorem Wk.size (X : Wk l Z R bytes mL ret own nm p e s m args below meth c T cells slots) (h : Ls.size = mL) {pc : Nat} {st : List Value} : (mkF m pc Ls st).locals.size = c.maxLocals := h.trans X.1.2.2.1.symm
theorem Wk.more (X : Wk l Z R bytes mL ret own nm p e s m args below meth c T cells slots) {cells' slots' : Nat} (h1 : cells ≤ cells') (h2 : slots ≤ slots') : Wk l Z R bytes mL ret own nm p e s m args below meth c T cells' slots' := by
  obtain ⟨q, locs, Y, r⟩ := X; exact ⟨q, locs, Y.more h1 h2, r⟩
theorem E_by (f : ∀ target, Steps p.tables e below (T'.setTop g') target → Steps p.tables e below (T.setTop g) target) (k : Ends p e below s Z Q cC cS T' g') : Ends p e below s Z Q cC cS T g := by
  obtain ⟨t, o, h1, r⟩ := k; exact ⟨t, o, f _ h1, r⟩
theorem E_tr (f : Steps p.tables e below (T.setTop g) (T'.setTop g')) (k : Ends p e below s Z Q cC cS T' g') : Ends p e below s Z Q cC cS T g := E_by (fun _ q => f.trans q) k
theorem Keep.of_ext {h h' : Heap} (E : Ext h h') : Keep h h' [] := (Keep.refl h []).ext E
theorem own_keq {h h1 h2 : Heap} {ws : List Addr} (K : Keep h h1 ws) (q : h2 = h1) : Keep h h2 ws := q ▸ K
theorem Keep.old {h h' : Heap} {ws : List Addr} (O : Ext Z.heap h) (K : Keep h h' ws) (q : ∀ x ∈ ws, Z.heap.size ≤ x) : Ext Z.heap h' := ⟨Nat.le_trans O.1 K.1, fun x c r => K.2.1 x c (O.2 x c r) fun z => absurd (Array.getElem?_eq_some_iff.mp r).1 (Nat.not_lt.mpr (q x z))⟩
theorem Ct.of_body {y1 y2 y3 : String} {rm : Room} {as' : Array Value} {h : Heap} (pn : plainFor ⟨y1, y2, y3⟩ = true) (O : Ext Z.heap h) (ef : ∀ m, entryFrame m as' mL = mkF m 0 Ls [])
    (k : ∀ {p : Program} {e : Env} {s : State} {m : MethodId} {below : List Frame} {meth : Method} {c : Code} {T : State}, Wk l Z rm bytes mL ret y1 y2 p e s m as' below meth c T 0 0 → T.heap = h → Ends p e below s Z Q rm.cells rm.slots T (mkF m 0 Ls [])) : Ct l Z ⟨y1, y2, y3⟩ bytes mL ret rm as' h Q := by
  intro ws
  refine MetFree.of_bodySF pn hisR ?_
  intro p e s m args below meth c s₁ Bd hml0 hP hK
  obtain ⟨rfl, hZ, hh⟩ := hP
  have e0 : s₁.heap = h := by rw [← hh, Bd.state]; rfl
  have X : Wk l Z rm bytes mL ret y1 y2 p e s m args below meth c s₁ 0 0 := ⟨⟨Bd.exec, Bd.bytes, hml0, Bd.returns, Bd.notSynchronized, findClass_of_methodNamed Bd.named, (name_of_methodNamed Bd.named Bd.method).1, hZ⟩, [], Stand.of_body Bd, Fr.nil _, e0 ▸ O⟩
  obtain ⟨t, o, h1, r⟩ := k X e0
  exact ⟨t, o, castTop (ef m) h1, r⟩
theorem Ct.back {y : MethodName} {rm : Room} {as' : Array Value} {h : Heap} {mL' : Nat} {bytes' : ByteArray} {ret' : Option FieldType} {Q' : Option Value → Heap → Prop} (hC : Ct l Z y bytes' mL' ret' rm as' h Q') {len W : Nat}
    (hZ : Z.Warmed39 s.vm) (wc : (Jvm.Cond.code y bytes' mL' ret').before a0 Z = true) (wz : (Jvm.Cond.initialized y.cls).before a0 Z = true) (hf : rm.frames + 1 ≤ R.frames) (hl : W + (mL' + 11) + rm.locals ≤ R.locals) :
    Back l R p e below s args y len W (fun A a => a = as' ∧ A.U.heap = h ∧ A.cells + rm.cells ≤ R.cells ∧ A.slots + rm.slots ≤ R.slots)
      (fun A _ v B => ∃ L, (Fr Z.heap.size L ∧ Ext Z.heap B.U.heap ∧ Q' v B.U.heap) ∧ B.locs = A.locs ++ L ∧ B.cells = A.cells + rm.cells ∧ B.slots = A.slots + rm.slots) :=
  backOf (Q := fun v h L => Fr Z.heap.size L ∧ Ext Z.heap h ∧ Q' v h) (hC []) hZ wc wz hf hl

theorem E_aloadN (X : Wk l Z R bytes mL ret own nm p e s m args below meth c T cells slots) {j : Fin 4} {v : Value} (hd : decode bytes pc = .ok (.aload_n j, 1)) (hl : Ls[j.val]? = some (.val v)) (hv : v.isRef = true) {pc' : Nat} (hp : pc + 1 = pc') (k : Ends p e below s Z Q cC cS T (mkF m pc' Ls (v :: st))) : Ends p e below s Z Q cC cS T (mkF m pc Ls (st)) := by
  subst hp; exact E_by (fun _ q => XS.aloadN X.at X.hx rfl (X.hb hd) hl hv q) k
theorem E_aload (X : Wk l Z R bytes mL ret own nm p e s m args below meth c T cells slots) {j : Nat} {v : Value} (hd : decode bytes pc = .ok (.aload j, 2)) (hl : Ls[j]? = some (.val v)) (hv : v.isRef = true) {pc' : Nat} (hp : pc + 2 = pc') (k : Ends p e below s Z Q cC cS T (mkF m pc' Ls (v :: st))) : Ends p e below s Z Q cC cS T (mkF m pc Ls (st)) := by
  subst hp; exact E_by (fun _ q => XS.aload X.at X.hx rfl (X.hb hd) hl hv q) k
theorem E_iloadN (X : Wk l Z R bytes mL ret own nm p e s m args below meth c T cells slots) {j : Fin 4} {v : Int32} (hd : decode bytes pc = .ok (.iload_n j, 1)) (hl : Ls[j.val]? = some (.val (.int v))) {pc' : Nat} (hp : pc + 1 = pc') (k : Ends p e below s Z Q cC cS T (mkF m pc' Ls (.int v :: st))) : Ends p e below s Z Q cC cS T (mkF m pc Ls (st)) := by
  subst hp; exact E_by (fun _ q => XS.iloadN X.at X.hx rfl (X.hb hd) hl q) k
theorem E_iload (X : Wk l Z R bytes mL ret own nm p e s m args below meth c T cells slots) {j : Nat} {v : Int32} (hd : decode bytes pc = .ok (.iload j, 2)) (hl : Ls[j]? = some (.val (.int v))) {pc' : Nat} (hp : pc + 2 = pc') (k : Ends p e below s Z Q cC cS T (mkF m pc' Ls (.int v :: st))) : Ends p e below s Z Q cC cS T (mkF m pc Ls (st)) := by
  subst hp; exact E_by (fun _ q => XS.iload X.at X.hx rfl (X.hb hd) hl q) k
theorem E_aconstNull (X : Wk l Z R bytes mL ret own nm p e s m args below meth c T cells slots) (hd : decode bytes pc = .ok (.aconst_null, 1)) {pc' : Nat} (hp : pc + 1 = pc') (k : Ends p e below s Z Q cC cS T (mkF m pc' Ls (.null :: st))) : Ends p e below s Z Q cC cS T (mkF m pc Ls (st)) := by
  subst hp; exact E_by (fun _ q => XS.aconstNull X.at X.hx rfl (X.hb hd) q) k
theorem E_iconst (X : Wk l Z R bytes mL ret own nm p e s m args below meth c T cells slots) {i : Int} {v : Int32} (hd : decode bytes pc = .ok (.iconst i, 1)) (hv : Int32.ofInt i = v) {pc' : Nat} (hp : pc + 1 = pc') (k : Ends p e below s Z Q cC cS T (mkF m pc' Ls (.int v :: st))) : Ends p e below s Z Q cC cS T (mkF m pc Ls st) := by
  subst hp hv; exact E_by (fun _ q => XS.iconst X.at X.hx rfl (X.hb hd) q) k
theorem E_bipush (X : Wk l Z R bytes mL ret own nm p e s m args below meth c T cells slots) {i : Int} {v : Int32} (hd : decode bytes pc = .ok (.bipush i, 2)) (hv : (Int8.ofInt i).toInt32 = v) {pc' : Nat} (hp : pc + 2 = pc') (k : Ends p e below s Z Q cC cS T (mkF m pc' Ls (.int v :: st))) : Ends p e below s Z Q cC cS T (mkF m pc Ls st) := by
  subst hp hv; exact E_by (fun _ q => XS.bipush X.at X.hx rfl (X.hb hd) q) k
theorem E_sipush (X : Wk l Z R bytes mL ret own nm p e s m args below meth c T cells slots) {i : Int} {v : Int32} (hd : decode bytes pc = .ok (.sipush i, 3)) (hv : (Int16.ofInt i).toInt32 = v) {pc' : Nat} (hp : pc + 3 = pc') (k : Ends p e below s Z Q cC cS T (mkF m pc' Ls (.int v :: st))) : Ends p e below s Z Q cC cS T (mkF m pc Ls st) := by
  subst hp hv; exact E_by (fun _ q => XS.sipush X.at X.hx rfl (X.hb hd) q) k
theorem E_iadd (X : Wk l Z R bytes mL ret own nm p e s m args below meth c T cells slots) {x y v : Int32} (hd : decode bytes pc = .ok (.iadd, 1)) (hv : x + y = v) {pc' : Nat} (hp : pc + 1 = pc') (k : Ends p e below s Z Q cC cS T (mkF m pc' Ls (.int v :: st))) : Ends p e below s Z Q cC cS T (mkF m pc Ls (.int y :: .int x :: st)) := by
  subst hp hv; exact E_by (fun _ q => XS.iadd X.at X.hx rfl (X.hb hd) rfl q) k
theorem E_isub (X : Wk l Z R bytes mL ret own nm p e s m args below meth c T cells slots) {x y v : Int32} (hd : decode bytes pc = .ok (.isub, 1)) (hv : x - y = v) {pc' : Nat} (hp : pc + 1 = pc') (k : Ends p e below s Z Q cC cS T (mkF m pc' Ls (.int v :: st))) : Ends p e below s Z Q cC cS T (mkF m pc Ls (.int y :: .int x :: st)) := by
  subst hp hv; exact E_by (fun _ q => XS.isub X.at X.hx rfl (X.hb hd) rfl q) k
theorem E_imul (X : Wk l Z R bytes mL ret own nm p e s m args below meth c T cells slots) {x y v : Int32} (hd : decode bytes pc = .ok (.imul, 1)) (hv : x * y = v) {pc' : Nat} (hp : pc + 1 = pc') (k : Ends p e below s Z Q cC cS T (mkF m pc' Ls (.int v :: st))) : Ends p e below s Z Q cC cS T (mkF m pc Ls (.int y :: .int x :: st)) := by
  subst hp hv; exact E_by (fun _ q => XS.imul X.at X.hx rfl (X.hb hd) rfl q) k
theorem E_iand (X : Wk l Z R bytes mL ret own nm p e s m args below meth c T cells slots) {x y v : Int32} (hd : decode bytes pc = .ok (.iand, 1)) (hv : x &&& y = v) {pc' : Nat} (hp : pc + 1 = pc') (k : Ends p e below s Z Q cC cS T (mkF m pc' Ls (.int v :: st))) : Ends p e below s Z Q cC cS T (mkF m pc Ls (.int y :: .int x :: st)) := by
  subst hp hv; exact E_by (fun _ q => XS.iand X.at X.hx rfl (X.hb hd) rfl q) k
theorem E_ior (X : Wk l Z R bytes mL ret own nm p e s m args below meth c T cells slots) {x y v : Int32} (hd : decode bytes pc = .ok (.ior, 1)) (hv : x ||| y = v) {pc' : Nat} (hp : pc + 1 = pc') (k : Ends p e below s Z Q cC cS T (mkF m pc' Ls (.int v :: st))) : Ends p e below s Z Q cC cS T (mkF m pc Ls (.int y :: .int x :: st)) := by
  subst hp hv; exact E_by (fun _ q => XS.ior X.at X.hx rfl (X.hb hd) rfl q) k
theorem E_ixor (X : Wk l Z R bytes mL ret own nm p e s m args below meth c T cells slots) {x y v : Int32} (hd : decode bytes pc = .ok (.ixor, 1)) (hv : x ^^^ y = v) {pc' : Nat} (hp : pc + 1 = pc') (k : Ends p e below s Z Q cC cS T (mkF m pc' Ls (.int v :: st))) : Ends p e below s Z Q cC cS T (mkF m pc Ls (.int y :: .int x :: st)) := by
  subst hp hv; exact E_by (fun _ q => XS.ixor X.at X.hx rfl (X.hb hd) rfl q) k
theorem E_ishl (X : Wk l Z R bytes mL ret own nm p e s m args below meth c T cells slots) {x y v : Int32} (hd : decode bytes pc = .ok (.ishl, 1)) (hv : x <<< (y &&& 31) = v) {pc' : Nat} (hp : pc + 1 = pc') (k : Ends p e below s Z Q cC cS T (mkF m pc' Ls (.int v :: st))) : Ends p e below s Z Q cC cS T (mkF m pc Ls (.int y :: .int x :: st)) := by
  subst hp hv; exact E_by (fun _ q => XS.ishl X.at X.hx rfl (X.hb hd) rfl q) k
theorem E_ishr (X : Wk l Z R bytes mL ret own nm p e s m args below meth c T cells slots) {x y v : Int32} (hd : decode bytes pc = .ok (.ishr, 1)) (hv : x >>> (y &&& 31) = v) {pc' : Nat} (hp : pc + 1 = pc') (k : Ends p e below s Z Q cC cS T (mkF m pc' Ls (.int v :: st))) : Ends p e below s Z Q cC cS T (mkF m pc Ls (.int y :: .int x :: st)) := by
  subst hp hv; exact E_by (fun _ q => XS.ishr X.at X.hx rfl (X.hb hd) rfl q) k
theorem E_iushr (X : Wk l Z R bytes mL ret own nm p e s m args below meth c T cells slots) {x y v : Int32} (hd : decode bytes pc = .ok (.iushr, 1)) (hv : (x.toUInt32 >>> (y &&& 31).toUInt32).toInt32 = v) {pc' : Nat} (hp : pc + 1 = pc') (k : Ends p e below s Z Q cC cS T (mkF m pc' Ls (.int v :: st))) : Ends p e below s Z Q cC cS T (mkF m pc Ls (.int y :: .int x :: st)) := by
  subst hp hv; exact E_by (fun _ q => XS.iushr X.at X.hx rfl (X.hb hd) rfl q) k
theorem E_ineg (X : Wk l Z R bytes mL ret own nm p e s m args below meth c T cells slots) {x v : Int32} (hd : decode bytes pc = .ok (.ineg, 1)) (hv : -x = v) {pc' : Nat} (hp : pc + 1 = pc') (k : Ends p e below s Z Q cC cS T (mkF m pc' Ls (.int v :: st))) : Ends p e below s Z Q cC cS T (mkF m pc Ls (.int x :: st)) := by
  subst hp hv; exact E_by (fun _ q => XS.ineg X.at X.hx rfl (X.hb hd) rfl q) k
theorem E_i2c (X : Wk l Z R bytes mL ret own nm p e s m args below meth c T cells slots) {x v : Int32} (hd : decode bytes pc = .ok (.i2c, 1)) (hv : x.toUInt32.toUInt16.toUInt32.toInt32 = v) {pc' : Nat} (hp : pc + 1 = pc') (k : Ends p e below s Z Q cC cS T (mkF m pc' Ls (.int v :: st))) : Ends p e below s Z Q cC cS T (mkF m pc Ls (.int x :: st)) := by
  subst hp hv; exact E_by (fun _ q => XS.i2c X.at X.hx rfl (X.hb hd) rfl q) k
theorem E_i2b (X : Wk l Z R bytes mL ret own nm p e s m args below meth c T cells slots) {x v : Int32} (hd : decode bytes pc = .ok (.i2b, 1)) (hv : x.toInt8.toInt32 = v) {pc' : Nat} (hp : pc + 1 = pc') (k : Ends p e below s Z Q cC cS T (mkF m pc' Ls (.int v :: st))) : Ends p e below s Z Q cC cS T (mkF m pc Ls (.int x :: st)) := by
  subst hp hv; exact E_by (fun _ q => XS.i2b X.at X.hx rfl (X.hb hd) rfl q) k
theorem E_i2s (X : Wk l Z R bytes mL ret own nm p e s m args below meth c T cells slots) {x v : Int32} (hd : decode bytes pc = .ok (.i2s, 1)) (hv : x.toInt16.toInt32 = v) {pc' : Nat} (hp : pc + 1 = pc') (k : Ends p e below s Z Q cC cS T (mkF m pc' Ls (.int v :: st))) : Ends p e below s Z Q cC cS T (mkF m pc Ls (.int x :: st)) := by
  subst hp hv; exact E_by (fun _ q => XS.i2s X.at X.hx rfl (X.hb hd) rfl q) k
theorem E_dup (X : Wk l Z R bytes mL ret own nm p e s m args below meth c T cells slots) {v : Value} (hd : decode bytes pc = .ok (.dup, 1)) (hc : v.category = 1) {pc' : Nat} (hp : pc + 1 = pc') (k : Ends p e below s Z Q cC cS T (mkF m pc' Ls (v :: v :: st))) : Ends p e below s Z Q cC cS T (mkF m pc Ls (v :: st)) := by
  subst hp; exact E_by (fun _ q => XS.dup X.at X.hx rfl (X.hb hd) rfl hc q) k
theorem E_pop (X : Wk l Z R bytes mL ret own nm p e s m args below meth c T cells slots) {v : Value} (hd : decode bytes pc = .ok (.pop, 1)) (hc : v.category = 1) {pc' : Nat} (hp : pc + 1 = pc') (k : Ends p e below s Z Q cC cS T (mkF m pc' Ls (st))) : Ends p e below s Z Q cC cS T (mkF m pc Ls (v :: st)) := by
  subst hp; exact E_by (fun _ q => XS.pop X.at X.hx rfl (X.hb hd) rfl hc q) k
theorem E_istoreN (X : Wk l Z R bytes mL ret own nm p e s m args below meth c T cells slots) {j : Fin 4} {x : Int32} (hd : decode bytes pc = .ok (.istore_n j, 1)) {l' : Array Slot} (hl : storeLocals Ls j.val (.int x) = some l') {pc' : Nat} (hp : pc + 1 = pc') (k : Ends p e below s Z Q cC cS T (mkF m pc' l' (st))) : Ends p e below s Z Q cC cS T (mkF m pc Ls (.int x :: st)) := by
  subst hp; exact E_by (fun _ q => XS.istoreN X.at X.hx rfl (X.hb hd) rfl hl q) k
theorem E_istore (X : Wk l Z R bytes mL ret own nm p e s m args below meth c T cells slots) {j : Nat} {x : Int32} (hd : decode bytes pc = .ok (.istore j, 2)) {l' : Array Slot} (hl : storeLocals Ls j (.int x) = some l') {pc' : Nat} (hp : pc + 2 = pc') (k : Ends p e below s Z Q cC cS T (mkF m pc' l' (st))) : Ends p e below s Z Q cC cS T (mkF m pc Ls (.int x :: st)) := by
  subst hp; exact E_by (fun _ q => XS.istore X.at X.hx rfl (X.hb hd) rfl hl q) k
theorem E_astoreN (X : Wk l Z R bytes mL ret own nm p e s m args below meth c T cells slots) {j : Fin 4} {x : Value} (hd : decode bytes pc = .ok (.astore_n j, 1)) (hv : x.isRef = true) {l' : Array Slot} (hl : storeLocals Ls j.val x = some l') {pc' : Nat} (hp : pc + 1 = pc') (k : Ends p e below s Z Q cC cS T (mkF m pc' l' (st))) : Ends p e below s Z Q cC cS T (mkF m pc Ls (x :: st)) := by
  subst hp; exact E_by (fun _ q => XS.astoreN X.at X.hx rfl (X.hb hd) rfl hv hl q) k
theorem E_astore (X : Wk l Z R bytes mL ret own nm p e s m args below meth c T cells slots) {j : Nat} {x : Value} (hd : decode bytes pc = .ok (.astore j, 2)) (hv : x.isRef = true) {l' : Array Slot} (hl : storeLocals Ls j x = some l') {pc' : Nat} (hp : pc + 2 = pc') (k : Ends p e below s Z Q cC cS T (mkF m pc' l' (st))) : Ends p e below s Z Q cC cS T (mkF m pc Ls (x :: st)) := by
  subst hp; exact E_by (fun _ q => XS.astore X.at X.hx rfl (X.hb hd) rfl hv hl q) k
theorem E_iinc (X : Wk l Z R bytes mL ret own nm p e s m args below meth c T cells slots) {j : Nat} {i : Int} {x y : Int32} (hd : decode bytes pc = .ok (.iinc j i, 3)) (hy : x + Int32.ofInt i = y) (hl : Ls[j]? = some (.val (.int x))) {l' : Array Slot} (hl' : storeLocals Ls j (.int y) = some l') {pc' : Nat} (hp : pc + 3 = pc') (k : Ends p e below s Z Q cC cS T (mkF m pc' l' st)) : Ends p e below s Z Q cC cS T (mkF m pc Ls st) := by
  subst hp hy; exact E_by (fun _ q => XS.iinc X.at X.hx rfl (X.hb hd) hl hl' q) k
theorem E_irem (X : Wk l Z R bytes mL ret own nm p e s m args below meth c T cells slots) {x y v : Int32} (hd : decode bytes pc = .ok (.irem, 1)) (hy : y ≠ 0) (hv : x % y = v) {pc' : Nat} (hp : pc + 1 = pc') (k : Ends p e below s Z Q cC cS T (mkF m pc' Ls (.int v :: st))) : Ends p e below s Z Q cC cS T (mkF m pc Ls (.int y :: .int x :: st)) := by
  subst hp hv; obtain ⟨q, locs, Y, r⟩ := id X; exact E_by (fun _ k => iremM Y X.hx rfl (X.hb hd) rfl hy k) k
theorem E_idiv (X : Wk l Z R bytes mL ret own nm p e s m args below meth c T cells slots) {x y v : Int32} (hd : decode bytes pc = .ok (.idiv, 1)) (hy : y ≠ 0) (hv : x / y = v) {pc' : Nat} (hp : pc + 1 = pc') (k : Ends p e below s Z Q cC cS T (mkF m pc' Ls (.int v :: st))) : Ends p e below s Z Q cC cS T (mkF m pc Ls (.int y :: .int x :: st)) := by
  subst hp hv; exact E_by (fun _ k => XS.idiv X.at X.hx rfl (X.hb hd) rfl hy k) k
theorem E_goto (X : Wk l Z R bytes mL ret own nm p e s m args below meth c T cells slots) {o : Int} (hd : decode bytes pc = .ok (.goto o, 3)) {pc' : Nat} (ho : 0 ≤ (pc : Int) + o) (hp : ((pc : Int) + o).toNat = pc') (k : Ends p e below s Z Q cC cS T (mkF m pc' Ls st)) : Ends p e below s Z Q cC cS T (mkF m pc Ls st) :=
  E_by (fun _ q => XS.goto X.at X.hx rfl (pc0 := pc) rfl (X.hb hd) ho hp q) k
theorem E_ifT (X : Wk l Z R bytes mL ret own nm p e s m args below meth c T cells slots) {cd : ClassFile.Cond} {o : Int} {x : Int32} (hd : decode bytes pc = .ok (.ifCond cd o, 3)) (hc : ifCond.holds cd x = true) {pc' : Nat} (ho : 0 ≤ (pc : Int) + o) (hp : ((pc : Int) + o).toNat = pc') (k : Ends p e below s Z Q cC cS T (mkF m pc' Ls st)) : Ends p e below s Z Q cC cS T (mkF m pc Ls (.int x :: st)) :=
  E_by (fun _ q => XS.ifYes X.at X.hx rfl (pc0 := pc) rfl (X.hb hd) rfl hc ho hp q) k
theorem E_ifF (X : Wk l Z R bytes mL ret own nm p e s m args below meth c T cells slots) {cd : ClassFile.Cond} {o : Int} {x : Int32} (hd : decode bytes pc = .ok (.ifCond cd o, 3)) (hc : ifCond.holds cd x = false) {pc' : Nat} (hp : pc + 3 = pc') (k : Ends p e below s Z Q cC cS T (mkF m pc' Ls st)) : Ends p e below s Z Q cC cS T (mkF m pc Ls (.int x :: st)) := by
  subst hp; exact E_by (fun _ q => XS.ifNo X.at X.hx rfl (X.hb hd) rfl hc q) k
theorem E_icT (X : Wk l Z R bytes mL ret own nm p e s m args below meth c T cells slots) {cd : ClassFile.Cond} {o : Int} {x y : Int32} (hd : decode bytes pc = .ok (.if_icmp cd o, 3)) (hc : if_icmp.holds cd x y = true) {pc' : Nat} (ho : 0 ≤ (pc : Int) + o) (hp : ((pc : Int) + o).toNat = pc') (k : Ends p e below s Z Q cC cS T (mkF m pc' Ls st)) : Ends p e below s Z Q cC cS T (mkF m pc Ls (.int y :: .int x :: st)) :=
  E_by (fun _ q => XS.icmpYes X.at X.hx rfl (pc0 := pc) rfl (X.hb hd) rfl hc ho hp q) k
theorem E_icF (X : Wk l Z R bytes mL ret own nm p e s m args below meth c T cells slots) {cd : ClassFile.Cond} {o : Int} {x y : Int32} (hd : decode bytes pc = .ok (.if_icmp cd o, 3)) (hc : if_icmp.holds cd x y = false) {pc' : Nat} (hp : pc + 3 = pc') (k : Ends p e below s Z Q cC cS T (mkF m pc' Ls st)) : Ends p e below s Z Q cC cS T (mkF m pc Ls (.int y :: .int x :: st)) := by
  subst hp; exact E_by (fun _ q => XS.icmpNo X.at X.hx rfl (X.hb hd) rfl hc q) k
theorem E_nullT (X : Wk l Z R bytes mL ret own nm p e s m args below meth c T cells slots) {o : Int} (hd : decode bytes pc = .ok (.ifnull o, 3)) {pc' : Nat} (ho : 0 ≤ (pc : Int) + o) (hp : ((pc : Int) + o).toNat = pc') (k : Ends p e below s Z Q cC cS T (mkF m pc' Ls st)) : Ends p e below s Z Q cC cS T (mkF m pc Ls (.null :: st)) :=
  E_by (fun _ q => XS.ifnullYes X.at X.hx rfl (pc0 := pc) rfl (X.hb hd) rfl ho hp q) k
theorem E_nullF (X : Wk l Z R bytes mL ret own nm p e s m args below meth c T cells slots) {o : Int} {b : Addr} (hd : decode bytes pc = .ok (.ifnull o, 3)) {pc' : Nat} (hp : pc + 3 = pc') (k : Ends p e below s Z Q cC cS T (mkF m pc' Ls st)) : Ends p e below s Z Q cC cS T (mkF m pc Ls (.ref b :: st)) := by
  subst hp; exact E_by (fun _ q => XS.ifnullNo X.at X.hx rfl (X.hb hd) rfl q) k
theorem E_nonnullT (X : Wk l Z R bytes mL ret own nm p e s m args below meth c T cells slots) {o : Int} {b : Addr} (hd : decode bytes pc = .ok (.ifnonnull o, 3)) {pc' : Nat} (ho : 0 ≤ (pc : Int) + o) (hp : ((pc : Int) + o).toNat = pc') (k : Ends p e below s Z Q cC cS T (mkF m pc' Ls st)) : Ends p e below s Z Q cC cS T (mkF m pc Ls (.ref b :: st)) :=
  E_by (fun _ q => XT.nonnullYes X.at X.hx rfl (pc0 := pc) rfl (X.hb hd) rfl rfl (fun q => nomatch q) ho hp q) k
theorem E_nonnullF (X : Wk l Z R bytes mL ret own nm p e s m args below meth c T cells slots) {o : Int} (hd : decode bytes pc = .ok (.ifnonnull o, 3)) {pc' : Nat} (hp : pc + 3 = pc') (k : Ends p e below s Z Q cC cS T (mkF m pc' Ls st)) : Ends p e below s Z Q cC cS T (mkF m pc Ls (.null :: st)) := by
  subst hp; exact E_by (fun _ q => XT.nonnullNo X.at X.hx rfl (X.hb hd) rfl rfl q) k
theorem E_acmp (X : Wk l Z R bytes mL ret own nm p e s m args below meth c T cells slots) {cd : ACond} {o : Int} {x y : Value} (hd : decode bytes pc = .ok (.if_acmp cd o, 3)) (h1 : x.isRef = true) (h2 : y.isRef = true) (same : Bool) (hq : decide (x = y) = same) {pc' : Nat} (ho : 0 ≤ (pc : Int) + o) (hp : pc' = if acV cd same = true then ((pc : Int) + o).toNat else pc + 3) (k : Ends p e below s Z Q cC cS T (mkF m pc' Ls st)) : Ends p e below s Z Q cC cS T (mkF m pc Ls (y :: x :: st)) := by
  obtain ⟨_, locs, Y, r⟩ := id X; exact E_by (fun _ q => acmp Y X.hx rfl h1 h2 (pc0 := pc) rfl (X.hb hd) rfl hq ho hp q) k
theorem E_ldcI (X : Wk l Z R bytes mL ret own nm p e s m args below meth c T cells slots) {ix : Nat} {v : Int32} (hd : decode bytes pc = .ok (.ldc ix, 2)) (w : (Jvm.Cond.constant own ix v).before a0 Z = true) {pc' : Nat} (hp : pc + 2 = pc') (k : Ends p e below s Z Q cC cS T (mkF m pc' Ls (.int v :: st))) : Ends p e below s Z Q cC cS T (mkF m pc Ls st) := by
  subst hp; obtain ⟨_, locs, Y, r⟩ := id X; exact E_by (fun _ q => Y.ldcI X.hx X.hown (mvT X.hZ w) rfl (X.hb hd) q) k
theorem E_new (X : Wk l Z R bytes mL ret own nm p e s m args below meth c T cells slots) {C : String} {ix n : Nat} (hd : decode bytes pc = .ok (.new ix, 3)) (w1 : (Jvm.Cond.classLink own ix C).before a0 Z = true) (w2 : (Jvm.Cond.instantiable C n).before a0 Z = true) (w3 : (Jvm.Cond.initialized C).before a0 Z = true) (hc : cells + 1 ≤ R.cells) (hs : slots + n ≤ R.slots) {pc' : Nat} (hp : pc + 3 = pc')
    (k : ∀ (T' : State) (b : Addr), Wk l Z R bytes mL ret own nm p e s m args below meth c T' (cells + 1) (slots + n) → b = T.heap.size → Keep T.heap T'.heap [] → Exa Z T'.heap b C → (∀ {O nm d : String} {ty : FieldType}, Laid Z a0 C O nm d → parseFieldDescriptor d = some ty → Fld Z T'.heap b O nm d (defaultValue ty)) → Ends p e below s Z Q cC cS T' (mkF m pc' Ls (.ref b :: st))) : Ends p e below s Z Q cC cS T (mkF m pc Ls st) := by
  subst hp; obtain ⟨q0, locs, Y, N, O⟩ := id X
  obtain ⟨T', h', Y', rfl, E, A, D, -, stp⟩ := newO Y X.hx X.hZ X.hown w1 w2 w3 rfl (g := mkF m pc Ls st) rfl (X.hb hd) hc hs
  exact E_by stp (k T' _ ⟨q0, locs, Y', N, Keep.old O (Keep.of_ext E) all0⟩ rfl (Keep.of_ext E) A D)
theorem E_newarray (X : Wk l Z R bytes mL ret own nm p e s m args below meth c T cells slots) {aty : ArrayType} {n : Int32} (cap : Nat) (hd : decode bytes pc = .ok (.newarray aty, 2)) (w : (Jvm.Cond.arrayClass (newarray.typeOf aty)).before a0 Z = true) (hn : ¬ n < 0) (hcap : n.toNatClampNeg ≤ cap) (hb : cap * 8 ≤ 536870912) (hc : cells + 1 ≤ R.cells) (hs : slots + cap ≤ R.slots) {pc' : Nat} (hp : pc + 2 = pc')
    (k : ∀ (T' : State) (b : Addr) (kA : ClassId), Wk l Z R bytes mL ret own nm p e s m args below meth c T' (cells + 1) (slots + cap) → b = T.heap.size → Keep T.heap T'.heap [] → Arv Z T'.heap b kA (newarray.typeOf aty) n [] (defaultValue (newarray.typeOf aty)) → Ends p e below s Z Q cC cS T' (mkF m pc' Ls (.ref b :: st))) : Ends p e below s Z Q cC cS T (mkF m pc Ls (.int n :: st)) := by
  subst hp; obtain ⟨q0, locs, Y, N, O⟩ := id X
  obtain ⟨T', h', kA, Y', rfl, E, A, stp⟩ := newP Y X.hx X.hZ w rfl (g := mkF m pc Ls (.int n :: st)) rfl (X.hb hd) rfl hn hcap hb hc hs
  exact E_by stp (k T' _ kA ⟨q0, locs, Y', N, Keep.old O (Keep.of_ext E) all0⟩ rfl (Keep.of_ext E) (Arv.new A hn))
theorem E_iastore (X : Wk l Z R bytes mL ret own nm p e s m args below meth c T cells slots) {a : Addr} {kA : ClassId} {z j x : Int32} {vs : List Value} {dv : Value} {y : Int32} (i : Nat) (hd : decode bytes pc = .ok (.iastore, 1)) (hy : x = y) (V : Arv Z T.heap a kA .int z vs dv) (hj : ¬ j < 0 ∧ j < z) (hi : j.toNatClampNeg = i) (hl : i < vs.length) (ha : Z.heap.size ≤ a) {pc' : Nat} (hp : pc + 1 = pc')
    (k : ∀ (T' : State), Wk l Z R bytes mL ret own nm p e s m args below meth c T' cells slots → Keep T.heap T'.heap [a] → Arv Z T'.heap a kA .int z (vs.set i (.int y)) dv → Ends p e below s Z Q cC cS T' (mkF m pc' Ls st)) : Ends p e below s Z Q cC cS T (mkF m pc Ls (.int x :: .int j :: .ref a :: st)) := by
  subst hp hy; obtain ⟨q0, locs, Y, N, O⟩ := id X
  obtain ⟨cl, A, q1, S1, N1, H1, G1⟩ := V
  obtain ⟨T', h', Y', rfl, W, stp⟩ := stI Y X.hx X.hZ rfl A (j := j) (x := x) (inb_of S1 hj) (g := mkF m pc Ls (.int x :: .int j :: .ref a :: st)) rfl rfl (X.hb hd)
  exact E_by stp (k T' ⟨q0, _, Y', Fr.snoc Y' N ha, Keep.old O (Keep.of_wr W) (allS ha all0)⟩ (Keep.of_wr W) (Arv.set A q1 S1 N1 H1 G1 (rfl) W i hi hl))
theorem E_castore (X : Wk l Z R bytes mL ret own nm p e s m args below meth c T cells slots) {a : Addr} {kA : ClassId} {z j x : Int32} {vs : List Value} {dv : Value} {y : Int32} (i : Nat) (hd : decode bytes pc = .ok (.castore, 1)) (hy : nar .char x = y) (V : Arv Z T.heap a kA .char z vs dv) (hj : ¬ j < 0 ∧ j < z) (hi : j.toNatClampNeg = i) (hl : i < vs.length) (ha : Z.heap.size ≤ a) {pc' : Nat} (hp : pc + 1 = pc')
    (k : ∀ (T' : State), Wk l Z R bytes mL ret own nm p e s m args below meth c T' cells slots → Keep T.heap T'.heap [a] → Arv Z T'.heap a kA .char z (vs.set i (.int y)) dv → Ends p e below s Z Q cC cS T' (mkF m pc' Ls st)) : Ends p e below s Z Q cC cS T (mkF m pc Ls (.int x :: .int j :: .ref a :: st)) := by
  subst hp hy; obtain ⟨q0, locs, Y, N, O⟩ := id X
  obtain ⟨cl, A, q1, S1, N1, H1, G1⟩ := V
  obtain ⟨T', h', Y', rfl, W, stp⟩ := stC Y X.hx X.hZ rfl A (j := j) (x := x) (inb_of S1 hj) (g := mkF m pc Ls (.int x :: .int j :: .ref a :: st)) rfl rfl (X.hb hd)
  exact E_by stp (k T' ⟨q0, _, Y', Fr.snoc Y' N ha, Keep.old O (Keep.of_wr W) (allS ha all0)⟩ (Keep.of_wr W) (Arv.set A q1 S1 N1 H1 G1 (fits_nar_char _) W i hi hl))
theorem E_bastore (X : Wk l Z R bytes mL ret own nm p e s m args below meth c T cells slots) {a : Addr} {kA : ClassId} {z j x : Int32} {vs : List Value} {dv : Value} {y : Int32} (i : Nat) (hd : decode bytes pc = .ok (.bastore, 1)) (hy : x.toInt8.toInt32 = y) (V : Arv Z T.heap a kA .byte z vs dv) (hj : ¬ j < 0 ∧ j < z) (hi : j.toNatClampNeg = i) (hl : i < vs.length) (ha : Z.heap.size ≤ a) {pc' : Nat} (hp : pc + 1 = pc')
    (k : ∀ (T' : State), Wk l Z R bytes mL ret own nm p e s m args below meth c T' cells slots → Keep T.heap T'.heap [a] → Arv Z T'.heap a kA .byte z (vs.set i (.int y)) dv → Ends p e below s Z Q cC cS T' (mkF m pc' Ls st)) : Ends p e below s Z Q cC cS T (mkF m pc Ls (.int x :: .int j :: .ref a :: st)) := by
  subst hp hy; obtain ⟨q0, locs, Y, N, O⟩ := id X
  obtain ⟨cl, A, q1, S1, N1, H1, G1⟩ := V
  obtain ⟨T', h', Y', rfl, W, stp⟩ := stB Y X.hx X.hZ rfl A (j := j) (x := x) (inb_of S1 hj) (g := mkF m pc Ls (.int x :: .int j :: .ref a :: st)) rfl rfl (X.hb hd)
  exact E_by stp (k T' ⟨q0, _, Y', Fr.snoc Y' N ha, Keep.old O (Keep.of_wr W) (allS ha all0)⟩ (Keep.of_wr W) (Arv.set A q1 S1 N1 H1 G1 (fits_nar_byte _) W i hi hl))
theorem E_iastoreA (X : Wk l Z R bytes mL ret own nm p e s m args below meth c T cells slots) {a : Addr} {kA : ClassId} {z j x : Int32} {vs : List Value} {dv : Value} {y : Int32} (hd : decode bytes pc = .ok (.iastore, 1)) (hy : x = y) (V : Arv Z T.heap a kA .int z vs dv) (hj : ¬ j < 0 ∧ j < z) (hi : j.toNatClampNeg = vs.length) (ha : Z.heap.size ≤ a) {pc' : Nat} (hp : pc + 1 = pc')
    (k : ∀ (T' : State), Wk l Z R bytes mL ret own nm p e s m args below meth c T' cells slots → Keep T.heap T'.heap [a] → Arv Z T'.heap a kA .int z (vs ++ [.int y]) dv → Ends p e below s Z Q cC cS T' (mkF m pc' Ls st)) : Ends p e below s Z Q cC cS T (mkF m pc Ls (.int x :: .int j :: .ref a :: st)) := by
  refine E_iastore X vs.length hd hy (V.pad (pad_rep vs dv 1)) hj hi (by simp) ha hp fun T' X' K' V' => k T' X' K' ?_
  have q : (vs ++ List.replicate 1 dv).set vs.length (.int y) = vs ++ [.int y] := by simp
  rw [q] at V'; exact V'
theorem E_castoreA (X : Wk l Z R bytes mL ret own nm p e s m args below meth c T cells slots) {a : Addr} {kA : ClassId} {z j x : Int32} {vs : List Value} {dv : Value} {y : Int32} (hd : decode bytes pc = .ok (.castore, 1)) (hy : nar .char x = y) (V : Arv Z T.heap a kA .char z vs dv) (hj : ¬ j < 0 ∧ j < z) (hi : j.toNatClampNeg = vs.length) (ha : Z.heap.size ≤ a) {pc' : Nat} (hp : pc + 1 = pc')
    (k : ∀ (T' : State), Wk l Z R bytes mL ret own nm p e s m args below meth c T' cells slots → Keep T.heap T'.heap [a] → Arv Z T'.heap a kA .char z (vs ++ [.int y]) dv → Ends p e below s Z Q cC cS T' (mkF m pc' Ls st)) : Ends p e below s Z Q cC cS T (mkF m pc Ls (.int x :: .int j :: .ref a :: st)) := by
  refine E_castore X vs.length hd hy (V.pad (pad_rep vs dv 1)) hj hi (by simp) ha hp fun T' X' K' V' => k T' X' K' ?_
  have q : (vs ++ List.replicate 1 dv).set vs.length (.int y) = vs ++ [.int y] := by simp
  rw [q] at V'; exact V'
theorem E_bastoreA (X : Wk l Z R bytes mL ret own nm p e s m args below meth c T cells slots) {a : Addr} {kA : ClassId} {z j x : Int32} {vs : List Value} {dv : Value} {y : Int32} (hd : decode bytes pc = .ok (.bastore, 1)) (hy : x.toInt8.toInt32 = y) (V : Arv Z T.heap a kA .byte z vs dv) (hj : ¬ j < 0 ∧ j < z) (hi : j.toNatClampNeg = vs.length) (ha : Z.heap.size ≤ a) {pc' : Nat} (hp : pc + 1 = pc')
    (k : ∀ (T' : State), Wk l Z R bytes mL ret own nm p e s m args below meth c T' cells slots → Keep T.heap T'.heap [a] → Arv Z T'.heap a kA .byte z (vs ++ [.int y]) dv → Ends p e below s Z Q cC cS T' (mkF m pc' Ls st)) : Ends p e below s Z Q cC cS T (mkF m pc Ls (.int x :: .int j :: .ref a :: st)) := by
  refine E_bastore X vs.length hd hy (V.pad (pad_rep vs dv 1)) hj hi (by simp) ha hp fun T' X' K' V' => k T' X' K' ?_
  have q : (vs ++ List.replicate 1 dv).set vs.length (.int y) = vs ++ [.int y] := by simp
  rw [q] at V'; exact V'
theorem E_iaload (X : Wk l Z R bytes mL ret own nm p e s m args below meth c T cells slots) {a : Addr} {kA : ClassId} {z j : Int32} {vs : List Value} {dv v : Value} (hd : decode bytes pc = .ok (.iaload, 1)) (V : Arv Z T.heap a kA .int z vs dv) (hj : ¬ j < 0 ∧ j < z) (hv : vs.getD j.toNatClampNeg dv = v) {pc' : Nat} (hp : pc + 1 = pc')
    (k : Ends p e below s Z Q cC cS T (mkF m pc' Ls (v :: st))) : Ends p e below s Z Q cC cS T (mkF m pc Ls (.int j :: .ref a :: st)) := by
  subst hp; obtain ⟨q0, locs, Y, N, O⟩ := id X
  obtain ⟨cl, A, q1, S1, N1, H1, G1⟩ := V
  exact E_by (Y.iaload X.hx A.1 (State.isArrayOf_alike X.hZ.alike A.2.1) A.2.2 (inb_of S1 hj) (Has.at H1 (inb_of S1 hj) hv) (g := mkF m pc Ls (.int j :: .ref a :: st)) rfl rfl (X.hb hd)) k
theorem E_caload (X : Wk l Z R bytes mL ret own nm p e s m args below meth c T cells slots) {a : Addr} {kA : ClassId} {z j : Int32} {vs : List Value} {dv v : Value} (hd : decode bytes pc = .ok (.caload, 1)) (V : Arv Z T.heap a kA .char z vs dv) (hj : ¬ j < 0 ∧ j < z) (hv : vs.getD j.toNatClampNeg dv = v) {pc' : Nat} (hp : pc + 1 = pc')
    (k : Ends p e below s Z Q cC cS T (mkF m pc' Ls (v :: st))) : Ends p e below s Z Q cC cS T (mkF m pc Ls (.int j :: .ref a :: st)) := by
  subst hp; obtain ⟨q0, locs, Y, N, O⟩ := id X
  obtain ⟨cl, A, q1, S1, N1, H1, G1⟩ := V
  exact E_by (Y.caload X.hx A.1 (State.isArrayOf_alike X.hZ.alike A.2.1) A.2.2 (inb_of S1 hj) (Has.at H1 (inb_of S1 hj) hv) (g := mkF m pc Ls (.int j :: .ref a :: st)) rfl rfl (X.hb hd)) k
theorem E_baload (X : Wk l Z R bytes mL ret own nm p e s m args below meth c T cells slots) {a : Addr} {kA : ClassId} {z j : Int32} {vs : List Value} {dv v : Value} (hd : decode bytes pc = .ok (.baload, 1)) (V : Arv Z T.heap a kA .byte z vs dv) (hj : ¬ j < 0 ∧ j < z) (hv : vs.getD j.toNatClampNeg dv = v) {pc' : Nat} (hp : pc + 1 = pc')
    (k : Ends p e below s Z Q cC cS T (mkF m pc' Ls (v :: st))) : Ends p e below s Z Q cC cS T (mkF m pc Ls (.int j :: .ref a :: st)) := by
  subst hp; obtain ⟨q0, locs, Y, N, O⟩ := id X
  obtain ⟨cl, A, q1, S1, N1, H1, G1⟩ := V
  exact E_by (Y.baloadBytes X.hx A.1 (State.isArrayOf_alike X.hZ.alike A.2.1) A.2.2 (inb_of S1 hj) (Has.at H1 (inb_of S1 hj) hv) (g := mkF m pc Ls (.int j :: .ref a :: st)) rfl rfl (X.hb hd)) k
theorem E_aaload (X : Wk l Z R bytes mL ret own nm p e s m args below meth c T cells slots) {a : Addr} {kA : ClassId} {z j : Int32} {vs : List Value} {dv v : Value} {ty : FieldType} (hd : decode bytes pc = .ok (.aaload, 1)) (V : Arv Z T.heap a kA ty z vs dv) (hty : ty.isReference = true) (hj : ¬ j < 0 ∧ j < z) (hv : vs.getD j.toNatClampNeg dv = v) {pc' : Nat} (hp : pc + 1 = pc')
    (k : Ends p e below s Z Q cC cS T (mkF m pc' Ls (v :: st))) : Ends p e below s Z Q cC cS T (mkF m pc Ls (.int j :: .ref a :: st)) := by
  subst hp; obtain ⟨q0, locs, Y, N, O⟩ := id X
  obtain ⟨cl, A, q1, S1, N1, H1, G1⟩ := V
  exact E_by (Y.aaload X.hx A.1 (State.isArrayOf_alike X.hZ.alike A.2.1) hty A.2.2 (inb_of S1 hj) (Has.at H1 (inb_of S1 hj) hv) (g := mkF m pc Ls (.int j :: .ref a :: st)) rfl rfl (X.hb hd)) k
theorem E_arraylength (X : Wk l Z R bytes mL ret own nm p e s m args below meth c T cells slots) {a : Addr} {kA : ClassId} {z : Int32} {vs : List Value} {dv : Value} {ty : FieldType} (hd : decode bytes pc = .ok (.arraylength, 1)) (V : Arv Z T.heap a kA ty z vs dv) {pc' : Nat} (hp : pc + 1 = pc')
    (k : Ends p e below s Z Q cC cS T (mkF m pc' Ls (.int z :: st))) : Ends p e below s Z Q cC cS T (mkF m pc Ls (.ref a :: st)) := by
  subst hp; obtain ⟨q0, locs, Y, N, O⟩ := id X
  obtain ⟨cl, A, q1, S1, N1, H1, G1⟩ := V
  refine E_by (Y.arraylength X.hx A.1 (State.isArrayOf_alike X.hZ.alike A.2.1) (g := mkF m pc Ls (.ref a :: st)) rfl rfl (X.hb hd)) ?_
  rw [len_of S1 N1]; exact k
theorem E_getfield (X : Wk l Z R bytes mL ret own nm p e s m args below meth c T cells slots) {a : Addr} {O n d R0 : String} {ix : Nat} {v : Value} (hd : decode bytes pc = .ok (.getfield ix, 3)) (w : (Jvm.Cond.fieldLink own ix R0 n d).before a0 Z = true) (via : Via Z R0 O n d) (F : Fld Z T.heap a O n d v) {pc' : Nat} (hp : pc + 3 = pc')
    (k : ∀ (T' : State), Wk l Z R bytes mL ret own nm p e s m args below meth c T' cells slots → T'.heap = T.heap → Ends p e below s Z Q cC cS T' (mkF m pc' Ls (v :: st))) : Ends p e below s Z Q cC cS T (mkF m pc Ls (.ref a :: st)) := by
  subst hp; obtain ⟨q0, locs, Y, N, Od⟩ := id X
  obtain ⟨T', Y', e1, stp⟩ := getF Y X.hx X.hZ X.hown (host := "") (Or.inl w) via rfl F (g := mkF m pc Ls (.ref a :: st)) rfl rfl (X.hb hd)
  exact E_by stp (k T' ⟨q0, locs, Y', N, e1 ▸ Od⟩ e1)
theorem E_getstatic (X : Wk l Z R bytes mL ret own nm p e s m args below meth c T cells slots) {O n d R0 : String} {ix : Nat} {v : Value} (hd : decode bytes pc = .ok (.getstatic ix, 3)) (w : (Jvm.Cond.fieldLink own ix R0 n d).before a0 Z = true) (via : Via Z R0 O n d) (F : Sta Z Z.heap O n d v) {pc' : Nat} (hp : pc + 3 = pc')
    (k : ∀ (T' : State), Wk l Z R bytes mL ret own nm p e s m args below meth c T' cells slots → T'.heap = T.heap → Ends p e below s Z Q cC cS T' (mkF m pc' Ls (v :: st))) : Ends p e below s Z Q cC cS T (mkF m pc Ls st) := by
  subst hp; obtain ⟨q0, locs, Y, N, Od⟩ := id X
  obtain ⟨T', Y', e1, stp⟩ := getS Y X.hx X.hZ (host := "") X.hown w via rfl (F.ext Od) (g := mkF m pc Ls st) rfl (X.hb hd)
  exact E_by stp (k T' ⟨q0, locs, Y', N, e1 ▸ Od⟩ e1)
theorem E_putfield (X : Wk l Z R bytes mL ret own nm p e s m args below meth c T cells slots) {a : Addr} {O n d R0 C : String} {ix kk : Nat} {v old : Value} {ty : FieldType} (hd : decode bytes pc = .ok (.putfield ix, 3)) (w : (Jvm.Cond.fieldLink own ix R0 n d).before a0 Z = true) (via : Via Z R0 O n d) (F : Fld Z T.heap a O n d old) (E : Exa Z T.heap a C) (L : (Jvm.Cond.lays C O n d).before a0 Z = true ∨ ((Jvm.Cond.laysFinal C O n d).before a0 Z = true ∧ own = O ∧ nm = "<init>")) (wi : (Jvm.Cond.instantiable C kk).before a0 Z = true) (hty : parseFieldDescriptor d = some ty) (hn : narrow ty v = v) (hf : fits ty v = true) (ha : Z.heap.size ≤ a) {pc' : Nat} (hp : pc + 3 = pc')
    (k : ∀ (T' : State), Wk l Z R bytes mL ret own nm p e s m args below meth c T' cells slots → Wr T.heap T'.heap a (Jvm.RoadKit.slotOf Z O n d) v → Ends p e below s Z Q cC cS T' (mkF m pc' Ls st)) : Ends p e below s Z Q cC cS T (mkF m pc Ls (v :: .ref a :: st)) := by
  subst hp; obtain ⟨q0, locs, Y, N, Od⟩ := id X
  obtain ⟨T', h', Y', rfl, W, stp⟩ := putF Y X.hx X.hZ X.hown (host := "") (Or.inl w) via rfl F E (L.imp id fun q => ⟨q.1, q.2.1, q0.2.2.2.2.2.2.1.trans q.2.2⟩) wi hty hn hf (g := mkF m pc Ls (v :: .ref a :: st)) rfl rfl (X.hb hd)
  exact E_by stp (k T' ⟨q0, _, Y', Fr.snoc Y' N ha, Keep.old Od (Keep.of_wr W) (allS ha all0)⟩ W)
theorem E_initO (X : Wk l Z R bytes mL ret own nm p e s m args below meth c T cells slots) {a : Addr} {ix : Nat} (hd : decode bytes pc = .ok (.invokespecial ix, 3)) (w1 : (Jvm.Cond.methodLink own ix Lib.objectInit).before a0 Z = true) (w2 : (Jvm.Cond.instanceMethod Lib.objectInit).before a0 Z = true) (w3 : (Jvm.Cond.code Lib.objectInit ⟨#[0xb1]⟩ 1 none).before a0 Z = true) (hsz : Ls.size = mL) (hf : 1 ≤ R.frames) (hl : (st.map fun v => v.category).sum + 12 ≤ R.locals) {pc' : Nat} (hp : pc + 3 = pc')
    (k : ∀ (T' : State), Wk l Z R bytes mL ret own nm p e s m args below meth c T' cells slots → T'.heap = T.heap → Ends p e below s Z Q cC cS T' (mkF m pc' Ls st)) : Ends p e below s Z Q cC cS T (mkF m pc Ls (.ref a :: st)) := by
  subst hp; obtain ⟨q0, locs, Y, N, Od⟩ := id X
  obtain ⟨T', Y', e1, stp⟩ := initO Y X.hx X.hZ X.hown w1 w2 w3 rfl (g := mkF m pc Ls (.ref a :: st)) rfl (X.size hsz) rfl (X.hb hd) hf (W := (st.map fun v => v.category).sum) (by show 2 * 0 + _ ≤ _; omega) hl
  exact E_by stp (k T' ⟨q0, locs, Y', N, e1 ▸ Od⟩ e1)
theorem E_checkcast (X : Wk l Z R bytes mL ret own nm p e s m args below meth c T cells slots) {a : Addr} {K : String} {ix : Nat} (hd : decode bytes pc = .ok (.checkcast ix, 3)) (w : (Jvm.Cond.classLink own ix K).before a0 Z = true) (F : Ins Z T.heap a K true) {pc' : Nat} (hp : pc + 3 = pc')
    (k : ∀ (T' : State), Wk l Z R bytes mL ret own nm p e s m args below meth c T' cells slots → T'.heap = T.heap → Ends p e below s Z Q cC cS T' (mkF m pc' Ls (.ref a :: st))) : Ends p e below s Z Q cC cS T (mkF m pc Ls (.ref a :: st)) := by
  subst hp; obtain ⟨q0, locs, Y, N, Od⟩ := id X
  obtain ⟨T', Y', e1, stp⟩ := castY Y X.hx X.hZ X.hown w rfl F (g := mkF m pc Ls (.ref a :: st)) rfl rfl (X.hb hd)
  exact E_by stp (k T' ⟨q0, locs, Y', N, e1 ▸ Od⟩ e1)
theorem E_instY (X : Wk l Z R bytes mL ret own nm p e s m args below meth c T cells slots) {a : Addr} {K : String} {ix : Nat} (hd : decode bytes pc = .ok (.instanceof ix, 3)) (w : (Jvm.Cond.classLink own ix K).before a0 Z = true) (F : Ins Z T.heap a K true) {pc' : Nat} (hp : pc + 3 = pc')
    (k : ∀ (T' : State), Wk l Z R bytes mL ret own nm p e s m args below meth c T' cells slots → T'.heap = T.heap → Ends p e below s Z Q cC cS T' (mkF m pc' Ls (.int 1 :: st))) : Ends p e below s Z Q cC cS T (mkF m pc Ls (.ref a :: st)) := by
  subst hp; obtain ⟨q0, locs, Y, N, Od⟩ := id X
  obtain ⟨T', Y', e1, stp⟩ := instY Y X.hx X.hZ X.hown w rfl F (g := mkF m pc Ls (.ref a :: st)) rfl rfl (X.hb hd)
  exact E_by stp (k T' ⟨q0, locs, Y', N, e1 ▸ Od⟩ e1)
theorem E_staticB (X : Wk l Z R bytes mL ret own nm p e s m args below meth c T cells slots) {y : MethodName} {ix : Nat} {bytes' : ByteArray} {mL' : Nat} {ret' : Option FieldType} {Q' : Option Value → Heap → Prop} {argsL : List Value} {Q2 : Option Value → Heap → List Loc → Prop} {rC rS : Nat} (hd : decode bytes pc = .ok (.invokestatic ix, 3)) (w1 : (Jvm.Cond.methodLink own ix y).before a0 Z = true) (w2 : (Jvm.Cond.static y).before a0 Z = true) (w3 : (Jvm.Cond.initialized y.cls).before a0 Z = true) (w4 : (Jvm.Cond.code y bytes' mL' ret').before a0 Z = true) (hy : y.cls ≠ "java/lang/invoke/MethodHandle" ∧ y.cls ≠ "java/lang/invoke/VarHandle") {st0 : List Value} (hst : st0 = argsL.reverse ++ st) (hK : Back l R p e below s args y 3 ((st.map fun v => v.category).sum) (fun A aa => aa = argsL.toArray ∧ A.U.heap = T.heap ∧ A.cells + rC ≤ R.cells ∧ A.slots + rS ≤ R.slots) (fun A _ v B => ∃ L, Q2 v B.U.heap L ∧ B.locs = A.locs ++ L ∧ B.cells = A.cells + rC ∧ B.slots = A.slots + rS)) (hQ2 : ∀ v h L, Q2 v h L → Fr Z.heap.size L ∧ Ext Z.heap h ∧ Q' v h) (hlen : ∀ sig, parseMethodDescriptor y.desc = some sig → argsL.length = sig.parameters.length) (hsz : Ls.size = mL) (hcl : cells + rC ≤ R.cells) (hsl : slots + rS ≤ R.slots) {pc' : Nat} (hp : pc + 3 = pc')
    (k : ∀ (T' : State) (v : Option Value), Wk l Z R bytes mL ret own nm p e s m args below meth c T' (cells + rC) (slots + rS) → Q' v T'.heap → Ends p e below s Z Q cC cS T' (mkF m pc' Ls (v.toList ++ st))) : Ends p e below s Z Q cC cS T (mkF m pc Ls st0) := by
  subst hp hst; obtain ⟨q0, locs, Y, N, Od⟩ := id X
  obtain ⟨v, _, ⟨T', L1, k1, n1⟩, -, Y', ⟨Lc, hQ, l1, y1, z1⟩, stp⟩ := Jvm.LawKit.callS Y X.hx (y := y) X.hown (mvT X.hZ w1) (mvT X.hZ w2) (mvT X.hZ w3) (mvT X.hZ w4) hy hK (g := mkF m pc Ls (argsL.reverse ++ st)) rfl (X.size hsz) (argsL := argsL) (rest := st) hlen rfl (by show 2 * 0 + _ ≤ _; omega) (X.hb hd) (fun _ _ => ⟨rfl, rfl, hcl, hsl⟩)
  dsimp only [Pt.U, Pt.locs, Pt.cells, Pt.slots] at Y' l1 y1 z1 stp hQ
  subst l1 y1 z1
  obtain ⟨f1, f2, f3⟩ := hQ2 _ _ _ hQ
  exact E_by stp (k T' v ⟨q0, _, Y', Fr.app N f1, f2⟩ f3)
theorem E_static (X : Wk l Z R bytes mL ret own nm p e s m args below meth c T cells slots) {y : MethodName} {ix : Nat} {bytes' : ByteArray} {mL' : Nat} {ret' : Option FieldType} {Q' : Option Value → Heap → Prop} {argsL : List Value} {rm : Room} (hd : decode bytes pc = .ok (.invokestatic ix, 3)) (w1 : (Jvm.Cond.methodLink own ix y).before a0 Z = true) (w2 : (Jvm.Cond.static y).before a0 Z = true) (w3 : (Jvm.Cond.initialized y.cls).before a0 Z = true) (w4 : (Jvm.Cond.code y bytes' mL' ret').before a0 Z = true) (hy : y.cls ≠ "java/lang/invoke/MethodHandle" ∧ y.cls ≠ "java/lang/invoke/VarHandle")  {st0 : List Value} (hst : st0 = argsL.reverse ++ st) (hC : Ct l Z y bytes' mL' ret' rm argsL.toArray T.heap Q') (hlen : ∀ sig, parseMethodDescriptor y.desc = some sig → argsL.length = sig.parameters.length) (hsz : Ls.size = mL) (hcl : cells + rm.cells ≤ R.cells) (hsl : slots + rm.slots ≤ R.slots) (hfr : rm.frames + 1 ≤ R.frames) (hlo : (st.map fun v => v.category).sum + (mL' + 11) + rm.locals ≤ R.locals) {pc' : Nat} (hp : pc + 3 = pc')
    (k : ∀ (T' : State) (v : Option Value), Wk l Z R bytes mL ret own nm p e s m args below meth c T' (cells + rm.cells) (slots + rm.slots) → Q' v T'.heap → Ends p e below s Z Q cC cS T' (mkF m pc' Ls (v.toList ++ st))) : Ends p e below s Z Q cC cS T (mkF m pc Ls st0) :=
  E_staticB X hd w1 w2 w3 w4 hy hst (hC.back X.hZ w4 w3 hfr hlo) (fun _ _ _ q => q) hlen hsz hcl hsl hp k
theorem E_specialB (X : Wk l Z R bytes mL ret own nm p e s m args below meth c T cells slots) {y : MethodName} {ix : Nat} {bytes' : ByteArray} {mL' : Nat} {ret' : Option FieldType} {Q' : Option Value → Heap → Prop} {argsL : List Value} {Q2 : Option Value → Heap → List Loc → Prop} {rC rS : Nat} {a : Addr} (hd : decode bytes pc = .ok (.invokespecial ix, 3)) (hy1 : y.name = "<init>") (hret : ret' = none) (w1 : (Jvm.Cond.methodLink own ix y).before a0 Z = true) (w2 : (Jvm.Cond.instanceMethod y).before a0 Z = true) (w4 : (Jvm.Cond.code y bytes' mL' ret').before a0 Z = true) (hy : y.cls ≠ "java/lang/invoke/MethodHandle" ∧ y.cls ≠ "java/lang/invoke/VarHandle") {st0 : List Value} (hst : st0 = argsL.reverse ++ .ref a :: st) (hK : Back l R p e below s args y 3 ((st.map fun v => v.category).sum) (fun A aa => aa = (.ref a :: argsL).toArray ∧ A.U.heap = T.heap ∧ A.cells + rC ≤ R.cells ∧ A.slots + rS ≤ R.slots) (fun A _ v B => ∃ L, Q2 v B.U.heap L ∧ B.locs = A.locs ++ L ∧ B.cells = A.cells + rC ∧ B.slots = A.slots + rS)) (hQ2 : ∀ v h L, Q2 v h L → Fr Z.heap.size L ∧ Ext Z.heap h ∧ Q' v h) (hlen : ∀ sig, parseMethodDescriptor y.desc = some sig → argsL.length = sig.parameters.length) (hsz : Ls.size = mL) (hcl : cells + rC ≤ R.cells) (hsl : slots + rS ≤ R.slots) {pc' : Nat} (hp : pc + 3 = pc')
    (k : ∀ (T' : State) (v : Option Value), Wk l Z R bytes mL ret own nm p e s m args below meth c T' (cells + rC) (slots + rS) → Q' v T'.heap → Ends p e below s Z Q cC cS T' (mkF m pc' Ls (v.toList ++ st))) : Ends p e below s Z Q cC cS T (mkF m pc Ls st0) := by
  subst hp hst; obtain ⟨q0, locs, Y, N, Od⟩ := id X
  subst hret
  obtain ⟨v, _, ⟨T', L1, k1, n1⟩, -, Y', ⟨Lc, hQ, l1, y1, z1⟩, stp⟩ := Y.specialBack X.hx (y := y) hy1 X.hown (mvT X.hZ w1) (mvT X.hZ w2) (mvT X.hZ w4) hy hK (g := mkF m pc Ls (argsL.reverse ++ .ref a :: st)) rfl (X.size hsz) (Steps.refl _) (a := a) (argsL := argsL) (rest := st) hlen rfl (by show 2 * 0 + _ ≤ _; omega) (X.hb hd) (fun _ _ => ⟨rfl, rfl, hcl, hsl⟩)
  dsimp only [Pt.U, Pt.locs, Pt.cells, Pt.slots] at Y' l1 y1 z1 stp hQ
  subst l1 y1 z1
  obtain ⟨f1, f2, f3⟩ := hQ2 _ _ _ hQ
  exact E_tr stp (k T' v ⟨q0, _, Y', Fr.app N f1, f2⟩ f3)
theorem E_special (X : Wk l Z R bytes mL ret own nm p e s m args below meth c T cells slots) {y : MethodName} {ix : Nat} {bytes' : ByteArray} {mL' : Nat} {ret' : Option FieldType} {Q' : Option Value → Heap → Prop} {argsL : List Value} {rm : Room} {a : Addr} (hd : decode bytes pc = .ok (.invokespecial ix, 3)) (hy1 : y.name = "<init>") (hret : ret' = none) (w1 : (Jvm.Cond.methodLink own ix y).before a0 Z = true) (w2 : (Jvm.Cond.instanceMethod y).before a0 Z = true) (w4 : (Jvm.Cond.code y bytes' mL' ret').before a0 Z = true) (hy : y.cls ≠ "java/lang/invoke/MethodHandle" ∧ y.cls ≠ "java/lang/invoke/VarHandle") (w3 : (Jvm.Cond.initialized y.cls).before a0 Z = true) {st0 : List Value} (hst : st0 = argsL.reverse ++ .ref a :: st) (hC : Ct l Z y bytes' mL' ret' rm (.ref a :: argsL).toArray T.heap Q') (hlen : ∀ sig, parseMethodDescriptor y.desc = some sig → argsL.length = sig.parameters.length) (hsz : Ls.size = mL) (hcl : cells + rm.cells ≤ R.cells) (hsl : slots + rm.slots ≤ R.slots) (hfr : rm.frames + 1 ≤ R.frames) (hlo : (st.map fun v => v.category).sum + (mL' + 11) + rm.locals ≤ R.locals) {pc' : Nat} (hp : pc + 3 = pc')
    (k : ∀ (T' : State) (v : Option Value), Wk l Z R bytes mL ret own nm p e s m args below meth c T' (cells + rm.cells) (slots + rm.slots) → Q' v T'.heap → Ends p e below s Z Q cC cS T' (mkF m pc' Ls (v.toList ++ st))) : Ends p e below s Z Q cC cS T (mkF m pc Ls st0) :=
  E_specialB X hd hy1 hret w1 w2 w4 hy hst (hC.back X.hZ w4 w3 hfr hlo) (fun _ _ _ q => q) hlen hsz hcl hsl hp k
theorem E_virtualB (X : Wk l Z R bytes mL ret own nm p e s m args below meth c T cells slots) {y : MethodName} {ix : Nat} {Q' : Option Value → Heap → Prop} {argsL : List Value} {Q2 : Option Value → Heap → List Loc → Prop} {rC rS : Nat} {a : Addr} {z : MethodName} {D : String} (hd : decode bytes pc = .ok (.invokevirtual ix, 3)) (w1 : (Jvm.Cond.methodLink own ix y).before a0 Z = true) (w2 : (Jvm.Cond.declares y).before a0 Z = true) (w5 : (Jvm.Cond.selects D y z).before a0 Z = true) (w6 : (Jvm.Cond.instanceMethod z).before a0 Z = true) (hnf : NotFace s y) (hy : y.cls ≠ "java/lang/invoke/MethodHandle" ∧ y.cls ≠ "java/lang/invoke/VarHandle") (E : Exa Z T.heap a D) {st0 : List Value} (hst : st0 = argsL.reverse ++ .ref a :: st) (hK : Back l R p e below s args z 3 ((st.map fun v => v.category).sum) (fun A aa => aa = (.ref a :: argsL).toArray ∧ A.U.heap = T.heap ∧ A.cells + rC ≤ R.cells ∧ A.slots + rS ≤ R.slots) (fun A _ v B => ∃ L, Q2 v B.U.heap L ∧ B.locs = A.locs ++ L ∧ B.cells = A.cells + rC ∧ B.slots = A.slots + rS)) (hQ2 : ∀ v h L, Q2 v h L → Fr Z.heap.size L ∧ Ext Z.heap h ∧ Q' v h) (hlen : ∀ sig, parseMethodDescriptor y.desc = some sig → argsL.length = sig.parameters.length) (hsz : Ls.size = mL) (hcl : cells + rC ≤ R.cells) (hsl : slots + rS ≤ R.slots) {pc' : Nat} (hp : pc + 3 = pc')
    (k : ∀ (T' : State) (v : Option Value), Wk l Z R bytes mL ret own nm p e s m args below meth c T' (cells + rC) (slots + rS) → Q' v T'.heap → Ends p e below s Z Q cC cS T' (mkF m pc' Ls (v.toList ++ st))) : Ends p e below s Z Q cC cS T (mkF m pc Ls st0) := by
  subst hp hst; obtain ⟨q0, locs, Y, N, Od⟩ := id X
  obtain ⟨cq, kq, qa, qb, qc⟩ := isOf X.hZ rfl E
  obtain ⟨v, _, ⟨T', L1, k1, n1⟩, -, Y', ⟨Lc, hQ, l1, y1, z1⟩, stp⟩ := Y.virtualBack X.hx (y := y) (z := z) X.hown (mvT X.hZ w1) (mvT X.hZ w2) hnf (mvT X.hZ w5) (mvT X.hZ w6) hy hK qa qc (g := mkF m pc Ls (argsL.reverse ++ .ref a :: st)) rfl (X.size hsz) (Steps.refl _) (argsL := argsL) (rest := st) hlen rfl (by show 2 * 0 + _ ≤ _; omega) (X.hb hd) (fun _ _ => ⟨rfl, rfl, hcl, hsl⟩)
  dsimp only [Pt.U, Pt.locs, Pt.cells, Pt.slots] at Y' l1 y1 z1 stp hQ
  subst l1 y1 z1
  obtain ⟨f1, f2, f3⟩ := hQ2 _ _ _ hQ
  exact E_tr stp (k T' v ⟨q0, _, Y', Fr.app N f1, f2⟩ f3)
theorem E_virtual (X : Wk l Z R bytes mL ret own nm p e s m args below meth c T cells slots) {y : MethodName} {ix : Nat} {bytes' : ByteArray} {mL' : Nat} {ret' : Option FieldType} {Q' : Option Value → Heap → Prop} {argsL : List Value} {rm : Room} {a : Addr} {z : MethodName} {D : String} (hd : decode bytes pc = .ok (.invokevirtual ix, 3)) (w1 : (Jvm.Cond.methodLink own ix y).before a0 Z = true) (w2 : (Jvm.Cond.declares y).before a0 Z = true) (w5 : (Jvm.Cond.selects D y z).before a0 Z = true) (w6 : (Jvm.Cond.instanceMethod z).before a0 Z = true) (hnf : NotFace s y) (hy : y.cls ≠ "java/lang/invoke/MethodHandle" ∧ y.cls ≠ "java/lang/invoke/VarHandle") (E : Exa Z T.heap a D) (w3 : (Jvm.Cond.initialized z.cls).before a0 Z = true) (w4 : (Jvm.Cond.code z bytes' mL' ret').before a0 Z = true) {st0 : List Value} (hst : st0 = argsL.reverse ++ .ref a :: st) (hC : Ct l Z z bytes' mL' ret' rm (.ref a :: argsL).toArray T.heap Q') (hlen : ∀ sig, parseMethodDescriptor y.desc = some sig → argsL.length = sig.parameters.length) (hsz : Ls.size = mL) (hcl : cells + rm.cells ≤ R.cells) (hsl : slots + rm.slots ≤ R.slots) (hfr : rm.frames + 1 ≤ R.frames) (hlo : (st.map fun v => v.category).sum + (mL' + 11) + rm.locals ≤ R.locals) {pc' : Nat} (hp : pc + 3 = pc')
    (k : ∀ (T' : State) (v : Option Value), Wk l Z R bytes mL ret own nm p e s m args below meth c T' (cells + rm.cells) (slots + rm.slots) → Q' v T'.heap → Ends p e below s Z Q cC cS T' (mkF m pc' Ls (v.toList ++ st))) : Ends p e below s Z Q cC cS T (mkF m pc Ls st0) :=
  E_virtualB X hd w1 w2 w5 w6 hnf hy E hst (hC.back X.hZ w4 w3 hfr hlo) (fun _ _ _ q => q) hlen hsz hcl hsl hp k
theorem Wk.out (X : Wk l Z R bytes mL ret own nm p e s m args below meth c T cells slots) {v : Option Value} (hv : ret = none → v = none) (hQ : Q v T.heap) (h1 : cells ≤ cC) (h2 : slots ≤ cS) (hs : ∀ fs, (∀ (f : JFrame) (acts : List Action), f.method = m → f.locked = none → f.entered = [] → (doReturn e (T.setTop f) acts v).1 = T.setFrames fs) → Steps p.tables e below (T.setTop g) (T.setFrames fs)) : Ends p e below s Z Q cC cS T g := by
  obtain ⟨q0, locs, Y, N, Od⟩ := id X
  obtain ⟨fs, hr, hrun, hended, hW, hsame⟩ := Y.leave (v := v) (fun h => hv (q0.2.2.2.1.symm.trans h)) q0.2.2.2.2.1
  exact ⟨_, _, hs fs hr, hrun, hended, _, _, rfl, ⟨N, Od, hQ⟩, ⟨_, rfl⟩, hW, hsame.mono h1 h2⟩
theorem E_return (X : Wk l Z R bytes mL ret own nm p e s m args below meth c T cells slots) (hd : decode bytes pc = .ok (.return_, 1)) (hret : ret = none) (h1 : cells ≤ cC) (h2 : slots ≤ cS) (hQ : Q none T.heap) : Ends p e below s Z Q cC cS T (mkF m pc Ls []) := by
  refine X.out (v := none) (fun _ => rfl) hQ h1 h2 fun fs hr => ?_
  obtain ⟨q0, locs, Y, N, Od⟩ := id X
  exact Y.returnOut X.hx (q0.2.2.2.1.trans hret) (X.hb hd) hr
theorem E_ireturnI (X : Wk l Z R bytes mL ret own nm p e s m args below meth c T cells slots) {z : Int32} (hd : decode bytes pc = .ok (.ireturn, 1)) (hret : ret = some .int) (h1 : cells ≤ cC) (h2 : slots ≤ cS) (hQ : Q (some (.int z)) T.heap) : Ends p e below s Z Q cC cS T (mkF m pc Ls (.int z :: st)) := by
  refine X.out (v := some (.int z)) (fun h => by rw [hret] at h; cases h) hQ h1 h2 fun fs hr => ?_
  obtain ⟨q0, locs, Y, N, Od⟩ := id X
  exact retOut Y X.hx (q0.2.2.2.1.trans hret) rfl (Or.inl ⟨rfl, Or.inl rfl, z, rfl⟩) (X.hb hd) hr
theorem E_ireturnN (X : Wk l Z R bytes mL ret own nm p e s m args below meth c T cells slots) {z : Int32} {t : FieldType} (hd : decode bytes pc = .ok (.ireturn, 1)) (hret : ret = some t) (ht : t = .boolean ∨ t = .byte ∨ t = .char ∨ t = .short) (h1 : cells ≤ cC) (h2 : slots ≤ cS) (hQ : Q (some (.int (nar t z))) T.heap) : Ends p e below s Z Q cC cS T (mkF m pc Ls (.int z :: st)) := by
  refine X.out (v := some (.int (nar t z))) (fun h => by rw [hret] at h; cases h) hQ h1 h2 fun fs hr => ?_
  obtain ⟨q0, locs, Y, N, Od⟩ := id X
  exact retN Y X.hx (q0.2.2.2.1.trans hret) ht (X.hb hd) hr
theorem E_areturn (X : Wk l Z R bytes mL ret own nm p e s m args below meth c T cells slots) {v : Value} {t : FieldType} (hd : decode bytes pc = .ok (.areturn, 1)) (hret : ret = some t) (ht : t.isReference = true) (hv : v.isRef = true) (hn : narrow t v = v) (h1 : cells ≤ cC) (h2 : slots ≤ cS) (hQ : Q (some v) T.heap) : Ends p e below s Z Q cC cS T (mkF m pc Ls (v :: st)) := by
  refine X.out (v := some v) (fun h => by rw [hret] at h; cases h) hQ h1 h2 fun fs hr => ?_
  obtain ⟨q0, locs, Y, N, Od⟩ := id X
  exact retOut Y X.hx (q0.2.2.2.1.trans hret) hn (Or.inr (Or.inr (Or.inr (Or.inr ⟨rfl, ht, hv⟩)))) (X.hb hd) hr
end Own
theorem pd_0 : parseMethodDescriptor "(IILjava/util/function/BiFunction;)I" = some ⟨[.int, .int, (.object "java/util/function/BiFunction")], some .int⟩ := by decide +kernel
theorem pd_1 : parseMethodDescriptor "()B" = some ⟨[], some .byte⟩ := by decide +kernel
theorem pd_2 : parseMethodDescriptor "(II)V" = some ⟨[.int, .int], none⟩ := by decide +kernel
theorem pd_3 : parseMethodDescriptor "([B)I" = some ⟨[(.array .byte)], some .int⟩ := by decide +kernel
theorem pd_4 : parseMethodDescriptor "(I[B)V" = some ⟨[.int, (.array .byte)], none⟩ := by decide +kernel
theorem pd_5 : parseMethodDescriptor "([BI)C" = some ⟨[(.array .byte), .int], some .char⟩ := by decide +kernel
theorem pd_6 : parseMethodDescriptor "()Z" = some ⟨[], some .boolean⟩ := by decide +kernel
theorem pd_7 : parseMethodDescriptor "(I)I" = some ⟨[.int], some .int⟩ := by decide +kernel
theorem pd_8 : parseMethodDescriptor "([BII)V" = some ⟨[(.array .byte), .int, .int], none⟩ := by decide +kernel
theorem pd_9 : parseMethodDescriptor "(I)[B" = some ⟨[.int], some (.array .byte)⟩ := by decide +kernel
theorem pd_10 : parseMethodDescriptor "([CI[BII)I" = some ⟨[(.array .char), .int, (.array .byte), .int, .int], some .int⟩ := by decide +kernel
theorem pd_11 : parseMethodDescriptor "([CII)[B" = some ⟨[(.array .char), .int, .int], some (.array .byte)⟩ := by decide +kernel
theorem pd_12 : parseMethodDescriptor "([BI)B" = some ⟨[(.array .byte), .int], some .byte⟩ := by decide +kernel
theorem pd_13 : parseMethodDescriptor "([CIILjava/lang/Void;)V" = some ⟨[(.array .char), .int, .int, (.object "java/lang/Void")], none⟩ := by decide +kernel
theorem pd_14 : parseMethodDescriptor "(I)Z" = some ⟨[.int], some .boolean⟩ := by decide +kernel
theorem pd_15 : parseMethodDescriptor "(I)C" = some ⟨[.int], some .char⟩ := by decide +kernel
theorem pd_16 : parseMethodDescriptor "(C)Z" = some ⟨[.char], some .boolean⟩ := by decide +kernel
theorem pd_17 : parseMethodDescriptor "(II)C" = some ⟨[.int, .int], some .char⟩ := by decide +kernel
theorem pd_18 : parseMethodDescriptor "()I" = some ⟨[], some .int⟩ := by decide +kernel
theorem pd_19 : parseMethodDescriptor "([CI)V" = some ⟨[(.array .char), .int], none⟩ := by decide +kernel
theorem pd_20 : parseMethodDescriptor "([C)V" = some ⟨[(.array .char)], none⟩ := by decide +kernel
theorem pd_21 : parseMethodDescriptor "(Ljava/lang/String;)Z" = some ⟨[(.object "java/lang/String")], some .boolean⟩ := by decide +kernel
theorem pd_22 : parseMethodDescriptor "(IC)Z" = some ⟨[.int, .char], some .boolean⟩ := by decide +kernel
theorem o_int {n : Nat} (h : n < 2147483648) : (Int32.ofNat n).toInt = n := by
  have := Int32.toInt_ofNat_of_lt (n := n) (by omega); simpa using this
theorem o_cl {n : Nat} (h : n < 2147483648) : (Int32.ofNat n).toNatClampNeg = n := by
  simp [Int32.toNatClampNeg, o_int h]
theorem o_nn {n : Nat} (h : n < 2147483648) : ¬ Int32.ofNat n < 0 := by
  rw [Int32.lt_iff_toInt_lt, o_int h]; show ¬ (n : Int) < 0; omega
theorem o_lt {i n : Nat} (hi : i < n) (h : n < 2147483648) : Int32.ofNat i < Int32.ofNat n := by
  rw [Int32.lt_iff_toInt_lt, o_int h, o_int (by omega)]; omega
theorem o_nlt {i n : Nat} (hi : n ≤ i) (h : i < 2147483648) : ¬ Int32.ofNat i < Int32.ofNat n := by
  rw [Int32.lt_iff_toInt_lt, o_int h, o_int (by omega)]; omega
theorem o_add {i : Nat} : Int32.ofNat i + (1 : Int32) = Int32.ofNat (i + 1) := by
  rw [Int32.ofNat_add]; rfl
theorem o_two {i : Nat} (h : 2 * i < 2147483648) : Int32.ofNat i <<< ((1 : Int32) &&& 31) = Int32.ofNat (2 * i) := by
  apply Int32.toInt_inj.mp
  have e := c_ishl (Int32.ofNat i) 1 1 (by decide)
  have r := rng32 (Int32.ofNat i <<< ((1 : Int32) &&& 31))
  rw [o_int (by omega)] at e
  rw [o_int h]
  omega
theorem o_half {i : Nat} (h : 2 * i < 2147483648) : Int32.ofNat (2 * i) >>> ((1 : Int32) &&& 31) = Int32.ofNat i := by
  apply Int32.toInt_inj.mp
  have e := c_ishr (Int32.ofNat (2 * i)) 1 1 (by decide)
  rw [o_int h] at e
  rw [o_int (by omega), e]
  omega
theorem o_zero (N : Int32) : N >>> ((0 : Int32) &&& 31) = N := by
  apply Int32.toInt_inj.mp
  have e := c_ishr N 0 0 (by decide)
  rw [e]; simp
theorem o_i2c {c : Int32} (h1 : ¬ c < 0) (h2 : ¬ 65535 < c) : c.toUInt32.toUInt16.toUInt32.toInt32 = c := by
  apply Int32.toInt_inj.mp
  have e := c_i2c c
  rw [Int32.lt_iff_toInt_lt] at h1 h2
  have o1 : (0 : Int32).toInt = 0 := rfl
  have o2 : (65535 : Int32).toInt = 65535 := rfl
  omega
theorem o_nar {c : Int32} (h1 : ¬ c < 0) (h2 : ¬ 65535 < c) : nar .char c = c := o_i2c h1 h2
theorem o_lat {c : Int32} (h1 : ¬ c < 0) (h2 : ¬ 255 < c) : nar .char ((c.toInt8.toInt32 &&& (255 : Int32)).toUInt32.toUInt16.toUInt32.toInt32) = c := by
  have o1 : (0 : Int32).toInt = 0 := rfl
  have o2 : (255 : Int32).toInt = 255 := rfl
  have o3 : (65535 : Int32).toInt = 65535 := rfl
  rw [Int32.lt_iff_toInt_lt] at h1 h2
  have e : c.toInt8.toInt32 &&& (255 : Int32) = c := by
    apply Int32.toInt_inj.mp
    have e1 := c_mask c.toInt8.toInt32 255 8 (by decide) (by decide)
    have e2 := c_i2b c
    rw [e1]; omega
  rw [e, o_i2c, o_nar] <;> (rw [Int32.lt_iff_toInt_lt]; omega)
theorem o_u16 {c : Int32} (h1 : ¬ c < 0) (h2 : ¬ 65535 < c) : nar .char ((((c >>> ((0 : Int32) &&& 31)).toInt8.toInt32 &&& (255 : Int32)) <<< ((0 : Int32) &&& 31) ||| ((c >>> ((8 : Int32) &&& 31)).toInt8.toInt32 &&& (255 : Int32)) <<< ((8 : Int32) &&& 31)).toUInt32.toUInt16.toUInt32.toInt32) = c := by
  have o1 : (0 : Int32).toInt = 0 := rfl
  have o2 : (255 : Int32).toInt = 255 := rfl
  have o3 : (65535 : Int32).toInt = 65535 := rfl
  rw [Int32.lt_iff_toInt_lt] at h1 h2
  have a0 : c >>> ((0 : Int32) &&& 31) = c := o_zero c
  have a1 := c_ishr c 8 8 (by decide)
  rw [a0]
  generalize c >>> ((8 : Int32) &&& 31) = d at *
  have b1 := c_mask c.toInt8.toInt32 255 8 (by decide) (by decide)
  have b2 := c_i2b c
  have b3 := c_mask d.toInt8.toInt32 255 8 (by decide) (by decide)
  have b4 := c_i2b d
  generalize c.toInt8.toInt32 &&& (255 : Int32) = x at *
  generalize d.toInt8.toInt32 &&& (255 : Int32) = y at *
  have d1 := c_ishl x 0 0 (by decide)
  have d2 := c_ishl y 8 8 (by decide)
  have r1 := rng32 (x <<< ((0 : Int32) &&& 31))
  have r2 := rng32 (y <<< ((8 : Int32) &&& 31))
  generalize x <<< ((0 : Int32) &&& 31) = u at *
  generalize y <<< ((8 : Int32) &&& 31) = w at *
  have f := c_or' u w 8 (by decide) 256 rfl (by omega) (by omega) (by omega)
  have r3 := rng32 (u ||| w)
  have e : u ||| w = c := by
    apply Int32.toInt_inj.mp
    omega
  rw [e, o_i2c, o_nar] <;> (rw [Int32.lt_iff_toInt_lt]; omega)
theorem o_b8 (c : Int32) : c.toInt8.toInt32.toInt8.toInt32 = c.toInt8.toInt32 := by simp
theorem o_ltc {n : Nat} (h : n ≤ 4000) : Int32.ofNat n < (1073741823 : Int32) := by
  rw [Int32.lt_iff_toInt_lt, o_int (by omega)]; show (n : Int) < 1073741823; omega
theorem o_cfl {n : Nat} (h : 0 < n) (h2 : n ≤ 4000) : nar .byte ((((Int32.ofNat n - Int32.ofNat (2 * n)).toUInt32 >>> ((31 : Int32) &&& 31).toUInt32).toInt32).toInt8.toInt32) = 1 := by
  have e := c_isub (Int32.ofNat n) (Int32.ofNat (2 * n))
  rw [o_int (by omega), o_int (by omega)] at e
  have r := rng32 (Int32.ofNat n - Int32.ofNat (2 * n))
  have f := c_iushr (Int32.ofNat n - Int32.ofNat (2 * n)) 31 31 (by decide) (by decide)
  have g : ((Int32.ofNat n - Int32.ofNat (2 * n)).toUInt32 >>> ((31 : Int32) &&& 31).toUInt32).toInt32 = 1 := by
    apply Int32.toInt_inj.mp
    rw [f]; show _ = (1 : Int); omega
  rw [g]; rfl

def Sts (Z : State) (G1 : Int32) (G3 : Value) : Prop := Sta Z Z.heap "java/lang/String" "COMPACT_STRINGS" "Z" (.int G1) ∧ ¬ G1 = 0 ∧ Sta Z Z.heap "jdk/internal/util/Preconditions" "SIOOBE_FORMATTER" "Ljava/util/function/BiFunction;" G3 ∧ G3.isRef = true ∧ Sta Z Z.heap "java/lang/StringUTF16" "$assertionsDisabled" "Z" (.int 1) ∧ Sta Z Z.heap "java/lang/StringUTF16" "HI_BYTE_SHIFT" "I" (.int 0) ∧ Sta Z Z.heap "java/lang/StringUTF16" "LO_BYTE_SHIFT" "I" (.int 8)
theorem Sts.ref {Z : State} {G1 : Int32} {G3 : Value} (h : Sts Z G1 G3) : G3.isRef = true := h.2.2.2.1
def lo8 (c : Int32) : Value := .int c.toInt8.toInt32
def u16 (cs : List Int32) : List Value := cs.flatMap fun c => [.int (c >>> ((0 : Int32) &&& 31)).toInt8.toInt32, .int (c >>> ((8 : Int32) &&& 31)).toInt8.toInt32]
def Cod (cs : List Int32) (cd N : Int32) (vs : List Value) : Prop := (cd = 0 ∧ N = Int32.ofNat cs.length ∧ vs = cs.map lo8 ∧ ∀ c ∈ cs, ¬ (255 : Int32) < c) ∨ (cd = 1 ∧ N = Int32.ofNat (2 * cs.length) ∧ vs = u16 cs)
/-- the String x holds the chars cs; its array is t -/
def OStr (Z : State) (h : Heap) (x t : Addr) (cs : List Int32) : Prop := ∃ (kb : ClassId) (cd N : Int32) (vs : List Value), Exa Z h x "java/lang/String" ∧ Fld Z h x "java/lang/String" "value" "[B" (.ref t) ∧ Fld Z h x "java/lang/String" "coder" "B" (.int cd) ∧ Arv Z h t kb .byte N vs (.int (0 : Int32)) ∧ Cod cs cd N vs ∧ (∀ c ∈ cs, ¬ c < 0 ∧ ¬ (65535 : Int32) < c) ∧ cs.length ≤ 4000
theorem OStr.exa {Z : State} {h : Heap} {x t : Addr} {cs : List Int32} (S : OStr Z h x t cs) : Exa Z h x "java/lang/String" := by obtain ⟨_, _, _, _, E, -⟩ := S; exact E
theorem OStr.lt {Z : State} {h : Heap} {x t : Addr} {cs : List Int32} (S : OStr Z h x t cs) : x < h.size := S.exa.lt
theorem OStr.ltv {Z : State} {h : Heap} {x t : Addr} {cs : List Int32} (S : OStr Z h x t cs) : t < h.size := by obtain ⟨_, _, _, _, _, _, _, V, -⟩ := S; exact V.lt
theorem OStr.keep {Z : State} {h h' : Heap} {ws : List Addr} {x t : Addr} {cs : List Int32} (S : OStr Z h x t cs) (K : Keep h h' ws) (h1 : x ∉ ws) (h2 : t ∉ ws) : OStr Z h' x t cs := by
  obtain ⟨kb, cd, N, vs, E, F, G, V, r⟩ := S; exact ⟨kb, cd, N, vs, E.keep K, F.keep K h1, G.keep K h1, V.keep K h2, r⟩
theorem own_getD {cs : List Int32} {i : Nat} (f : Int32 → Value) {d : Value} (h : i < cs.length) (hn : cs.length ≤ 4000) : (cs.map f).getD (Int32.ofNat i).toNatClampNeg d = f (cs.getD i 0) := by
  rw [o_cl (by omega)]; simp [List.getD_eq_getElem?_getD, h]
theorem own_mem {cs : List Int32} {i : Nat} (h : i < cs.length) : cs.getD i 0 ∈ cs := by simp [List.getD_eq_getElem?_getD, h]
theorem own_take {cs : List Int32} {i : Nat} (f : Int32 → Value) (h : i < cs.length) : (cs.take (i + 1)).map f = (cs.take i).map f ++ [f (cs.getD i 0)] := by
  rw [List.take_add_one, List.map_append]; congr 1; simp [List.getD_eq_getElem?_getD, h]
theorem own_all {P : Int32 → Prop} {cs : List Int32} {i : Nat} {ch : Int32} (h : i < cs.length) (hch : ch = cs.getD i 0) (hall : ∀ c ∈ cs.take i, P c) (hc : P ch) : ∀ c ∈ cs.take (i + 1), P c := by
  intro c hc2
  rw [List.take_add_one] at hc2
  rcases List.mem_append.mp hc2 with hc2 | hc2
  · exact hall c hc2
  · have : c = ch := by rw [hch]; simp [List.getD_eq_getElem?_getD, h] at hc2 ⊢; exact hc2
    rw [this]; exact hc
theorem own_tl {cs : List Int32} {i : Nat} (f : Int32 → Value) (h : i ≤ cs.length) : ((cs.take i).map f).length = i := by simp; omega
theorem Cod.cd8 {cs : List Int32} {cd N : Int32} {vs : List Value} (h : Cod cs cd N vs) : nar .byte cd = cd := by rcases h with ⟨rfl, -⟩ | ⟨rfl, -⟩ <;> rfl
theorem Cod.len {cs : List Int32} {cd N : Int32} {vs : List Value} (h : Cod cs cd N vs) (hl : cs.length ≤ 4000) : N >>> (cd &&& 31) = Int32.ofNat cs.length := by 
  rcases h with ⟨rfl, rfl, -⟩ | ⟨rfl, rfl, -⟩
  · exact o_zero _
  · exact o_half (by omega)
theorem Cod.n0 {cs : List Int32} {cd N : Int32} {vs : List Value} (h : Cod cs cd N vs) (hl : cs.length ≤ 4000) : N = 0 ↔ cs.length = 0 := by
  have e : ∀ n : Nat, n < 2147483648 → (Int32.ofNat n = 0 ↔ n = 0) := fun n hn => by
    rw [← Int32.toInt_inj, o_int hn]; show ((n : Int) = 0) ↔ _; omega
  rcases h with ⟨-, rfl, -⟩ | ⟨-, rfl, -⟩
  · exact e _ (by omega)
  · rw [e _ (by omega)]; omega
theorem u16_len (cs : List Int32) : (u16 cs).length = 2 * cs.length := by
  induction cs with
  | nil => rfl
  | cons c r ih => simp only [u16, List.flatMap_cons, List.length_append] at ih ⊢; rw [ih]; simp; omega
theorem u16_get (cs : List Int32) (i : Nat) (h : i < cs.length) : (u16 cs)[2 * i]? = some (.int (cs.getD i 0 >>> ((0 : Int32) &&& 31)).toInt8.toInt32) ∧ (u16 cs)[2 * i + 1]? = some (.int (cs.getD i 0 >>> ((8 : Int32) &&& 31)).toInt8.toInt32) := by
  induction cs generalizing i with
  | nil => simp at h
  | cons c r ih =>
    cases i with
    | zero => exact ⟨rfl, rfl⟩
    | succ i =>
      have q := ih i (by simpa using h)
      simp only [u16, List.flatMap_cons] at q ⊢
      have e1 : 2 * (i + 1) = 2 * i + 2 := by omega
      have e2 : 2 * (i + 1) + 1 = 2 * i + 1 + 2 := by omega
      rw [e2, e1]
      simpa using q
theorem u16_take {cs : List Int32} {i : Nat} (h : i < cs.length) : u16 (cs.take (i + 1)) = u16 (cs.take i) ++ [.int (cs.getD i 0 >>> ((0 : Int32) &&& 31)).toInt8.toInt32, .int (cs.getD i 0 >>> ((8 : Int32) &&& 31)).toInt8.toInt32] := by
  rw [List.take_add_one]; unfold u16; rw [List.flatMap_append]; congr 1; simp [List.getD_eq_getElem?_getD, h]

theorem d_pci_0 : decode jdk_41_method_11_code 0 = .ok (.iload_n 0, 1) := by decide +kernel
theorem d_pci_1 : decode jdk_41_method_11_code 1 = .ok (.ifCond .lt 8, 3) := by decide +kernel
theorem d_pci_4 : decode jdk_41_method_11_code 4 = .ok (.iload_n 0, 1) := by decide +kernel
theorem d_pci_5 : decode jdk_41_method_11_code 5 = .ok (.iload_n 1, 1) := by decide +kernel
theorem d_pci_6 : decode jdk_41_method_11_code 6 = .ok (.if_icmp .lt 10, 3) := by decide +kernel
theorem d_pci_16 : decode jdk_41_method_11_code 16 = .ok (.iload_n 0, 1) := by decide +kernel
theorem d_pci_17 : decode jdk_41_method_11_code 17 = .ok (.ireturn, 1) := by decide +kernel
abbrev rm_pci : Room := ({ frames := 0, cells := 0, slots := 0, locals := 0 } : Room)
def Q_pci (Z : State) (i n : Int32) (h0 : Heap) (v : Option Value) (h : Heap) : Prop := v = some (.int i) ∧ h = h0
set_option maxRecDepth 65536 in
set_option maxHeartbeats 40000000 in
theorem ct_pci (l : Launch) (Z : State) (a0 : Array Value) (hw : ∀ d ∈ tables_1, d.before a0 Z = true) (G1 : Int32) (G3 : Value) (OS : Sts Z G1 G3) (i n : Int32) {h0 : Heap} (O : Ext Z.heap h0) (h1 : ¬ i < 0) (h2 : i < n) : Ct l Z (⟨"jdk/internal/util/Preconditions", "checkIndex", "(IILjava/util/function/BiFunction;)I"⟩ : MethodName) jdk_41_method_11_code 3 (some .int) rm_pci #[(.int i), (.int n), G3] h0 (Q_pci Z i n h0) := by
  refine Ct.of_body (Ls := #[.val (.int i), .val (.int n), .val G3]) (by decide +kernel) O (fun m => by first | rfl | (simp [entryFrame, mkF, argsToLocals, Value.category]; done) | (rcases ref_cases (Sts.ref OS) with rfl | ⟨r, rfl⟩ <;> rfl)) ?_
  intro p e s m below meth c T0 X0 e0
  subst e0
  refine E_iloadN X0 d_pci_0 rfl (pc' := 1) rfl ?_
  refine E_ifF X0 d_pci_1 (XT.i0_lt_f h1) (pc' := 4) rfl ?_
  refine E_iloadN X0 d_pci_4 rfl (pc' := 5) rfl ?_
  refine E_iloadN X0 d_pci_5 rfl (pc' := 6) rfl ?_
  refine E_icT X0 d_pci_6 (XT.ii_lt_t h2) (pc' := 16) (by decide) rfl ?_
  refine E_iloadN X0 d_pci_16 rfl (pc' := 17) rfl ?_
  exact E_ireturnI X0 d_pci_17 rfl (by decide) (by decide) (⟨rfl, rfl⟩)
theorem d_sci_0 : decode jdk_42_method_155_code 0 = .ok (.iload_n 0, 1) := by decide +kernel
theorem d_sci_1 : decode jdk_42_method_155_code 1 = .ok (.iload_n 1, 1) := by decide +kernel
theorem d_sci_2 : decode jdk_42_method_155_code 2 = .ok (.getstatic 1053, 3) := by decide +kernel
theorem d_sci_5 : decode jdk_42_method_155_code 5 = .ok (.invokestatic 1059, 3) := by decide +kernel
theorem d_sci_8 : decode jdk_42_method_155_code 8 = .ok (.pop, 1) := by decide +kernel
theorem d_sci_9 : decode jdk_42_method_155_code 9 = .ok (.return_, 1) := by decide +kernel
abbrev rm_sci : Room := ({ frames := 1, cells := 0, slots := 0, locals := 14 } : Room)
def Q_sci (Z : State) (i n : Int32) (h0 : Heap) (v : Option Value) (h : Heap) : Prop := v = none ∧ h = h0
set_option maxRecDepth 65536 in
set_option maxHeartbeats 40000000 in
theorem ct_sci (l : Launch) (Z : State) (a0 : Array Value) (hw : ∀ d ∈ tables_1, d.before a0 Z = true) (G1 : Int32) (G3 : Value) (OS : Sts Z G1 G3) (i n : Int32) {h0 : Heap} (O : Ext Z.heap h0) (h1 : ¬ i < 0) (h2 : i < n) : Ct l Z (⟨"java/lang/String", "checkIndex", "(II)V"⟩ : MethodName) jdk_42_method_155_code 2 none rm_sci #[(.int i), (.int n)] h0 (Q_sci Z i n h0) := by
  refine Ct.of_body (Ls := #[.val (.int i), .val (.int n)]) (by decide +kernel) O (fun m => by first | rfl | (simp [entryFrame, mkF, argsToLocals, Value.category]; done) | (rcases ref_cases (Sts.ref OS) with rfl | ⟨r, rfl⟩ <;> rfl)) ?_
  intro p e s m below meth c T0 X0 e0
  subst e0
  refine E_iloadN X0 d_sci_0 rfl (pc' := 1) rfl ?_
  refine E_iloadN X0 d_sci_1 rfl (pc' := 2) rfl ?_
  refine E_getstatic X0 d_sci_2 (hw _ (List.mem_of_getElem? (i := 82) rfl)) Via.refl OS.2.2.1 (pc' := 5) rfl ?_
  intro T1 X2 e3
  refine E_static X2 (rm := rm_pci) d_sci_5 (hw _ (List.mem_of_getElem? (i := 84) rfl)) (hw _ (List.mem_of_getElem? (i := 85) rfl)) (hw _ (List.mem_of_getElem? (i := 83) rfl)) (hw _ (List.mem_of_getElem? (i := 86) rfl)) (by decide) (argsL := [(.int i), (.int n), G3]) (st := []) rfl (ct_pci l Z a0 hw G1 G3 OS i n X2.old h1 h2) (lenOf (pd_0) rfl) rfl (by decide) (by decide) (by decide) (Nat.le_of_ble_eq_true rfl) (pc' := 8) rfl ?_
  intro T4 _ X5 hQ6
  obtain ⟨rfl, e7⟩ := hQ6
  show Ends p e below s Z _ _ _ T4 (mkF m 8 #[.val (.int i), .val (.int n)] [(.int i)])
  refine E_pop X5 d_sci_8 rfl (pc' := 9) rfl ?_
  exact E_return X5 d_sci_9 rfl (by decide) (by decide) (⟨rfl, (e7.trans e3)⟩)
theorem d_cod_0 : decode jdk_42_method_152_code 0 = .ok (.getstatic 38, 3) := by decide +kernel
theorem d_cod_3 : decode jdk_42_method_152_code 3 = .ok (.ifCond .eq 10, 3) := by decide +kernel
theorem d_cod_6 : decode jdk_42_method_152_code 6 = .ok (.aload_n 0, 1) := by decide +kernel
theorem d_cod_7 : decode jdk_42_method_152_code 7 = .ok (.getfield 15, 3) := by decide +kernel
theorem d_cod_10 : decode jdk_42_method_152_code 10 = .ok (.goto 4, 3) := by decide +kernel
theorem d_cod_14 : decode jdk_42_method_152_code 14 = .ok (.ireturn, 1) := by decide +kernel
abbrev rm_cod : Room := ({ frames := 0, cells := 0, slots := 0, locals := 0 } : Room)
def Q_cod (Z : State) (x : Addr) (cd : Int32) (h0 : Heap) (v : Option Value) (h : Heap) : Prop := v = some (.int cd) ∧ h = h0
set_option maxRecDepth 65536 in
set_option maxHeartbeats 40000000 in
theorem ct_cod (l : Launch) (Z : State) (a0 : Array Value) (hw : ∀ d ∈ tables_1, d.before a0 Z = true) (G1 : Int32) (G3 : Value) (OS : Sts Z G1 G3) (x : Addr) (cd : Int32) {h0 : Heap} (O : Ext Z.heap h0) (C0 : Fld Z h0 x "java/lang/String" "coder" "B" (.int cd)) (hcd : nar .byte cd = cd) : Ct l Z (⟨"java/lang/String", "coder", "()B"⟩ : MethodName) jdk_42_method_152_code 1 (some .byte) rm_cod #[(.ref x)] h0 (Q_cod Z x cd h0) := by
  refine Ct.of_body (Ls := #[.val (.ref x)]) (by decide +kernel) O (fun m => by first | rfl | (simp [entryFrame, mkF, argsToLocals, Value.category]; done) | (rcases ref_cases (Sts.ref OS) with rfl | ⟨r, rfl⟩ <;> rfl)) ?_
  intro p e s m below meth c T0 X0 e0
  subst e0
  refine E_getstatic X0 d_cod_0 (hw _ (List.mem_of_getElem? (i := 35) rfl)) Via.refl OS.1 (pc' := 3) rfl ?_
  intro T1 X2 e3
  rw [← e3] at C0
  refine E_ifF X2 d_cod_3 (XT.i0_eq_f OS.2.1) (pc' := 6) rfl ?_
  refine E_aloadN X2 d_cod_6 rfl rfl (pc' := 7) rfl ?_
  refine E_getfield X2 d_cod_7 (hw _ (List.mem_of_getElem? (i := 47) rfl)) Via.refl C0 (pc' := 10) rfl ?_
  intro T4 X5 e6
  rw [← e6] at C0
  refine E_goto X5 d_cod_10 (pc' := 14) (by decide) rfl ?_
  exact E_ireturnN X5 (t := .byte) d_cod_14 rfl (by simp) (by decide) (by decide) (⟨by rw [hcd], (e6.trans e3)⟩)
theorem d_lat_0 : decode jdk_42_method_154_code 0 = .ok (.getstatic 38, 3) := by decide +kernel
theorem d_lat_3 : decode jdk_42_method_154_code 3 = .ok (.ifCond .eq 14, 3) := by decide +kernel
theorem d_lat_6 : decode jdk_42_method_154_code 6 = .ok (.aload_n 0, 1) := by decide +kernel
theorem d_lat_7 : decode jdk_42_method_154_code 7 = .ok (.getfield 15, 3) := by decide +kernel
theorem d_lat_10 : decode jdk_42_method_154_code 10 = .ok (.ifCond .ne 7, 3) := by decide +kernel
theorem d_lat_13 : decode jdk_42_method_154_code 13 = .ok (.iconst 1, 1) := by decide +kernel
theorem d_lat_14 : decode jdk_42_method_154_code 14 = .ok (.goto 4, 3) := by decide +kernel
theorem d_lat_17 : decode jdk_42_method_154_code 17 = .ok (.iconst 0, 1) := by decide +kernel
theorem d_lat_18 : decode jdk_42_method_154_code 18 = .ok (.ireturn, 1) := by decide +kernel
abbrev rm_lat : Room := ({ frames := 0, cells := 0, slots := 0, locals := 0 } : Room)
def Q_lat (Z : State) (x : Addr) (cd : Int32) (h0 : Heap) (v : Option Value) (h : Heap) : Prop := ∃ z, v = some (.int z) ∧ h = h0 ∧ (cd = 0 → z = 1) ∧ (¬ cd = 0 → z = 0)
set_option maxRecDepth 65536 in
set_option maxHeartbeats 40000000 in
theorem ct_lat (l : Launch) (Z : State) (a0 : Array Value) (hw : ∀ d ∈ tables_1, d.before a0 Z = true) (G1 : Int32) (G3 : Value) (OS : Sts Z G1 G3) (x : Addr) (cd : Int32) {h0 : Heap} (O : Ext Z.heap h0) (C0 : Fld Z h0 x "java/lang/String" "coder" "B" (.int cd)) : Ct l Z (⟨"java/lang/String", "isLatin1", "()Z"⟩ : MethodName) jdk_42_method_154_code 1 (some .boolean) rm_lat #[(.ref x)] h0 (Q_lat Z x cd h0) := by
  refine Ct.of_body (Ls := #[.val (.ref x)]) (by decide +kernel) O (fun m => by first | rfl | (simp [entryFrame, mkF, argsToLocals, Value.category]; done) | (rcases ref_cases (Sts.ref OS) with rfl | ⟨r, rfl⟩ <;> rfl)) ?_
  intro p e s m below meth c T0 X0 e0
  subst e0
  refine E_getstatic X0 d_lat_0 (hw _ (List.mem_of_getElem? (i := 35) rfl)) Via.refl OS.1 (pc' := 3) rfl ?_
  intro T1 X2 e3
  rw [← e3] at C0
  refine E_ifF X2 d_lat_3 (XT.i0_eq_f OS.2.1) (pc' := 6) rfl ?_
  refine E_aloadN X2 d_lat_6 rfl rfl (pc' := 7) rfl ?_
  refine E_getfield X2 d_lat_7 (hw _ (List.mem_of_getElem? (i := 47) rfl)) Via.refl C0 (pc' := 10) rfl ?_
  intro T4 X5 e6
  rw [← e6] at C0
  by_cases hc : cd = 0
  · skip
    refine E_ifF X5 d_lat_10 (XT.i0_ne_f hc) (pc' := 13) rfl ?_
    refine E_iconst X5 (v := (1 : Int32)) d_lat_13 rfl (pc' := 14) rfl ?_
    refine E_goto X5 d_lat_14 (pc' := 18) (by decide) rfl ?_
    exact E_ireturnN X5 (t := .boolean) d_lat_18 rfl (by simp) (by decide) (by decide) (⟨_, rfl, (e6.trans e3), fun _ => rfl, fun q => absurd hc q⟩)
  · skip
    refine E_ifT X5 d_lat_10 (XT.i0_ne_t hc) (pc' := 17) (by decide) rfl ?_
    refine E_iconst X5 (v := (0 : Int32)) d_lat_17 rfl (pc' := 18) rfl ?_
    exact E_ireturnN X5 (t := .boolean) d_lat_18 rfl (by simp) (by decide) (by decide) (⟨_, rfl, (e6.trans e3), fun q => absurd q hc, fun _ => rfl⟩)
theorem d_slen_0 : decode jdk_42_method_54_code 0 = .ok (.aload_n 0, 1) := by decide +kernel
theorem d_slen_1 : decode jdk_42_method_54_code 1 = .ok (.getfield 9, 3) := by decide +kernel
theorem d_slen_4 : decode jdk_42_method_54_code 4 = .ok (.arraylength, 1) := by decide +kernel
theorem d_slen_5 : decode jdk_42_method_54_code 5 = .ok (.aload_n 0, 1) := by decide +kernel
theorem d_slen_6 : decode jdk_42_method_54_code 6 = .ok (.invokevirtual 335, 3) := by decide +kernel
theorem d_slen_9 : decode jdk_42_method_54_code 9 = .ok (.ishr, 1) := by decide +kernel
theorem d_slen_10 : decode jdk_42_method_54_code 10 = .ok (.ireturn, 1) := by decide +kernel
abbrev rm_slen : Room := ({ frames := 1, cells := 0, slots := 0, locals := 13 } : Room)
def Q_slen (Z : State) (x t : Addr) (cs : List Int32) (h0 : Heap) (v : Option Value) (h : Heap) : Prop := v = some (.int (Int32.ofNat cs.length)) ∧ h = h0
set_option maxRecDepth 65536 in
set_option maxHeartbeats 40000000 in
theorem ct_slen (l : Launch) (Z : State) (a0 : Array Value) (hw : ∀ d ∈ tables_1, d.before a0 Z = true) (G1 : Int32) (G3 : Value) (OS : Sts Z G1 G3) (x t : Addr) (cs : List Int32) {h0 : Heap} (O : Ext Z.heap h0) (S0 : OStr Z h0 x t cs) : Ct l Z (⟨"java/lang/String", "length", "()I"⟩ : MethodName) jdk_42_method_54_code 1 (some .int) rm_slen #[(.ref x)] h0 (Q_slen Z x t cs h0) := by
  refine Ct.of_body (Ls := #[.val (.ref x)]) (by decide +kernel) O (fun m => by first | rfl | (simp [entryFrame, mkF, argsToLocals, Value.category]; done) | (rcases ref_cases (Sts.ref OS) with rfl | ⟨r, rfl⟩ <;> rfl)) ?_
  intro p e s m below meth c T0 X0 e0
  subst e0
  obtain ⟨kb, cd, N, vs, E0, F0, C0, V0, hcod, hpc, hlen⟩ := S0
  refine E_aloadN X0 d_slen_0 rfl rfl (pc' := 1) rfl ?_
  refine E_getfield X0 d_slen_1 (hw _ (List.mem_of_getElem? (i := 49) rfl)) Via.refl F0 (pc' := 4) rfl ?_
  intro T1 X2 e3
  rw [← e3] at E0 F0 C0 V0
  refine E_arraylength X2 d_slen_4 V0 (pc' := 5) rfl ?_
  refine E_aloadN X2 d_slen_5 rfl rfl (pc' := 6) rfl ?_
  refine E_virtual X2 (rm := rm_cod) (a := x) (D := "java/lang/String") d_slen_6 (hw _ (List.mem_of_getElem? (i := 60) rfl)) (hw _ (List.mem_of_getElem? (i := 61) rfl)) (hw _ (List.mem_of_getElem? (i := 63) rfl)) (hw _ (List.mem_of_getElem? (i := 62) rfl)) (notFace_of_selects (args := #[]) (mvT X2.hZ (hw _ (List.mem_of_getElem? (i := 63) rfl)))) (by decide) E0 (hw _ (List.mem_of_getElem? (i := 24) rfl)) (hw _ (List.mem_of_getElem? (i := 64) rfl)) (argsL := []) (st := [(.int N)]) rfl (ct_cod l Z a0 hw G1 G3 OS x cd X2.old C0 hcod.cd8) (lenOf (pd_1) rfl) rfl (by decide) (by decide) (by decide) (Nat.le_of_ble_eq_true rfl) (pc' := 9) rfl ?_
  intro T4 _ X5 hQ6
  obtain ⟨rfl, e7⟩ := hQ6
  rw [← e7] at E0 F0 C0 V0
  show Ends p e below s Z _ _ _ T4 (mkF m 9 #[.val (.ref x)] [(.int cd), (.int N)])
  refine E_ishr X5 (v := (Int32.ofNat cs.length)) d_slen_9 (hcod.len hlen) (pc' := 10) rfl ?_
  exact E_ireturnI X5 d_slen_10 rfl (by decide) (by decide) (⟨rfl, (e7.trans e3)⟩)
theorem d_lch_0 : decode jdk_43_method_2_code 0 = .ok (.iload_n 1, 1) := by decide +kernel
theorem d_lch_1 : decode jdk_43_method_2_code 1 = .ok (.aload_n 0, 1) := by decide +kernel
theorem d_lch_2 : decode jdk_43_method_2_code 2 = .ok (.arraylength, 1) := by decide +kernel
theorem d_lch_3 : decode jdk_43_method_2_code 3 = .ok (.invokestatic 9, 3) := by decide +kernel
theorem d_lch_6 : decode jdk_43_method_2_code 6 = .ok (.aload_n 0, 1) := by decide +kernel
theorem d_lch_7 : decode jdk_43_method_2_code 7 = .ok (.iload_n 1, 1) := by decide +kernel
theorem d_lch_8 : decode jdk_43_method_2_code 8 = .ok (.baload, 1) := by decide +kernel
theorem d_lch_9 : decode jdk_43_method_2_code 9 = .ok (.sipush 255, 3) := by decide +kernel
theorem d_lch_12 : decode jdk_43_method_2_code 12 = .ok (.iand, 1) := by decide +kernel
theorem d_lch_13 : decode jdk_43_method_2_code 13 = .ok (.i2c, 1) := by decide +kernel
theorem d_lch_14 : decode jdk_43_method_2_code 14 = .ok (.ireturn, 1) := by decide +kernel
abbrev rm_lch : Room := ({ frames := 2, cells := 0, slots := 0, locals := 27 } : Room)
def Q_lch (Z : State) (t : Addr) (kb : ClassId) (N j b : Int32) (vs : List Value) (h0 : Heap) (v : Option Value) (h : Heap) : Prop := v = some (.int (nar .char ((b &&& (255 : Int32)).toUInt32.toUInt16.toUInt32.toInt32))) ∧ h = h0
set_option maxRecDepth 65536 in
set_option maxHeartbeats 40000000 in
theorem ct_lch (l : Launch) (Z : State) (a0 : Array Value) (hw : ∀ d ∈ tables_1, d.before a0 Z = true) (G1 : Int32) (G3 : Value) (OS : Sts Z G1 G3) (t : Addr) (kb : ClassId) (N j b : Int32) (vs : List Value) {h0 : Heap} (O : Ext Z.heap h0) (V0 : Arv Z h0 t kb .byte N vs (.int (0 : Int32))) (h1 : ¬ j < 0) (h2 : j < N) (hv : vs.getD j.toNatClampNeg (.int (0 : Int32)) = .int b) : Ct l Z (⟨"java/lang/StringLatin1", "charAt", "([BI)C"⟩ : MethodName) jdk_43_method_2_code 2 (some .char) rm_lch #[(.ref t), (.int j)] h0 (Q_lch Z t kb N j b vs h0) := by
  refine Ct.of_body (Ls := #[.val (.ref t), .val (.int j)]) (by decide +kernel) O (fun m => by first | rfl | (simp [entryFrame, mkF, argsToLocals, Value.category]; done) | (rcases ref_cases (Sts.ref OS) with rfl | ⟨r, rfl⟩ <;> rfl)) ?_
  intro p e s m below meth c T0 X0 e0
  subst e0
  refine E_iloadN X0 d_lch_0 rfl (pc' := 1) rfl ?_
  refine E_aloadN X0 d_lch_1 rfl rfl (pc' := 2) rfl ?_
  refine E_arraylength X0 d_lch_2 V0 (pc' := 3) rfl ?_
  refine E_static X0 (rm := rm_sci) d_lch_3 (hw _ (List.mem_of_getElem? (i := 79) rfl)) (hw _ (List.mem_of_getElem? (i := 80) rfl)) (hw _ (List.mem_of_getElem? (i := 24) rfl)) (hw _ (List.mem_of_getElem? (i := 81) rfl)) (by decide) (argsL := [(.int j), (.int N)]) (st := []) rfl (ct_sci l Z a0 hw G1 G3 OS j N X0.old h1 h2) (lenOf (pd_2) rfl) rfl (by decide) (by decide) (by decide) (Nat.le_of_ble_eq_true rfl) (pc' := 6) rfl ?_
  intro T1 _ X2 hQ3
  obtain ⟨rfl, e4⟩ := hQ3
  rw [← e4] at V0
  show Ends p e below s Z _ _ _ T1 (mkF m 6 #[.val (.ref t), .val (.int j)] [])
  refine E_aloadN X2 d_lch_6 rfl rfl (pc' := 7) rfl ?_
  refine E_iloadN X2 d_lch_7 rfl (pc' := 8) rfl ?_
  refine E_baload X2 (v := (.int b)) d_lch_8 V0 ⟨h1, h2⟩ hv (pc' := 9) rfl ?_
  refine E_sipush X2 (v := (255 : Int32)) d_lch_9 rfl (pc' := 12) rfl ?_
  refine E_iand X2 d_lch_12 rfl (pc' := 13) rfl ?_
  refine E_i2c X2 d_lch_13 rfl (pc' := 14) rfl ?_
  exact E_ireturnN X2 (t := .char) d_lch_14 rfl (by simp) (by decide) (by decide) (⟨rfl, e4⟩)
theorem d_ulen_0 : decode jdk_52_method_6_code 0 = .ok (.aload_n 0, 1) := by decide +kernel
theorem d_ulen_1 : decode jdk_52_method_6_code 1 = .ok (.arraylength, 1) := by decide +kernel
theorem d_ulen_2 : decode jdk_52_method_6_code 2 = .ok (.iconst 1, 1) := by decide +kernel
theorem d_ulen_3 : decode jdk_52_method_6_code 3 = .ok (.ishr, 1) := by decide +kernel
theorem d_ulen_4 : decode jdk_52_method_6_code 4 = .ok (.ireturn, 1) := by decide +kernel
abbrev rm_ulen : Room := ({ frames := 0, cells := 0, slots := 0, locals := 0 } : Room)
def Q_ulen (Z : State) (t : Addr) (kb : ClassId) (n : Nat) (vs : List Value) (h0 : Heap) (v : Option Value) (h : Heap) : Prop := v = some (.int (Int32.ofNat n)) ∧ h = h0
set_option maxRecDepth 65536 in
set_option maxHeartbeats 40000000 in
theorem ct_ulen (l : Launch) (Z : State) (a0 : Array Value) (hw : ∀ d ∈ tables_1, d.before a0 Z = true) (G1 : Int32) (G3 : Value) (OS : Sts Z G1 G3) (t : Addr) (kb : ClassId) (n : Nat) (vs : List Value) {h0 : Heap} (O : Ext Z.heap h0) (V0 : Arv Z h0 t kb .byte (Int32.ofNat (2 * n)) vs (.int (0 : Int32))) (hn : 2 * n < 2147483648) : Ct l Z (⟨"java/lang/StringUTF16", "length", "([B)I"⟩ : MethodName) jdk_52_method_6_code 1 (some .int) rm_ulen #[(.ref t)] h0 (Q_ulen Z t kb n vs h0) := by
  refine Ct.of_body (Ls := #[.val (.ref t)]) (by decide +kernel) O (fun m => by first | rfl | (simp [entryFrame, mkF, argsToLocals, Value.category]; done) | (rcases ref_cases (Sts.ref OS) with rfl | ⟨r, rfl⟩ <;> rfl)) ?_
  intro p e s m below meth c T0 X0 e0
  subst e0
  refine E_aloadN X0 d_ulen_0 rfl rfl (pc' := 1) rfl ?_
  refine E_arraylength X0 d_ulen_1 V0 (pc' := 2) rfl ?_
  refine E_iconst X0 (v := (1 : Int32)) d_ulen_2 rfl (pc' := 3) rfl ?_
  refine E_ishr X0 (v := (Int32.ofNat n)) d_ulen_3 (o_half hn) (pc' := 4) rfl ?_
  exact E_ireturnI X0 d_ulen_4 rfl (by decide) (by decide) (⟨rfl, rfl⟩)
theorem d_uci_0 : decode jdk_52_method_91_code 0 = .ok (.iload_n 0, 1) := by decide +kernel
theorem d_uci_1 : decode jdk_52_method_91_code 1 = .ok (.aload_n 1, 1) := by decide +kernel
theorem d_uci_2 : decode jdk_52_method_91_code 2 = .ok (.invokestatic 48, 3) := by decide +kernel
theorem d_uci_5 : decode jdk_52_method_91_code 5 = .ok (.invokestatic 414, 3) := by decide +kernel
theorem d_uci_8 : decode jdk_52_method_91_code 8 = .ok (.return_, 1) := by decide +kernel
abbrev rm_uci : Room := ({ frames := 2, cells := 0, slots := 0, locals := 27 } : Room)
def Q_uci (Z : State) (t : Addr) (kb : ClassId) (cs : List Int32) (i : Nat) (h0 : Heap) (v : Option Value) (h : Heap) : Prop := v = none ∧ h = h0
set_option maxRecDepth 65536 in
set_option maxHeartbeats 40000000 in
theorem ct_uci (l : Launch) (Z : State) (a0 : Array Value) (hw : ∀ d ∈ tables_1, d.before a0 Z = true) (G1 : Int32) (G3 : Value) (OS : Sts Z G1 G3) (t : Addr) (kb : ClassId) (cs : List Int32) (i : Nat) {h0 : Heap} (O : Ext Z.heap h0) (V0 : Arv Z h0 t kb .byte (Int32.ofNat (2 * cs.length)) (u16 cs) (.int (0 : Int32))) (hi : i < cs.length) (hl : cs.length ≤ 4000) : Ct l Z (⟨"java/lang/StringUTF16", "checkIndex", "(I[B)V"⟩ : MethodName) jdk_52_method_91_code 2 none rm_uci #[(.int (Int32.ofNat i)), (.ref t)] h0 (Q_uci Z t kb cs i h0) := by
  refine Ct.of_body (Ls := #[.val (.int (Int32.ofNat i)), .val (.ref t)]) (by decide +kernel) O (fun m => by first | rfl | (simp [entryFrame, mkF, argsToLocals, Value.category]; done) | (rcases ref_cases (Sts.ref OS) with rfl | ⟨r, rfl⟩ <;> rfl)) ?_
  intro p e s m below meth c T0 X0 e0
  subst e0
  refine E_iloadN X0 d_uci_0 rfl (pc' := 1) rfl ?_
  refine E_aloadN X0 d_uci_1 rfl rfl (pc' := 2) rfl ?_
  refine E_static X0 (rm := rm_ulen) d_uci_2 (hw _ (List.mem_of_getElem? (i := 115) rfl)) (hw _ (List.mem_of_getElem? (i := 116) rfl)) (hw _ (List.mem_of_getElem? (i := 38) rfl)) (hw _ (List.mem_of_getElem? (i := 117) rfl)) (by decide) (argsL := [(.ref t)]) (st := [(.int (Int32.ofNat i))]) rfl (ct_ulen l Z a0 hw G1 G3 OS t kb cs.length (u16 cs) X0.old V0 (by omega)) (lenOf (pd_3) rfl) rfl (by decide) (by decide) (by decide) (Nat.le_of_ble_eq_true rfl) (pc' := 5) rfl ?_
  intro T1 _ X2 hQ3
  obtain ⟨rfl, e4⟩ := hQ3
  rw [← e4] at V0
  show Ends p e below s Z _ _ _ T1 (mkF m 5 #[.val (.int (Int32.ofNat i)), .val (.ref t)] [(.int (Int32.ofNat cs.length)), (.int (Int32.ofNat i))])
  refine E_static X2 (rm := rm_sci) d_uci_5 (hw _ (List.mem_of_getElem? (i := 118) rfl)) (hw _ (List.mem_of_getElem? (i := 80) rfl)) (hw _ (List.mem_of_getElem? (i := 24) rfl)) (hw _ (List.mem_of_getElem? (i := 81) rfl)) (by decide) (argsL := [(.int (Int32.ofNat i)), (.int (Int32.ofNat cs.length))]) (st := []) rfl (ct_sci l Z a0 hw G1 G3 OS (Int32.ofNat i) (Int32.ofNat cs.length) X2.old (o_nn (by omega)) (o_lt hi (by omega))) (lenOf (pd_2) rfl) rfl (by decide) (by decide) (by decide) (Nat.le_of_ble_eq_true rfl) (pc' := 8) rfl ?_
  intro T5 _ X6 hQ7
  obtain ⟨rfl, e8⟩ := hQ7
  rw [← e8] at V0
  show Ends p e below s Z _ _ _ T5 (mkF m 8 #[.val (.int (Int32.ofNat i)), .val (.ref t)] [])
  exact E_return X6 d_uci_8 rfl (by decide) (by decide) (⟨rfl, (e8.trans e4)⟩)
theorem d_ugc_0 : decode jdk_52_method_5_code 0 = .ok (.getstatic 44, 3) := by decide +kernel
theorem d_ugc_3 : decode jdk_52_method_5_code 3 = .ok (.ifCond .ne 25, 3) := by decide +kernel
theorem d_ugc_28 : decode jdk_52_method_5_code 28 = .ok (.iload_n 1, 1) := by decide +kernel
theorem d_ugc_29 : decode jdk_52_method_5_code 29 = .ok (.iconst 1, 1) := by decide +kernel
theorem d_ugc_30 : decode jdk_52_method_5_code 30 = .ok (.ishl, 1) := by decide +kernel
theorem d_ugc_31 : decode jdk_52_method_5_code 31 = .ok (.istore_n 1, 1) := by decide +kernel
theorem d_ugc_32 : decode jdk_52_method_5_code 32 = .ok (.aload_n 0, 1) := by decide +kernel
theorem d_ugc_33 : decode jdk_52_method_5_code 33 = .ok (.iload_n 1, 1) := by decide +kernel
theorem d_ugc_34 : decode jdk_52_method_5_code 34 = .ok (.iinc 1 1, 3) := by decide +kernel
theorem d_ugc_37 : decode jdk_52_method_5_code 37 = .ok (.baload, 1) := by decide +kernel
theorem d_ugc_38 : decode jdk_52_method_5_code 38 = .ok (.sipush 255, 3) := by decide +kernel
theorem d_ugc_41 : decode jdk_52_method_5_code 41 = .ok (.iand, 1) := by decide +kernel
theorem d_ugc_42 : decode jdk_52_method_5_code 42 = .ok (.getstatic 59, 3) := by decide +kernel
theorem d_ugc_45 : decode jdk_52_method_5_code 45 = .ok (.ishl, 1) := by decide +kernel
theorem d_ugc_46 : decode jdk_52_method_5_code 46 = .ok (.aload_n 0, 1) := by decide +kernel
theorem d_ugc_47 : decode jdk_52_method_5_code 47 = .ok (.iload_n 1, 1) := by decide +kernel
theorem d_ugc_48 : decode jdk_52_method_5_code 48 = .ok (.baload, 1) := by decide +kernel
theorem d_ugc_49 : decode jdk_52_method_5_code 49 = .ok (.sipush 255, 3) := by decide +kernel
theorem d_ugc_52 : decode jdk_52_method_5_code 52 = .ok (.iand, 1) := by decide +kernel
theorem d_ugc_53 : decode jdk_52_method_5_code 53 = .ok (.getstatic 63, 3) := by decide +kernel
theorem d_ugc_56 : decode jdk_52_method_5_code 56 = .ok (.ishl, 1) := by decide +kernel
theorem d_ugc_57 : decode jdk_52_method_5_code 57 = .ok (.ior, 1) := by decide +kernel
theorem d_ugc_58 : decode jdk_52_method_5_code 58 = .ok (.i2c, 1) := by decide +kernel
theorem d_ugc_59 : decode jdk_52_method_5_code 59 = .ok (.ireturn, 1) := by decide +kernel
abbrev rm_ugc : Room := ({ frames := 0, cells := 0, slots := 0, locals := 0 } : Room)
def Q_ugc (Z : State) (t : Addr) (kb : ClassId) (cs : List Int32) (i : Nat) (h0 : Heap) (v : Option Value) (h : Heap) : Prop := v = some (.int (cs.getD i 0)) ∧ h = h0
set_option maxRecDepth 65536 in
set_option maxHeartbeats 40000000 in
theorem ct_ugc (l : Launch) (Z : State) (a0 : Array Value) (hw : ∀ d ∈ tables_1, d.before a0 Z = true) (G1 : Int32) (G3 : Value) (OS : Sts Z G1 G3) (t : Addr) (kb : ClassId) (cs : List Int32) (i : Nat) {h0 : Heap} (O : Ext Z.heap h0) (V0 : Arv Z h0 t kb .byte (Int32.ofNat (2 * cs.length)) (u16 cs) (.int (0 : Int32))) (hi : i < cs.length) (hl : cs.length ≤ 4000) (hpc : ¬ cs.getD i 0 < 0 ∧ ¬ (65535 : Int32) < cs.getD i 0) : Ct l Z (⟨"java/lang/StringUTF16", "getChar", "([BI)C"⟩ : MethodName) jdk_52_method_5_code 2 (some .char) rm_ugc #[(.ref t), (.int (Int32.ofNat i))] h0 (Q_ugc Z t kb cs i h0) := by
  refine Ct.of_body (Ls := #[.val (.ref t), .val (.int (Int32.ofNat i))]) (by decide +kernel) O (fun m => by first | rfl | (simp [entryFrame, mkF, argsToLocals, Value.category]; done) | (rcases ref_cases (Sts.ref OS) with rfl | ⟨r, rfl⟩ <;> rfl)) ?_
  intro p e s m below meth c T0 X0 e0
  subst e0
  have hg := u16_get cs i hi
  refine E_getstatic X0 d_ugc_0 (hw _ (List.mem_of_getElem? (i := 103) rfl)) Via.refl OS.2.2.2.2.1 (pc' := 3) rfl ?_
  intro T1 X2 e3
  rw [← e3] at V0
  refine E_ifT X2 d_ugc_3 (XT.i0_ne_t (by decide)) (pc' := 28) (by decide) rfl ?_
  refine E_iloadN X2 d_ugc_28 rfl (pc' := 29) rfl ?_
  refine E_iconst X2 (v := (1 : Int32)) d_ugc_29 rfl (pc' := 30) rfl ?_
  refine E_ishl X2 (v := (Int32.ofNat (2 * i))) d_ugc_30 (o_two (by omega)) (pc' := 31) rfl ?_
  refine E_istoreN X2 d_ugc_31 (l' := #[.val (.ref t), .val (.int (Int32.ofNat (2 * i)))]) rfl (pc' := 32) rfl ?_
  refine E_aloadN X2 d_ugc_32 rfl rfl (pc' := 33) rfl ?_
  refine E_iloadN X2 d_ugc_33 rfl (pc' := 34) rfl ?_
  refine E_iinc X2 (y := (Int32.ofNat (2 * i + 1))) d_ugc_34 o_add rfl (l' := #[.val (.ref t), .val (.int (Int32.ofNat (2 * i + 1)))]) rfl (pc' := 37) rfl ?_
  refine E_baload X2 (v := (.int ((cs.getD i 0 >>> ((0 : Int32) &&& 31)).toInt8.toInt32))) d_ugc_37 V0 ⟨o_nn (by omega), o_lt (by omega) (by omega)⟩ (by rw [o_cl (by omega)]; simp only [List.getD_eq_getElem?_getD, hg.1, Option.getD_some]) (pc' := 38) rfl ?_
  refine E_sipush X2 (v := (255 : Int32)) d_ugc_38 rfl (pc' := 41) rfl ?_
  refine E_iand X2 d_ugc_41 rfl (pc' := 42) rfl ?_
  refine E_getstatic X2 d_ugc_42 (hw _ (List.mem_of_getElem? (i := 104) rfl)) Via.refl OS.2.2.2.2.2.1 (pc' := 45) rfl ?_
  intro T4 X5 e6
  rw [← e6] at V0
  refine E_ishl X5 d_ugc_45 rfl (pc' := 46) rfl ?_
  refine E_aloadN X5 d_ugc_46 rfl rfl (pc' := 47) rfl ?_
  refine E_iloadN X5 d_ugc_47 rfl (pc' := 48) rfl ?_
  refine E_baload X5 (v := (.int ((cs.getD i 0 >>> ((8 : Int32) &&& 31)).toInt8.toInt32))) d_ugc_48 V0 ⟨o_nn (by omega), o_lt (by omega) (by omega)⟩ (by rw [o_cl (by omega)]; simp only [List.getD_eq_getElem?_getD, hg.2, Option.getD_some]) (pc' := 49) rfl ?_
  refine E_sipush X5 (v := (255 : Int32)) d_ugc_49 rfl (pc' := 52) rfl ?_
  refine E_iand X5 d_ugc_52 rfl (pc' := 53) rfl ?_
  refine E_getstatic X5 d_ugc_53 (hw _ (List.mem_of_getElem? (i := 105) rfl)) Via.refl OS.2.2.2.2.2.2 (pc' := 56) rfl ?_
  intro T7 X8 e9
  rw [← e9] at V0
  refine E_ishl X8 d_ugc_56 rfl (pc' := 57) rfl ?_
  refine E_ior X8 d_ugc_57 rfl (pc' := 58) rfl ?_
  refine E_i2c X8 d_ugc_58 rfl (pc' := 59) rfl ?_
  exact E_ireturnN X8 (t := .char) d_ugc_59 rfl (by simp) (by decide) (by decide) (⟨by rw [o_u16 hpc.1 hpc.2], (e9.trans (e6.trans e3))⟩)
theorem d_uch_0 : decode jdk_52_method_83_code 0 = .ok (.iload_n 1, 1) := by decide +kernel
theorem d_uch_1 : decode jdk_52_method_83_code 1 = .ok (.aload_n 0, 1) := by decide +kernel
theorem d_uch_2 : decode jdk_52_method_83_code 2 = .ok (.invokestatic 67, 3) := by decide +kernel
theorem d_uch_5 : decode jdk_52_method_83_code 5 = .ok (.aload_n 0, 1) := by decide +kernel
theorem d_uch_6 : decode jdk_52_method_83_code 6 = .ok (.iload_n 1, 1) := by decide +kernel
theorem d_uch_7 : decode jdk_52_method_83_code 7 = .ok (.invokestatic 71, 3) := by decide +kernel
theorem d_uch_10 : decode jdk_52_method_83_code 10 = .ok (.ireturn, 1) := by decide +kernel
abbrev rm_uch : Room := ({ frames := 3, cells := 0, slots := 0, locals := 40 } : Room)
def Q_uch (Z : State) (t : Addr) (kb : ClassId) (cs : List Int32) (i : Nat) (h0 : Heap) (v : Option Value) (h : Heap) : Prop := v = some (.int (cs.getD i 0)) ∧ h = h0
set_option maxRecDepth 65536 in
set_option maxHeartbeats 40000000 in
theorem ct_uch (l : Launch) (Z : State) (a0 : Array Value) (hw : ∀ d ∈ tables_1, d.before a0 Z = true) (G1 : Int32) (G3 : Value) (OS : Sts Z G1 G3) (t : Addr) (kb : ClassId) (cs : List Int32) (i : Nat) {h0 : Heap} (O : Ext Z.heap h0) (V0 : Arv Z h0 t kb .byte (Int32.ofNat (2 * cs.length)) (u16 cs) (.int (0 : Int32))) (hi : i < cs.length) (hl : cs.length ≤ 4000) (hpc : ¬ cs.getD i 0 < 0 ∧ ¬ (65535 : Int32) < cs.getD i 0) : Ct l Z (⟨"java/lang/StringUTF16", "charAt", "([BI)C"⟩ : MethodName) jdk_52_method_83_code 2 (some .char) rm_uch #[(.ref t), (.int (Int32.ofNat i))] h0 (Q_uch Z t kb cs i h0) := by
  refine Ct.of_body (Ls := #[.val (.ref t), .val (.int (Int32.ofNat i))]) (by decide +kernel) O (fun m => by first | rfl | (simp [entryFrame, mkF, argsToLocals, Value.category]; done) | (rcases ref_cases (Sts.ref OS) with rfl | ⟨r, rfl⟩ <;> rfl)) ?_
  intro p e s m below meth c T0 X0 e0
  subst e0
  refine E_iloadN X0 d_uch_0 rfl (pc' := 1) rfl ?_
  refine E_aloadN X0 d_uch_1 rfl rfl (pc' := 2) rfl ?_
  refine E_static X0 (rm := rm_uci) d_uch_2 (hw _ (List.mem_of_getElem? (i := 112) rfl)) (hw _ (List.mem_of_getElem? (i := 113) rfl)) (hw _ (List.mem_of_getElem? (i := 38) rfl)) (hw _ (List.mem_of_getElem? (i := 114) rfl)) (by decide) (argsL := [(.int (Int32.ofNat i)), (.ref t)]) (st := []) rfl (ct_uci l Z a0 hw G1 G3 OS t kb cs i X0.old V0 hi hl) (lenOf (pd_4) rfl) rfl (by decide) (by decide) (by decide) (Nat.le_of_ble_eq_true rfl) (pc' := 5) rfl ?_
  intro T1 _ X2 hQ3
  obtain ⟨rfl, e4⟩ := hQ3
  rw [← e4] at V0
  show Ends p e below s Z _ _ _ T1 (mkF m 5 #[.val (.ref t), .val (.int (Int32.ofNat i))] [])
  refine E_aloadN X2 d_uch_5 rfl rfl (pc' := 6) rfl ?_
  refine E_iloadN X2 d_uch_6 rfl (pc' := 7) rfl ?_
  refine E_static X2 (rm := rm_ugc) d_uch_7 (hw _ (List.mem_of_getElem? (i := 106) rfl)) (hw _ (List.mem_of_getElem? (i := 107) rfl)) (hw _ (List.mem_of_getElem? (i := 38) rfl)) (hw _ (List.mem_of_getElem? (i := 108) rfl)) (by decide) (argsL := [(.ref t), (.int (Int32.ofNat i))]) (st := []) rfl (ct_ugc l Z a0 hw G1 G3 OS t kb cs i X2.old V0 hi hl hpc) (lenOf (pd_5) rfl) rfl (by decide) (by decide) (by decide) (Nat.le_of_ble_eq_true rfl) (pc' := 10) rfl ?_
  intro T5 _ X6 hQ7
  obtain ⟨rfl, e8⟩ := hQ7
  rw [← e8] at V0
  show Ends p e below s Z _ _ _ T5 (mkF m 10 #[.val (.ref t), .val (.int (Int32.ofNat i))] [(.int (cs.getD i 0))])
  exact E_ireturnN X6 (t := .char) d_uch_10 rfl (by simp) (by decide) (by decide) (⟨by rw [o_nar hpc.1 hpc.2], (e8.trans e4)⟩)
theorem d_sch_0 : decode jdk_42_method_56_code 0 = .ok (.aload_n 0, 1) := by decide +kernel
theorem d_sch_1 : decode jdk_42_method_56_code 1 = .ok (.invokevirtual 492, 3) := by decide +kernel
theorem d_sch_4 : decode jdk_42_method_56_code 4 = .ok (.ifCond .eq 12, 3) := by decide +kernel
theorem d_sch_7 : decode jdk_42_method_56_code 7 = .ok (.aload_n 0, 1) := by decide +kernel
theorem d_sch_8 : decode jdk_42_method_56_code 8 = .ok (.getfield 9, 3) := by decide +kernel
theorem d_sch_11 : decode jdk_42_method_56_code 11 = .ok (.iload_n 1, 1) := by decide +kernel
theorem d_sch_12 : decode jdk_42_method_56_code 12 = .ok (.invokestatic 495, 3) := by decide +kernel
theorem d_sch_15 : decode jdk_42_method_56_code 15 = .ok (.ireturn, 1) := by decide +kernel
theorem d_sch_16 : decode jdk_42_method_56_code 16 = .ok (.aload_n 0, 1) := by decide +kernel
theorem d_sch_17 : decode jdk_42_method_56_code 17 = .ok (.getfield 9, 3) := by decide +kernel
theorem d_sch_20 : decode jdk_42_method_56_code 20 = .ok (.iload_n 1, 1) := by decide +kernel
theorem d_sch_21 : decode jdk_42_method_56_code 21 = .ok (.invokestatic 498, 3) := by decide +kernel
theorem d_sch_24 : decode jdk_42_method_56_code 24 = .ok (.ireturn, 1) := by decide +kernel
abbrev rm_sch : Room := ({ frames := 4, cells := 0, slots := 0, locals := 53 } : Room)
def Q_sch (Z : State) (x t : Addr) (cs : List Int32) (i : Nat) (h0 : Heap) (v : Option Value) (h : Heap) : Prop := v = some (.int (cs.getD i 0)) ∧ h = h0
set_option maxRecDepth 65536 in
set_option maxHeartbeats 40000000 in
theorem ct_sch (l : Launch) (Z : State) (a0 : Array Value) (hw : ∀ d ∈ tables_1, d.before a0 Z = true) (G1 : Int32) (G3 : Value) (OS : Sts Z G1 G3) (x t : Addr) (cs : List Int32) (i : Nat) {h0 : Heap} (O : Ext Z.heap h0) (S0 : OStr Z h0 x t cs) (hi : i < cs.length) : Ct l Z (⟨"java/lang/String", "charAt", "(I)C"⟩ : MethodName) jdk_42_method_56_code 2 (some .char) rm_sch #[(.ref x), (.int (Int32.ofNat i))] h0 (Q_sch Z x t cs i h0) := by
  refine Ct.of_body (Ls := #[.val (.ref x), .val (.int (Int32.ofNat i))]) (by decide +kernel) O (fun m => by first | rfl | (simp [entryFrame, mkF, argsToLocals, Value.category]; done) | (rcases ref_cases (Sts.ref OS) with rfl | ⟨r, rfl⟩ <;> rfl)) ?_
  intro p e s m below meth c T0 X0 e0
  subst e0
  obtain ⟨kb, cd, N, vs, E0, F0, C0, V0, hcod, hpc, hlen⟩ := S0
  have hm := own_mem hi
  rcases hcod with ⟨rfl, rfl, rfl, hl8⟩ | ⟨rfl, rfl, rfl⟩
  · skip
    refine E_aloadN X0 d_sch_0 rfl rfl (pc' := 1) rfl ?_
    refine E_virtual X0 (rm := rm_lat) (a := x) (D := "java/lang/String") d_sch_1 (hw _ (List.mem_of_getElem? (i := 70) rfl)) (hw _ (List.mem_of_getElem? (i := 71) rfl)) (hw _ (List.mem_of_getElem? (i := 73) rfl)) (hw _ (List.mem_of_getElem? (i := 72) rfl)) (notFace_of_selects (args := #[]) (mvT X0.hZ (hw _ (List.mem_of_getElem? (i := 73) rfl)))) (by decide) E0 (hw _ (List.mem_of_getElem? (i := 24) rfl)) (hw _ (List.mem_of_getElem? (i := 74) rfl)) (argsL := []) (st := []) rfl (ct_lat l Z a0 hw G1 G3 OS x 0 X0.old C0) (lenOf (pd_6) rfl) rfl (by decide) (by decide) (by decide) (Nat.le_of_ble_eq_true rfl) (pc' := 4) rfl ?_
    intro T2 _ X3 hQ4
    obtain ⟨z1, rfl, e5, yz1, nz1⟩ := hQ4
    rw [← e5] at E0 F0 C0 V0
    obtain rfl := (yz1 rfl)
    show Ends p e below s Z _ _ _ T2 (mkF m 4 #[.val (.ref x), .val (.int (Int32.ofNat i))] [(.int (1 : Int32))])
    refine E_ifF X3 d_sch_4 (XT.i0_eq_f (by decide)) (pc' := 7) rfl ?_
    refine E_aloadN X3 d_sch_7 rfl rfl (pc' := 8) rfl ?_
    refine E_getfield X3 d_sch_8 (hw _ (List.mem_of_getElem? (i := 49) rfl)) Via.refl F0 (pc' := 11) rfl ?_
    intro T6 X7 e8
    rw [← e8] at E0 F0 C0 V0
    refine E_iloadN X7 d_sch_11 rfl (pc' := 12) rfl ?_
    refine E_static X7 (rm := rm_lch) d_sch_12 (hw _ (List.mem_of_getElem? (i := 75) rfl)) (hw _ (List.mem_of_getElem? (i := 76) rfl)) (hw _ (List.mem_of_getElem? (i := 77) rfl)) (hw _ (List.mem_of_getElem? (i := 78) rfl)) (by decide) (argsL := [(.ref t), (.int (Int32.ofNat i))]) (st := []) rfl (ct_lch l Z a0 hw G1 G3 OS t kb (Int32.ofNat cs.length) (Int32.ofNat i) (cs.getD i 0).toInt8.toInt32 (cs.map lo8) X7.old V0 (o_nn (by omega)) (o_lt hi (by omega)) (own_getD lo8 hi hlen)) (lenOf (pd_5) rfl) rfl (by decide) (by decide) (by decide) (Nat.le_of_ble_eq_true rfl) (pc' := 15) rfl ?_
    intro T9 _ X10 hQ11
    obtain ⟨rfl, e12⟩ := hQ11
    rw [← e12] at E0 F0 C0 V0
    show Ends p e below s Z _ _ _ T9 (mkF m 15 #[.val (.ref x), .val (.int (Int32.ofNat i))] [(.int (nar .char (((cs.getD i 0).toInt8.toInt32 &&& (255 : Int32)).toUInt32.toUInt16.toUInt32.toInt32)))])
    exact E_ireturnN X10 (t := .char) d_sch_15 rfl (by simp) (by decide) (by decide) (⟨by rw [o_lat (hpc _ hm).1 (hl8 _ hm), o_nar (hpc _ hm).1 (hpc _ hm).2], (e12.trans (e8.trans e5))⟩)
  · skip
    refine E_aloadN X0 d_sch_0 rfl rfl (pc' := 1) rfl ?_
    refine E_virtual X0 (rm := rm_lat) (a := x) (D := "java/lang/String") d_sch_1 (hw _ (List.mem_of_getElem? (i := 70) rfl)) (hw _ (List.mem_of_getElem? (i := 71) rfl)) (hw _ (List.mem_of_getElem? (i := 73) rfl)) (hw _ (List.mem_of_getElem? (i := 72) rfl)) (notFace_of_selects (args := #[]) (mvT X0.hZ (hw _ (List.mem_of_getElem? (i := 73) rfl)))) (by decide) E0 (hw _ (List.mem_of_getElem? (i := 24) rfl)) (hw _ (List.mem_of_getElem? (i := 74) rfl)) (argsL := []) (st := []) rfl (ct_lat l Z a0 hw G1 G3 OS x 1 X0.old C0) (lenOf (pd_6) rfl) rfl (by decide) (by decide) (by decide) (Nat.le_of_ble_eq_true rfl) (pc' := 4) rfl ?_
    intro T14 _ X15 hQ16
    obtain ⟨z13, rfl, e17, yz13, nz13⟩ := hQ16
    rw [← e17] at E0 F0 C0 V0
    obtain rfl := (nz13 (by decide))
    show Ends p e below s Z _ _ _ T14 (mkF m 4 #[.val (.ref x), .val (.int (Int32.ofNat i))] [(.int (0 : Int32))])
    refine E_ifT X15 d_sch_4 (XT.i0_eq_t (by decide)) (pc' := 16) (by decide) rfl ?_
    refine E_aloadN X15 d_sch_16 rfl rfl (pc' := 17) rfl ?_
    refine E_getfield X15 d_sch_17 (hw _ (List.mem_of_getElem? (i := 49) rfl)) Via.refl F0 (pc' := 20) rfl ?_
    intro T18 X19 e20
    rw [← e20] at E0 F0 C0 V0
    refine E_iloadN X19 d_sch_20 rfl (pc' := 21) rfl ?_
    refine E_static X19 (rm := rm_uch) d_sch_21 (hw _ (List.mem_of_getElem? (i := 109) rfl)) (hw _ (List.mem_of_getElem? (i := 110) rfl)) (hw _ (List.mem_of_getElem? (i := 38) rfl)) (hw _ (List.mem_of_getElem? (i := 111) rfl)) (by decide) (argsL := [(.ref t), (.int (Int32.ofNat i))]) (st := []) rfl (ct_uch l Z a0 hw G1 G3 OS t kb cs i X19.old V0 hi hlen (hpc _ hm)) (lenOf (pd_5) rfl) rfl (by decide) (by decide) (by decide) (Nat.le_of_ble_eq_true rfl) (pc' := 24) rfl ?_
    intro T21 _ X22 hQ23
    obtain ⟨rfl, e24⟩ := hQ23
    rw [← e24] at E0 F0 C0 V0
    show Ends p e below s Z _ _ _ T21 (mkF m 24 #[.val (.ref x), .val (.int (Int32.ofNat i))] [(.int (cs.getD i 0))])
    exact E_ireturnN X22 (t := .char) d_sch_24 rfl (by simp) (by decide) (by decide) (⟨by rw [o_nar (hpc _ hm).1 (hpc _ hm).2], (e24.trans (e20.trans e17))⟩)
theorem d_nbl_0 : decode jdk_52_method_3_code 0 = .ok (.iload_n 0, 1) := by decide +kernel
theorem d_nbl_1 : decode jdk_52_method_3_code 1 = .ok (.ifCond .ge 11, 3) := by decide +kernel
theorem d_nbl_12 : decode jdk_52_method_3_code 12 = .ok (.iload_n 0, 1) := by decide +kernel
theorem d_nbl_13 : decode jdk_52_method_3_code 13 = .ok (.ldc 20, 2) := by decide +kernel
theorem d_nbl_15 : decode jdk_52_method_3_code 15 = .ok (.if_icmp .lt 40, 3) := by decide +kernel
theorem d_nbl_55 : decode jdk_52_method_3_code 55 = .ok (.iload_n 0, 1) := by decide +kernel
theorem d_nbl_56 : decode jdk_52_method_3_code 56 = .ok (.iconst 1, 1) := by decide +kernel
theorem d_nbl_57 : decode jdk_52_method_3_code 57 = .ok (.ishl, 1) := by decide +kernel
theorem d_nbl_58 : decode jdk_52_method_3_code 58 = .ok (.ireturn, 1) := by decide +kernel
abbrev rm_nbl : Room := ({ frames := 0, cells := 0, slots := 0, locals := 0 } : Room)
def Q_nbl (Z : State) (n : Nat) (h0 : Heap) (v : Option Value) (h : Heap) : Prop := v = some (.int (Int32.ofNat (2 * n))) ∧ h = h0
set_option maxRecDepth 65536 in
set_option maxHeartbeats 40000000 in
theorem ct_nbl (l : Launch) (Z : State) (a0 : Array Value) (hw : ∀ d ∈ tables_1, d.before a0 Z = true) (G1 : Int32) (G3 : Value) (OS : Sts Z G1 G3) (n : Nat) {h0 : Heap} (O : Ext Z.heap h0) (hn : n ≤ 4000) : Ct l Z (⟨"java/lang/StringUTF16", "newBytesLength", "(I)I"⟩ : MethodName) jdk_52_method_3_code 1 (some .int) rm_nbl #[(.int (Int32.ofNat n))] h0 (Q_nbl Z n h0) := by
  refine Ct.of_body (Ls := #[.val (.int (Int32.ofNat n))]) (by decide +kernel) O (fun m => by first | rfl | (simp [entryFrame, mkF, argsToLocals, Value.category]; done) | (rcases ref_cases (Sts.ref OS) with rfl | ⟨r, rfl⟩ <;> rfl)) ?_
  intro p e s m below meth c T0 X0 e0
  subst e0
  refine E_iloadN X0 d_nbl_0 rfl (pc' := 1) rfl ?_
  refine E_ifT X0 d_nbl_1 (XT.i0_ge_t (o_nn (by omega))) (pc' := 12) (by decide) rfl ?_
  refine E_iloadN X0 d_nbl_12 rfl (pc' := 13) rfl ?_
  refine E_ldcI X0 (v := (1073741823 : Int32)) d_nbl_13 (hw _ (List.mem_of_getElem? (i := 99) rfl)) (pc' := 15) rfl ?_
  refine E_icT X0 d_nbl_15 (XT.ii_lt_t (o_ltc hn)) (pc' := 55) (by decide) rfl ?_
  refine E_iloadN X0 d_nbl_55 rfl (pc' := 56) rfl ?_
  refine E_iconst X0 (v := (1 : Int32)) d_nbl_56 rfl (pc' := 57) rfl ?_
  refine E_ishl X0 (v := (Int32.ofNat (2 * n))) d_nbl_57 (o_two (by omega)) (pc' := 58) rfl ?_
  exact E_ireturnI X0 d_nbl_58 rfl (by decide) (by decide) (⟨rfl, rfl⟩)
theorem d_nbf_0 : decode jdk_52_method_2_code 0 = .ok (.iload_n 0, 1) := by decide +kernel
theorem d_nbf_1 : decode jdk_52_method_2_code 1 = .ok (.invokestatic 11, 3) := by decide +kernel
theorem d_nbf_4 : decode jdk_52_method_2_code 4 = .ok (.newarray .byte, 2) := by decide +kernel
theorem d_nbf_6 : decode jdk_52_method_2_code 6 = .ok (.areturn, 1) := by decide +kernel
abbrev rm_nbf : Room := ({ frames := 1, cells := 1, slots := 74, locals := 12 } : Room)
def Q_nbf (Z : State) (n : Nat) (h0 : Heap) (v : Option Value) (h : Heap) : Prop := ∃ t kb, v = some (.ref t) ∧ Keep h0 h [] ∧ h0.size ≤ t ∧ Arv Z h t kb .byte (Int32.ofNat (2 * n)) [] (.int (0 : Int32))
set_option maxRecDepth 65536 in
set_option maxHeartbeats 40000000 in
theorem ct_nbf (l : Launch) (Z : State) (a0 : Array Value) (hw : ∀ d ∈ tables_1, d.before a0 Z = true) (G1 : Int32) (G3 : Value) (OS : Sts Z G1 G3) (n : Nat) {h0 : Heap} (O : Ext Z.heap h0) (hmx : n ≤ 37) (hn : n ≤ 4000) : Ct l Z (⟨"java/lang/StringUTF16", "newBytesFor", "(I)[B"⟩ : MethodName) jdk_52_method_2_code 1 (some (.array .byte)) rm_nbf #[(.int (Int32.ofNat n))] h0 (Q_nbf Z n h0) := by
  refine Ct.of_body (Ls := #[.val (.int (Int32.ofNat n))]) (by decide +kernel) O (fun m => by first | rfl | (simp [entryFrame, mkF, argsToLocals, Value.category]; done) | (rcases ref_cases (Sts.ref OS) with rfl | ⟨r, rfl⟩ <;> rfl)) ?_
  intro p e s m below meth c T0 X0 e0
  subst e0
  have K00 := Keep.refl T0.heap []
  refine E_iloadN X0 d_nbf_0 rfl (pc' := 1) rfl ?_
  refine E_static X0 (rm := rm_nbl) d_nbf_1 (hw _ (List.mem_of_getElem? (i := 96) rfl)) (hw _ (List.mem_of_getElem? (i := 97) rfl)) (hw _ (List.mem_of_getElem? (i := 38) rfl)) (hw _ (List.mem_of_getElem? (i := 98) rfl)) (by decide) (argsL := [(.int (Int32.ofNat n))]) (st := []) rfl (ct_nbl l Z a0 hw G1 G3 OS n X0.old hn) (lenOf (pd_7) rfl) rfl (by decide) (by decide) (by decide) (Nat.le_of_ble_eq_true rfl) (pc' := 4) rfl ?_
  intro T1 _ X2 hQ3
  obtain ⟨rfl, e4⟩ := hQ3
  have KK5 := own_keq K00 e4
  show Ends p e below s Z _ _ _ T1 (mkF m 4 #[.val (.int (Int32.ofNat n))] [(.int (Int32.ofNat (2 * n)))])
  refine E_newarray X2 74 d_nbf_4 (hw _ (List.mem_of_getElem? (i := 40) rfl)) (o_nn (by omega)) (by rw [o_cl (by omega)]; omega) (by decide) (by decide) (by decide) (pc' := 6) rfl ?_
  intro T6 b8 k12 X7 hb9 K10 V11
  have sz13 : T0.heap.size ≤ b8 := Nat.le_trans KK5.1 (Nat.le_of_eq hb9.symm)
  have KK14 := KK5.trans K10 (fun x q => nomatch q)
  have g15 : Z.heap.size ≤ b8 := Nat.le_trans X2.le (Nat.le_of_eq hb9.symm)
  have V16 : Arv Z T6.heap b8 k12 .byte (Int32.ofNat (2 * n)) [] (.int (0 : Int32)) := V11
  exact E_areturn X7 (t := (.array .byte)) d_nbf_6 rfl rfl rfl rfl (by decide) (by decide) (⟨b8, k12, rfl, KK14, sz13, V16⟩)
theorem d_putc_0 : decode jdk_52_method_4_code 0 = .ok (.getstatic 44, 3) := by decide +kernel
theorem d_putc_3 : decode jdk_52_method_4_code 3 = .ok (.ifCond .ne 25, 3) := by decide +kernel
theorem d_putc_28 : decode jdk_52_method_4_code 28 = .ok (.iload_n 1, 1) := by decide +kernel
theorem d_putc_29 : decode jdk_52_method_4_code 29 = .ok (.iconst 1, 1) := by decide +kernel
theorem d_putc_30 : decode jdk_52_method_4_code 30 = .ok (.ishl, 1) := by decide +kernel
theorem d_putc_31 : decode jdk_52_method_4_code 31 = .ok (.istore_n 1, 1) := by decide +kernel
theorem d_putc_32 : decode jdk_52_method_4_code 32 = .ok (.aload_n 0, 1) := by decide +kernel
theorem d_putc_33 : decode jdk_52_method_4_code 33 = .ok (.iload_n 1, 1) := by decide +kernel
theorem d_putc_34 : decode jdk_52_method_4_code 34 = .ok (.iinc 1 1, 3) := by decide +kernel
theorem d_putc_37 : decode jdk_52_method_4_code 37 = .ok (.iload_n 2, 1) := by decide +kernel
theorem d_putc_38 : decode jdk_52_method_4_code 38 = .ok (.getstatic 59, 3) := by decide +kernel
theorem d_putc_41 : decode jdk_52_method_4_code 41 = .ok (.ishr, 1) := by decide +kernel
theorem d_putc_42 : decode jdk_52_method_4_code 42 = .ok (.i2b, 1) := by decide +kernel
theorem d_putc_43 : decode jdk_52_method_4_code 43 = .ok (.bastore, 1) := by decide +kernel
theorem d_putc_44 : decode jdk_52_method_4_code 44 = .ok (.aload_n 0, 1) := by decide +kernel
theorem d_putc_45 : decode jdk_52_method_4_code 45 = .ok (.iload_n 1, 1) := by decide +kernel
theorem d_putc_46 : decode jdk_52_method_4_code 46 = .ok (.iload_n 2, 1) := by decide +kernel
theorem d_putc_47 : decode jdk_52_method_4_code 47 = .ok (.getstatic 63, 3) := by decide +kernel
theorem d_putc_50 : decode jdk_52_method_4_code 50 = .ok (.ishr, 1) := by decide +kernel
theorem d_putc_51 : decode jdk_52_method_4_code 51 = .ok (.i2b, 1) := by decide +kernel
theorem d_putc_52 : decode jdk_52_method_4_code 52 = .ok (.bastore, 1) := by decide +kernel
theorem d_putc_53 : decode jdk_52_method_4_code 53 = .ok (.return_, 1) := by decide +kernel
abbrev rm_putc : Room := ({ frames := 0, cells := 0, slots := 0, locals := 0 } : Room)
def Q_putc (Z : State) (t : Addr) (kb : ClassId) (n i : Nat) (ch : Int32) (vs : List Value) (h0 : Heap) (v : Option Value) (h : Heap) : Prop := v = none ∧ Keep h0 h [t] ∧ Arv Z h t kb .byte (Int32.ofNat (2 * n)) (vs ++ [.int (ch >>> ((0 : Int32) &&& 31)).toInt8.toInt32, .int (ch >>> ((8 : Int32) &&& 31)).toInt8.toInt32]) (.int (0 : Int32))
set_option maxRecDepth 65536 in
set_option maxHeartbeats 40000000 in
theorem ct_putc (l : Launch) (Z : State) (a0 : Array Value) (hw : ∀ d ∈ tables_1, d.before a0 Z = true) (G1 : Int32) (G3 : Value) (OS : Sts Z G1 G3) (t : Addr) (kb : ClassId) (n i : Nat) (ch : Int32) (vs : List Value) {h0 : Heap} (O : Ext Z.heap h0) (V0 : Arv Z h0 t kb .byte (Int32.ofNat (2 * n)) vs (.int (0 : Int32))) (hn : n ≤ 4000) (hi : i < n) (hvs : vs.length = 2 * i) (gt : Z.heap.size ≤ t) : Ct l Z (⟨"java/lang/StringUTF16", "putChar", "([BII)V"⟩ : MethodName) jdk_52_method_4_code 3 none rm_putc #[(.ref t), (.int (Int32.ofNat i)), (.int ch)] h0 (Q_putc Z t kb n i ch vs h0) := by
  refine Ct.of_body (Ls := #[.val (.ref t), .val (.int (Int32.ofNat i)), .val (.int ch)]) (by decide +kernel) O (fun m => by first | rfl | (simp [entryFrame, mkF, argsToLocals, Value.category]; done) | (rcases ref_cases (Sts.ref OS) with rfl | ⟨r, rfl⟩ <;> rfl)) ?_
  intro p e s m below meth c T0 X0 e0
  subst e0
  have K00 := Keep.refl T0.heap [t]
  refine E_getstatic X0 d_putc_0 (hw _ (List.mem_of_getElem? (i := 103) rfl)) Via.refl OS.2.2.2.2.1 (pc' := 3) rfl ?_
  intro T1 X2 e3
  have KK4 := own_keq K00 e3
  rw [← e3] at V0
  refine E_ifT X2 d_putc_3 (XT.i0_ne_t (by decide)) (pc' := 28) (by decide) rfl ?_
  refine E_iloadN X2 d_putc_28 rfl (pc' := 29) rfl ?_
  refine E_iconst X2 (v := (1 : Int32)) d_putc_29 rfl (pc' := 30) rfl ?_
  refine E_ishl X2 (v := (Int32.ofNat (2 * i))) d_putc_30 (o_two (by omega)) (pc' := 31) rfl ?_
  refine E_istoreN X2 d_putc_31 (l' := #[.val (.ref t), .val (.int (Int32.ofNat (2 * i))), .val (.int ch)]) rfl (pc' := 32) rfl ?_
  refine E_aloadN X2 d_putc_32 rfl rfl (pc' := 33) rfl ?_
  refine E_iloadN X2 d_putc_33 rfl (pc' := 34) rfl ?_
  refine E_iinc X2 (y := (Int32.ofNat (2 * i + 1))) d_putc_34 o_add rfl (l' := #[.val (.ref t), .val (.int (Int32.ofNat (2 * i + 1))), .val (.int ch)]) rfl (pc' := 37) rfl ?_
  refine E_iloadN X2 d_putc_37 rfl (pc' := 38) rfl ?_
  refine E_getstatic X2 d_putc_38 (hw _ (List.mem_of_getElem? (i := 104) rfl)) Via.refl OS.2.2.2.2.2.1 (pc' := 41) rfl ?_
  intro T5 X6 e7
  have KK8 := own_keq KK4 e7
  rw [← e7] at V0
  refine E_ishr X6 d_putc_41 rfl (pc' := 42) rfl ?_
  refine E_i2b X6 d_putc_42 rfl (pc' := 43) rfl ?_
  refine E_bastoreA X6 (y := ((ch >>> ((0 : Int32) &&& 31))).toInt8.toInt32) d_putc_43 (o_b8 _) V0 ⟨o_nn (by omega), o_lt (by omega) (by omega)⟩ (by rw [o_cl (by omega), hvs]) gt (pc' := 44) rfl ?_
  intro T9 X10 K11 V12
  have KK13 := KK8.trans K11 (allS (Or.inl (by simp)) (fun x q => nomatch q))
  have V14 : Arv Z T9.heap t kb .byte (Int32.ofNat (2 * n)) (vs ++ [.int (ch >>> ((0 : Int32) &&& 31)).toInt8.toInt32]) (.int (0 : Int32)) := V12
  refine E_aloadN X10 d_putc_44 rfl rfl (pc' := 45) rfl ?_
  refine E_iloadN X10 d_putc_45 rfl (pc' := 46) rfl ?_
  refine E_iloadN X10 d_putc_46 rfl (pc' := 47) rfl ?_
  refine E_getstatic X10 d_putc_47 (hw _ (List.mem_of_getElem? (i := 105) rfl)) Via.refl OS.2.2.2.2.2.2 (pc' := 50) rfl ?_
  intro T15 X16 e17
  have KK18 := own_keq KK13 e17
  rw [← e17] at V14
  refine E_ishr X16 d_putc_50 rfl (pc' := 51) rfl ?_
  refine E_i2b X16 d_putc_51 rfl (pc' := 52) rfl ?_
  refine E_bastoreA X16 (y := ((ch >>> ((8 : Int32) &&& 31))).toInt8.toInt32) d_putc_52 (o_b8 _) V14 ⟨o_nn (by omega), o_lt (by omega) (by omega)⟩ (by rw [o_cl (by omega), List.length_append, hvs]; rfl) gt (pc' := 53) rfl ?_
  intro T19 X20 K21 V22
  have KK23 := KK18.trans K21 (allS (Or.inl (by simp)) (fun x q => nomatch q))
  have V24 : Arv Z T19.heap t kb .byte (Int32.ofNat (2 * n)) ((vs ++ [.int (ch >>> ((0 : Int32) &&& 31)).toInt8.toInt32]) ++ [.int (ch >>> ((8 : Int32) &&& 31)).toInt8.toInt32]) (.int (0 : Int32)) := V22
  exact E_return X20 d_putc_53 rfl (by decide) (by decide) (⟨rfl, KK23, by have q := V24; rw [List.append_assoc] at q; exact q⟩)
theorem d_tob_0 : decode jdk_52_method_14_code 0 = .ok (.iload_n 2, 1) := by decide +kernel
theorem d_tob_1 : decode jdk_52_method_14_code 1 = .ok (.invokestatic 107, 3) := by decide +kernel
theorem d_tob_4 : decode jdk_52_method_14_code 4 = .ok (.astore_n 3, 1) := by decide +kernel
theorem d_tob_5 : decode jdk_52_method_14_code 5 = .ok (.iconst 0, 1) := by decide +kernel
theorem d_tob_6 : decode jdk_52_method_14_code 6 = .ok (.istore 4, 2) := by decide +kernel
theorem d_tob_8 : decode jdk_52_method_14_code 8 = .ok (.iload 4, 2) := by decide +kernel
theorem d_tob_10 : decode jdk_52_method_14_code 10 = .ok (.iload_n 2, 1) := by decide +kernel
theorem d_tob_11 : decode jdk_52_method_14_code 11 = .ok (.if_icmp .ge 21, 3) := by decide +kernel
theorem d_tob_14 : decode jdk_52_method_14_code 14 = .ok (.aload_n 3, 1) := by decide +kernel
theorem d_tob_15 : decode jdk_52_method_14_code 15 = .ok (.iload 4, 2) := by decide +kernel
theorem d_tob_17 : decode jdk_52_method_14_code 17 = .ok (.aload_n 0, 1) := by decide +kernel
theorem d_tob_18 : decode jdk_52_method_14_code 18 = .ok (.iload_n 1, 1) := by decide +kernel
theorem d_tob_19 : decode jdk_52_method_14_code 19 = .ok (.caload, 1) := by decide +kernel
theorem d_tob_20 : decode jdk_52_method_14_code 20 = .ok (.invokestatic 111, 3) := by decide +kernel
theorem d_tob_23 : decode jdk_52_method_14_code 23 = .ok (.iinc 1 1, 3) := by decide +kernel
theorem d_tob_26 : decode jdk_52_method_14_code 26 = .ok (.iinc 4 1, 3) := by decide +kernel
theorem d_tob_29 : decode jdk_52_method_14_code 29 = .ok (.goto (-21), 3) := by decide +kernel
theorem d_tob_32 : decode jdk_52_method_14_code 32 = .ok (.aload_n 3, 1) := by decide +kernel
theorem d_tob_33 : decode jdk_52_method_14_code 33 = .ok (.areturn, 1) := by decide +kernel
abbrev rm_tob : Room := ({ frames := 2, cells := 1, slots := 74, locals := 24 } : Room)
def Q_tob (Z : State) (b : Addr) (kC : ClassId) (cs : List Int32) (dv : Value) (h0 : Heap) (v : Option Value) (h : Heap) : Prop := ∃ t kb, v = some (.ref t) ∧ Keep h0 h [] ∧ h0.size ≤ t ∧ Arv Z h t kb .byte (Int32.ofNat (2 * cs.length)) (u16 cs) (.int (0 : Int32))
set_option maxRecDepth 65536 in
set_option maxHeartbeats 40000000 in
theorem lp_tob (l : Launch) (Z : State) (a0 : Array Value) (hw : ∀ d ∈ tables_1, d.before a0 Z = true) (G1 : Int32) (G3 : Value) (OS : Sts Z G1 G3) (b : Addr) (kC : ClassId) (cs : List Int32) (dv : Value) {h0 : Heap} {p : Program} {e : Env} {s : State} {m : MethodId} {below : List Frame} {meth : Method} {c : Code} (k : Nat) : ∀ {T0 : State} (i : Nat) (t : Addr) (kb : ClassId), Wk l Z rm_tob jdk_52_method_14_code 5 (some (.array .byte)) "java/lang/StringUTF16" "toBytes" p e s m #[(.ref b), (.int (0 : Int32)), (.int (Int32.ofNat cs.length))] below meth c T0 1 74 → (i + k = cs.length) → (cs.length ≤ 4000) → (Arv Z T0.heap b kC .char (Int32.ofNat cs.length) (cs.map Value.int) dv) → (Arv Z T0.heap t kb .byte (Int32.ofNat (2 * cs.length)) (u16 (cs.take i)) (.int (0 : Int32))) → (b ≠ t) → (Z.heap.size ≤ t) → (h0.size ≤ t) → (Keep h0 T0.heap []) → Ends p e below s Z (Q_tob Z b kC cs dv h0) rm_tob.cells rm_tob.slots T0 (mkF m 8 #[.val (.ref b), .val (.int (Int32.ofNat i)), .val (.int (Int32.ofNat cs.length)), .val (.ref t), .val (.int (Int32.ofNat i))] []) := by
  induction k with
  | zero =>
    intro T0 i t kb X0 hi hlen V0 D0 hbt gt szt K00
    have hik : i = cs.length := by omega
    subst hik
    rw [List.take_length] at D0
    refine E_iload X0 d_tob_8 rfl (pc' := 10) rfl ?_
    refine E_iloadN X0 d_tob_10 rfl (pc' := 11) rfl ?_
    refine E_icT X0 d_tob_11 (XT.ii_ge_t (o_nlt (Nat.le_refl _) (by omega))) (pc' := 32) (by decide) rfl ?_
    refine E_aloadN X0 d_tob_32 rfl rfl (pc' := 33) rfl ?_
    exact E_areturn X0 (t := (.array .byte)) d_tob_33 rfl rfl rfl rfl (by decide) (by decide) (⟨t, kb, rfl, K00, szt, D0⟩)
  | succ k ih =>
    intro T0 i t kb X0 hi hlen V0 D0 hbt gt szt K00
    have hlt : i < cs.length := by omega
    refine E_iload X0 d_tob_8 rfl (pc' := 10) rfl ?_
    refine E_iloadN X0 d_tob_10 rfl (pc' := 11) rfl ?_
    refine E_icF X0 d_tob_11 (XT.ii_ge_f (o_lt hlt (by omega))) (pc' := 14) rfl ?_
    refine E_aloadN X0 d_tob_14 rfl rfl (pc' := 15) rfl ?_
    refine E_iload X0 d_tob_15 rfl (pc' := 17) rfl ?_
    refine E_aloadN X0 d_tob_17 rfl rfl (pc' := 18) rfl ?_
    refine E_iloadN X0 d_tob_18 rfl (pc' := 19) rfl ?_
    refine E_caload X0 (v := (.int (cs.getD i 0))) d_tob_19 V0 ⟨o_nn (by omega), o_lt hlt (by omega)⟩ (own_getD Value.int hlt hlen) (pc' := 20) rfl ?_
    refine E_static X0 (rm := rm_putc) d_tob_20 (hw _ (List.mem_of_getElem? (i := 100) rfl)) (hw _ (List.mem_of_getElem? (i := 101) rfl)) (hw _ (List.mem_of_getElem? (i := 38) rfl)) (hw _ (List.mem_of_getElem? (i := 102) rfl)) (by decide) (argsL := [(.ref t), (.int (Int32.ofNat i)), (.int (cs.getD i 0))]) (st := []) rfl (ct_putc l Z a0 hw G1 G3 OS t kb cs.length i (cs.getD i 0) (u16 (cs.take i)) X0.old D0 hlen hlt (by rw [u16_len, List.length_take]; omega) gt) (lenOf (pd_8) rfl) rfl (by decide) (by decide) (by decide) (Nat.le_of_ble_eq_true rfl) (pc' := 23) rfl ?_
    intro T1 _ X2 hQ3
    obtain ⟨rfl, K4, V5⟩ := hQ3
    have KK6 := K00.trans K4 (allS (Or.inr szt) (fun x q => nomatch q))
    have Arv_7 := V0.keep K4 (ninS hbt nin0)
    rw [← u16_take hlt] at V5
    show Ends p e below s Z _ _ _ T1 (mkF m 23 #[.val (.ref b), .val (.int (Int32.ofNat i)), .val (.int (Int32.ofNat cs.length)), .val (.ref t), .val (.int (Int32.ofNat i))] [])
    refine E_iinc X2 (y := (Int32.ofNat (i + 1))) d_tob_23 o_add rfl (l' := #[.val (.ref b), .val (.int (Int32.ofNat (i + 1))), .val (.int (Int32.ofNat cs.length)), .val (.ref t), .val (.int (Int32.ofNat i))]) rfl (pc' := 26) rfl ?_
    refine E_iinc X2 (y := (Int32.ofNat (i + 1))) d_tob_26 o_add rfl (l' := #[.val (.ref b), .val (.int (Int32.ofNat (i + 1))), .val (.int (Int32.ofNat cs.length)), .val (.ref t), .val (.int (Int32.ofNat (i + 1)))]) rfl (pc' := 29) rfl ?_
    refine E_goto X2 d_tob_29 (pc' := 8) (by decide) rfl ?_
    exact ih (i + 1) t kb X2 (by omega) hlen Arv_7 V5 hbt gt szt KK6
set_option maxRecDepth 65536 in
set_option maxHeartbeats 40000000 in
theorem ct_tob (l : Launch) (Z : State) (a0 : Array Value) (hw : ∀ d ∈ tables_1, d.before a0 Z = true) (G1 : Int32) (G3 : Value) (OS : Sts Z G1 G3) (b : Addr) (kC : ClassId) (cs : List Int32) (dv : Value) {h0 : Heap} (O : Ext Z.heap h0) (hmx : cs.length ≤ 37) (hmx4 : cs.length ≤ 4000) (V0 : Arv Z h0 b kC .char (Int32.ofNat cs.length) (cs.map Value.int) dv) : Ct l Z (⟨"java/lang/StringUTF16", "toBytes", "([CII)[B"⟩ : MethodName) jdk_52_method_14_code 5 (some (.array .byte)) rm_tob #[(.ref b), (.int (0 : Int32)), (.int (Int32.ofNat cs.length))] h0 (Q_tob Z b kC cs dv h0) := by
  refine Ct.of_body (Ls := #[.val (.ref b), .val (.int (0 : Int32)), .val (.int (Int32.ofNat cs.length)), .unset, .unset]) (by decide +kernel) O (fun m => by first | rfl | (simp [entryFrame, mkF, argsToLocals, Value.category]; done) | (rcases ref_cases (Sts.ref OS) with rfl | ⟨r, rfl⟩ <;> rfl)) ?_
  intro p e s m below meth c T0 X0 e0
  subst e0
  have K00 := Keep.refl T0.heap []
  refine E_iloadN X0 d_tob_0 rfl (pc' := 1) rfl ?_
  refine E_static X0 (rm := rm_nbf) d_tob_1 (hw _ (List.mem_of_getElem? (i := 93) rfl)) (hw _ (List.mem_of_getElem? (i := 94) rfl)) (hw _ (List.mem_of_getElem? (i := 38) rfl)) (hw _ (List.mem_of_getElem? (i := 95) rfl)) (by decide) (argsL := [(.int (Int32.ofNat cs.length))]) (st := []) rfl (ct_nbf l Z a0 hw G1 G3 OS cs.length X0.old hmx hmx4) (lenOf (pd_9) rfl) rfl (by decide) (by decide) (by decide) (Nat.le_of_ble_eq_true rfl) (pc' := 4) rfl ?_
  intro T1 _ X2 hQ3
  obtain ⟨t, kb, rfl, K4, szt, V5⟩ := hQ3
  have hbt : b ≠ t := Nat.ne_of_lt (Nat.lt_of_lt_of_le V0.lt szt)
  have gt : Z.heap.size ≤ t := Nat.le_trans X0.le szt
  have KK6 := K00.trans K4 (fun x q => nomatch q)
  have Arv_7 := V0.keep K4 nin0
  show Ends p e below s Z _ _ _ T1 (mkF m 4 #[.val (.ref b), .val (.int (0 : Int32)), .val (.int (Int32.ofNat cs.length)), .unset, .unset] [(.ref t)])
  refine E_astoreN X2 d_tob_4 rfl (l' := #[.val (.ref b), .val (.int (0 : Int32)), .val (.int (Int32.ofNat cs.length)), .val (.ref t), .unset]) rfl (pc' := 5) rfl ?_
  refine E_iconst X2 (v := (0 : Int32)) d_tob_5 rfl (pc' := 6) rfl ?_
  refine E_istore X2 d_tob_6 (l' := #[.val (.ref b), .val (.int (0 : Int32)), .val (.int (Int32.ofNat cs.length)), .val (.ref t), .val (.int (0 : Int32))]) rfl (pc' := 8) rfl ?_
  exact lp_tob l Z a0 hw G1 G3 OS b kC cs dv cs.length 0 t kb X2 (by omega) hmx4 Arv_7 V5 hbt gt szt KK6
theorem d_compress5_0 : decode jdk_52_method_21_code 0 = .ok (.iconst 0, 1) := by decide +kernel
theorem d_compress5_1 : decode jdk_52_method_21_code 1 = .ok (.istore 5, 2) := by decide +kernel
theorem d_compress5_3 : decode jdk_52_method_21_code 3 = .ok (.iload 5, 2) := by decide +kernel
theorem d_compress5_5 : decode jdk_52_method_21_code 5 = .ok (.iload 4, 2) := by decide +kernel
theorem d_compress5_7 : decode jdk_52_method_21_code 7 = .ok (.if_icmp .ge 37, 3) := by decide +kernel
theorem d_compress5_10 : decode jdk_52_method_21_code 10 = .ok (.aload_n 0, 1) := by decide +kernel
theorem d_compress5_11 : decode jdk_52_method_21_code 11 = .ok (.iload_n 1, 1) := by decide +kernel
theorem d_compress5_12 : decode jdk_52_method_21_code 12 = .ok (.caload, 1) := by decide +kernel
theorem d_compress5_13 : decode jdk_52_method_21_code 13 = .ok (.istore 6, 2) := by decide +kernel
theorem d_compress5_15 : decode jdk_52_method_21_code 15 = .ok (.iload 6, 2) := by decide +kernel
theorem d_compress5_17 : decode jdk_52_method_21_code 17 = .ok (.sipush 255, 3) := by decide +kernel
theorem d_compress5_20 : decode jdk_52_method_21_code 20 = .ok (.if_icmp .le 6, 3) := by decide +kernel
theorem d_compress5_23 : decode jdk_52_method_21_code 23 = .ok (.iload 5, 2) := by decide +kernel
theorem d_compress5_25 : decode jdk_52_method_21_code 25 = .ok (.ireturn, 1) := by decide +kernel
theorem d_compress5_26 : decode jdk_52_method_21_code 26 = .ok (.aload_n 2, 1) := by decide +kernel
theorem d_compress5_27 : decode jdk_52_method_21_code 27 = .ok (.iload_n 3, 1) := by decide +kernel
theorem d_compress5_28 : decode jdk_52_method_21_code 28 = .ok (.iload 6, 2) := by decide +kernel
theorem d_compress5_30 : decode jdk_52_method_21_code 30 = .ok (.i2b, 1) := by decide +kernel
theorem d_compress5_31 : decode jdk_52_method_21_code 31 = .ok (.bastore, 1) := by decide +kernel
theorem d_compress5_32 : decode jdk_52_method_21_code 32 = .ok (.iinc 1 1, 3) := by decide +kernel
theorem d_compress5_35 : decode jdk_52_method_21_code 35 = .ok (.iinc 3 1, 3) := by decide +kernel
theorem d_compress5_38 : decode jdk_52_method_21_code 38 = .ok (.iinc 5 1, 3) := by decide +kernel
theorem d_compress5_41 : decode jdk_52_method_21_code 41 = .ok (.goto (-38), 3) := by decide +kernel
theorem d_compress5_44 : decode jdk_52_method_21_code 44 = .ok (.iload 4, 2) := by decide +kernel
theorem d_compress5_46 : decode jdk_52_method_21_code 46 = .ok (.ireturn, 1) := by decide +kernel
abbrev rm_compress5 : Room := ({ frames := 0, cells := 0, slots := 0, locals := 0 } : Room)
def Q_compress5 (Z : State) (b t : Addr) (kC kb : ClassId) (cs : List Int32) (dv : Value) (h0 : Heap) (v : Option Value) (h : Heap) : Prop := Keep h0 h [t] ∧ ((v = some (.int (Int32.ofNat cs.length)) ∧ (∀ c ∈ cs, ¬ (255 : Int32) < c) ∧ Arv Z h t kb .byte (Int32.ofNat cs.length) (cs.map lo8) (.int (0 : Int32))) ∨ (∃ j, j < cs.length ∧ v = some (.int (Int32.ofNat j)) ∧ (255 : Int32) < cs.getD j 0))
set_option maxRecDepth 65536 in
set_option maxHeartbeats 40000000 in
theorem lp_compress5 (l : Launch) (Z : State) (a0 : Array Value) (hw : ∀ d ∈ tables_1, d.before a0 Z = true) (G1 : Int32) (G3 : Value) (OS : Sts Z G1 G3) (b t : Addr) (kC kb : ClassId) (cs : List Int32) (dv : Value) {h0 : Heap} {p : Program} {e : Env} {s : State} {m : MethodId} {below : List Frame} {meth : Method} {c : Code} (k : Nat) : ∀ {T0 : State} (i : Nat) (o : Slot), Wk l Z rm_compress5 jdk_52_method_21_code 7 (some .int) "java/lang/StringUTF16" "compress" p e s m #[(.ref b), (.int (0 : Int32)), (.ref t), (.int (0 : Int32)), (.int (Int32.ofNat cs.length))] below meth c T0 0 0 → (i + k = cs.length) → (o = .unset ∨ ∃ w, o = .val w ∧ w.category = 1) → (cs.length ≤ 4000) → (Arv Z T0.heap b kC .char (Int32.ofNat cs.length) (cs.map Value.int) dv) → (Arv Z T0.heap t kb .byte (Int32.ofNat cs.length) ((cs.take i).map lo8) (.int (0 : Int32))) → (b ≠ t) → (Z.heap.size ≤ t) → (Keep h0 T0.heap [t]) → (∀ c ∈ cs.take i, ¬ (255 : Int32) < c) → Ends p e below s Z (Q_compress5 Z b t kC kb cs dv h0) rm_compress5.cells rm_compress5.slots T0 (mkF m 3 #[.val (.ref b), .val (.int (Int32.ofNat i)), .val (.ref t), .val (.int (Int32.ofNat i)), .val (.int (Int32.ofNat cs.length)), .val (.int (Int32.ofNat i)), o] []) := by
  induction k with
  | zero =>
    intro T0 i o X0 hi hone hlen V0 D0 hbt gt K00 hall
    have hik : i = cs.length := by omega
    subst hik
    rw [List.take_length] at hall
    rw [List.take_length] at D0
    refine E_iload X0 d_compress5_3 rfl (pc' := 5) rfl ?_
    refine E_iload X0 d_compress5_5 rfl (pc' := 7) rfl ?_
    refine E_icT X0 d_compress5_7 (XT.ii_ge_t (o_nlt (Nat.le_refl _) (by omega))) (pc' := 44) (by decide) rfl ?_
    refine E_iload X0 d_compress5_44 rfl (pc' := 46) rfl ?_
    exact E_ireturnI X0 d_compress5_46 rfl (by decide) (by decide) (⟨K00, Or.inl ⟨rfl, hall, D0⟩⟩)
  | succ k ih =>
    intro T0 i o X0 hi hone hlen V0 D0 hbt gt K00 hall
    have hlt : i < cs.length := by omega
    obtain ⟨ch, hch⟩ : ∃ c, c = cs.getD i 0 := ⟨_, rfl⟩
    refine E_iload X0 d_compress5_3 rfl (pc' := 5) rfl ?_
    refine E_iload X0 d_compress5_5 rfl (pc' := 7) rfl ?_
    refine E_icF X0 d_compress5_7 (XT.ii_ge_f (o_lt hlt (by omega))) (pc' := 10) rfl ?_
    refine E_aloadN X0 d_compress5_10 rfl rfl (pc' := 11) rfl ?_
    refine E_iloadN X0 d_compress5_11 rfl (pc' := 12) rfl ?_
    refine E_caload X0 (v := (.int ch)) d_compress5_12 V0 ⟨o_nn (by omega), o_lt hlt (by omega)⟩ (by rw [own_getD Value.int hlt hlen, hch]) (pc' := 13) rfl ?_
    refine E_istore X0 d_compress5_13 (l' := #[.val (.ref b), .val (.int (Int32.ofNat i)), .val (.ref t), .val (.int (Int32.ofNat i)), .val (.int (Int32.ofNat cs.length)), .val (.int (Int32.ofNat i)), .val (.int ch)]) (XS.store1 rfl hone rfl) (pc' := 15) rfl ?_
    refine E_iload X0 d_compress5_15 rfl (pc' := 17) rfl ?_
    refine E_sipush X0 (v := (255 : Int32)) d_compress5_17 rfl (pc' := 20) rfl ?_
    by_cases hc : (255 : Int32) < ch
    · skip
      refine E_icF X0 d_compress5_20 (XT.ii_le_f hc) (pc' := 23) rfl ?_
      refine E_iload X0 d_compress5_23 rfl (pc' := 25) rfl ?_
      exact E_ireturnI X0 d_compress5_25 rfl (by decide) (by decide) (⟨K00, Or.inr ⟨i, hlt, rfl, hch ▸ hc⟩⟩)
    · skip
      refine E_icT X0 d_compress5_20 (XT.ii_le_t hc) (pc' := 26) (by decide) rfl ?_
      refine E_aloadN X0 d_compress5_26 rfl rfl (pc' := 27) rfl ?_
      refine E_iloadN X0 d_compress5_27 rfl (pc' := 28) rfl ?_
      refine E_iload X0 d_compress5_28 rfl (pc' := 30) rfl ?_
      refine E_i2b X0 d_compress5_30 rfl (pc' := 31) rfl ?_
      refine E_bastoreA X0 (y := (ch).toInt8.toInt32) d_compress5_31 (o_b8 _) D0 ⟨o_nn (by omega), o_lt hlt (by omega)⟩ (by rw [o_cl (by omega), own_tl lo8 (by omega)]) gt (pc' := 32) rfl ?_
      intro T1 X2 K3 V4
      have KK5 := K00.trans K3 (allS (Or.inl (by simp)) (fun x q => nomatch q))
      have Arv_6 := V0.keep K3 (ninS hbt nin0)
      have V7 : Arv Z T1.heap t kb .byte (Int32.ofNat cs.length) ((cs.take i).map lo8 ++ [lo8 ch]) (.int (0 : Int32)) := V4
      refine E_iinc X2 (y := (Int32.ofNat (i + 1))) d_compress5_32 o_add rfl (l' := #[.val (.ref b), .val (.int (Int32.ofNat (i + 1))), .val (.ref t), .val (.int (Int32.ofNat i)), .val (.int (Int32.ofNat cs.length)), .val (.int (Int32.ofNat i)), .val (.int ch)]) rfl (pc' := 35) rfl ?_
      refine E_iinc X2 (y := (Int32.ofNat (i + 1))) d_compress5_35 o_add rfl (l' := #[.val (.ref b), .val (.int (Int32.ofNat (i + 1))), .val (.ref t), .val (.int (Int32.ofNat (i + 1))), .val (.int (Int32.ofNat cs.length)), .val (.int (Int32.ofNat i)), .val (.int ch)]) rfl (pc' := 38) rfl ?_
      refine E_iinc X2 (y := (Int32.ofNat (i + 1))) d_compress5_38 o_add rfl (l' := #[.val (.ref b), .val (.int (Int32.ofNat (i + 1))), .val (.ref t), .val (.int (Int32.ofNat (i + 1))), .val (.int (Int32.ofNat cs.length)), .val (.int (Int32.ofNat (i + 1))), .val (.int ch)]) rfl (pc' := 41) rfl ?_
      refine E_goto X2 d_compress5_41 (pc' := 3) (by decide) rfl ?_
      have hV2 : Arv Z T1.heap t kb .byte (Int32.ofNat cs.length) ((cs.take (i + 1)).map lo8) (.int (0 : Int32)) := by rw [own_take lo8 hlt, ← hch]; exact V7
      have hall2 := own_all hlt hch hall hc
      exact ih (i + 1) (.val (.int ch)) X2 (by omega) (Or.inr ⟨_, rfl, rfl⟩) hlen Arv_6 hV2 hbt gt KK5 hall2
set_option maxRecDepth 65536 in
set_option maxHeartbeats 40000000 in
theorem ct_compress5 (l : Launch) (Z : State) (a0 : Array Value) (hw : ∀ d ∈ tables_1, d.before a0 Z = true) (G1 : Int32) (G3 : Value) (OS : Sts Z G1 G3) (b t : Addr) (kC kb : ClassId) (cs : List Int32) (dv : Value) {h0 : Heap} (O : Ext Z.heap h0) (hlen : cs.length ≤ 4000) (V0 : Arv Z h0 b kC .char (Int32.ofNat cs.length) (cs.map Value.int) dv) (D0 : Arv Z h0 t kb .byte (Int32.ofNat cs.length) ([]) (.int (0 : Int32))) (hbt : b ≠ t) (gt : Z.heap.size ≤ t) : Ct l Z (⟨"java/lang/StringUTF16", "compress", "([CI[BII)I"⟩ : MethodName) jdk_52_method_21_code 7 (some .int) rm_compress5 #[(.ref b), (.int (0 : Int32)), (.ref t), (.int (0 : Int32)), (.int (Int32.ofNat cs.length))] h0 (Q_compress5 Z b t kC kb cs dv h0) := by
  refine Ct.of_body (Ls := #[.val (.ref b), .val (.int (0 : Int32)), .val (.ref t), .val (.int (0 : Int32)), .val (.int (Int32.ofNat cs.length)), .unset, .unset]) (by decide +kernel) O (fun m => by first | rfl | (simp [entryFrame, mkF, argsToLocals, Value.category]; done) | (rcases ref_cases (Sts.ref OS) with rfl | ⟨r, rfl⟩ <;> rfl)) ?_
  intro p e s m below meth c T0 X0 e0
  subst e0
  refine E_iconst X0 (v := (0 : Int32)) d_compress5_0 rfl (pc' := 1) rfl ?_
  refine E_istore X0 d_compress5_1 (l' := #[.val (.ref b), .val (.int (0 : Int32)), .val (.ref t), .val (.int (0 : Int32)), .val (.int (Int32.ofNat cs.length)), .val (.int (0 : Int32)), .unset]) rfl (pc' := 3) rfl ?_
  exact lp_compress5 l Z a0 hw G1 G3 OS b t kC kb cs dv cs.length 0 .unset X0 (by omega) (Or.inl rfl) hlen V0 D0 hbt gt (Keep.refl _ _) (fun c hc => by simp at hc)
theorem d_cfl_0 : decode jdk_52_method_15_code 0 = .ok (.iload_n 1, 1) := by decide +kernel
theorem d_cfl_1 : decode jdk_52_method_15_code 1 = .ok (.aload_n 0, 1) := by decide +kernel
theorem d_cfl_2 : decode jdk_52_method_15_code 2 = .ok (.arraylength, 1) := by decide +kernel
theorem d_cfl_3 : decode jdk_52_method_15_code 3 = .ok (.isub, 1) := by decide +kernel
theorem d_cfl_4 : decode jdk_52_method_15_code 4 = .ok (.bipush 31, 2) := by decide +kernel
theorem d_cfl_6 : decode jdk_52_method_15_code 6 = .ok (.iushr, 1) := by decide +kernel
theorem d_cfl_7 : decode jdk_52_method_15_code 7 = .ok (.i2b, 1) := by decide +kernel
theorem d_cfl_8 : decode jdk_52_method_15_code 8 = .ok (.ireturn, 1) := by decide +kernel
abbrev rm_cfl : Room := ({ frames := 0, cells := 0, slots := 0, locals := 0 } : Room)
def Q_cfl (Z : State) (t : Addr) (kb : ClassId) (N n z : Int32) (vs : List Value) (h0 : Heap) (v : Option Value) (h : Heap) : Prop := v = some (.int z) ∧ h = h0
set_option maxRecDepth 65536 in
set_option maxHeartbeats 40000000 in
theorem ct_cfl (l : Launch) (Z : State) (a0 : Array Value) (hw : ∀ d ∈ tables_1, d.before a0 Z = true) (G1 : Int32) (G3 : Value) (OS : Sts Z G1 G3) (t : Addr) (kb : ClassId) (N n z : Int32) (vs : List Value) {h0 : Heap} (O : Ext Z.heap h0) (V0 : Arv Z h0 t kb .byte N vs (.int (0 : Int32))) (hz : nar .byte ((((n - N).toUInt32 >>> ((31 : Int32) &&& 31).toUInt32).toInt32).toInt8.toInt32) = z) : Ct l Z (⟨"java/lang/StringUTF16", "coderFromArrayLen", "([BI)B"⟩ : MethodName) jdk_52_method_15_code 2 (some .byte) rm_cfl #[(.ref t), (.int n)] h0 (Q_cfl Z t kb N n z vs h0) := by
  refine Ct.of_body (Ls := #[.val (.ref t), .val (.int n)]) (by decide +kernel) O (fun m => by first | rfl | (simp [entryFrame, mkF, argsToLocals, Value.category]; done) | (rcases ref_cases (Sts.ref OS) with rfl | ⟨r, rfl⟩ <;> rfl)) ?_
  intro p e s m below meth c T0 X0 e0
  subst e0
  refine E_iloadN X0 d_cfl_0 rfl (pc' := 1) rfl ?_
  refine E_aloadN X0 d_cfl_1 rfl rfl (pc' := 2) rfl ?_
  refine E_arraylength X0 d_cfl_2 V0 (pc' := 3) rfl ?_
  refine E_isub X0 d_cfl_3 rfl (pc' := 4) rfl ?_
  refine E_bipush X0 (v := (31 : Int32)) d_cfl_4 rfl (pc' := 6) rfl ?_
  refine E_iushr X0 d_cfl_6 rfl (pc' := 7) rfl ?_
  refine E_i2b X0 d_cfl_7 rfl (pc' := 8) rfl ?_
  exact E_ireturnN X0 (t := .byte) d_cfl_8 rfl (by simp) (by decide) (by decide) (⟨by rw [hz], rfl⟩)
theorem d_compress3_0 : decode jdk_52_method_16_code 0 = .ok (.iload_n 2, 1) := by decide +kernel
theorem d_compress3_1 : decode jdk_52_method_16_code 1 = .ok (.newarray .byte, 2) := by decide +kernel
theorem d_compress3_3 : decode jdk_52_method_16_code 3 = .ok (.astore_n 3, 1) := by decide +kernel
theorem d_compress3_4 : decode jdk_52_method_16_code 4 = .ok (.aload_n 0, 1) := by decide +kernel
theorem d_compress3_5 : decode jdk_52_method_16_code 5 = .ok (.iload_n 1, 1) := by decide +kernel
theorem d_compress3_6 : decode jdk_52_method_16_code 6 = .ok (.aload_n 3, 1) := by decide +kernel
theorem d_compress3_7 : decode jdk_52_method_16_code 7 = .ok (.iconst 0, 1) := by decide +kernel
theorem d_compress3_8 : decode jdk_52_method_16_code 8 = .ok (.iload_n 2, 1) := by decide +kernel
theorem d_compress3_9 : decode jdk_52_method_16_code 9 = .ok (.invokestatic 115, 3) := by decide +kernel
theorem d_compress3_12 : decode jdk_52_method_16_code 12 = .ok (.istore 4, 2) := by decide +kernel
theorem d_compress3_14 : decode jdk_52_method_16_code 14 = .ok (.iload 4, 2) := by decide +kernel
theorem d_compress3_16 : decode jdk_52_method_16_code 16 = .ok (.iload_n 2, 1) := by decide +kernel
theorem d_compress3_17 : decode jdk_52_method_16_code 17 = .ok (.if_icmp .eq 40, 3) := by decide +kernel
theorem d_compress3_20 : decode jdk_52_method_16_code 20 = .ok (.aload_n 0, 1) := by decide +kernel
theorem d_compress3_21 : decode jdk_52_method_16_code 21 = .ok (.iload_n 1, 1) := by decide +kernel
theorem d_compress3_22 : decode jdk_52_method_16_code 22 = .ok (.iload_n 2, 1) := by decide +kernel
theorem d_compress3_23 : decode jdk_52_method_16_code 23 = .ok (.invokestatic 119, 3) := by decide +kernel
theorem d_compress3_26 : decode jdk_52_method_16_code 26 = .ok (.astore 5, 2) := by decide +kernel
theorem d_compress3_28 : decode jdk_52_method_16_code 28 = .ok (.aload 5, 2) := by decide +kernel
theorem d_compress3_30 : decode jdk_52_method_16_code 30 = .ok (.iload 4, 2) := by decide +kernel
theorem d_compress3_32 : decode jdk_52_method_16_code 32 = .ok (.invokestatic 71, 3) := by decide +kernel
theorem d_compress3_35 : decode jdk_52_method_16_code 35 = .ok (.sipush 255, 3) := by decide +kernel
theorem d_compress3_38 : decode jdk_52_method_16_code 38 = .ok (.if_icmp .gt 16, 3) := by decide +kernel
theorem d_compress3_54 : decode jdk_52_method_16_code 54 = .ok (.aload 5, 2) := by decide +kernel
theorem d_compress3_56 : decode jdk_52_method_16_code 56 = .ok (.areturn, 1) := by decide +kernel
theorem d_compress3_57 : decode jdk_52_method_16_code 57 = .ok (.aload_n 3, 1) := by decide +kernel
theorem d_compress3_58 : decode jdk_52_method_16_code 58 = .ok (.areturn, 1) := by decide +kernel
abbrev rm_compress3 : Room := ({ frames := 3, cells := 2, slots := 111, locals := 40 } : Room)
def Q_compress3 (Z : State) (b : Addr) (kC : ClassId) (cs : List Int32) (dv : Value) (h0 : Heap) (v : Option Value) (h : Heap) : Prop := ∃ t kb, v = some (.ref t) ∧ Keep h0 h [] ∧ h0.size ≤ t ∧ (((∀ c ∈ cs, ¬ (255 : Int32) < c) ∧ Arv Z h t kb .byte (Int32.ofNat cs.length) (cs.map lo8) (.int (0 : Int32))) ∨ Arv Z h t kb .byte (Int32.ofNat (2 * cs.length)) (u16 cs) (.int (0 : Int32)))
set_option maxRecDepth 65536 in
set_option maxHeartbeats 40000000 in
theorem ct_compress3 (l : Launch) (Z : State) (a0 : Array Value) (hw : ∀ d ∈ tables_1, d.before a0 Z = true) (G1 : Int32) (G3 : Value) (OS : Sts Z G1 G3) (b : Addr) (kC : ClassId) (cs : List Int32) (dv : Value) {h0 : Heap} (O : Ext Z.heap h0) (hmx : cs.length ≤ 37) (hmx4 : cs.length ≤ 4000) (hp : ∀ c ∈ cs, ¬ c < 0 ∧ ¬ (65535 : Int32) < c) (V0 : Arv Z h0 b kC .char (Int32.ofNat cs.length) (cs.map Value.int) dv) : Ct l Z (⟨"java/lang/StringUTF16", "compress", "([CII)[B"⟩ : MethodName) jdk_52_method_16_code 6 (some (.array .byte)) rm_compress3 #[(.ref b), (.int (0 : Int32)), (.int (Int32.ofNat cs.length))] h0 (Q_compress3 Z b kC cs dv h0) := by
  refine Ct.of_body (Ls := #[.val (.ref b), .val (.int (0 : Int32)), .val (.int (Int32.ofNat cs.length)), .unset, .unset, .unset]) (by decide +kernel) O (fun m => by first | rfl | (simp [entryFrame, mkF, argsToLocals, Value.category]; done) | (rcases ref_cases (Sts.ref OS) with rfl | ⟨r, rfl⟩ <;> rfl)) ?_
  intro p e s m below meth c T0 X0 e0
  subst e0
  have K00 := Keep.refl T0.heap []
  refine E_iloadN X0 d_compress3_0 rfl (pc' := 1) rfl ?_
  refine E_newarray X0 37 d_compress3_1 (hw _ (List.mem_of_getElem? (i := 40) rfl)) (o_nn (by omega)) (by rw [o_cl (by omega)]; exact hmx) (by decide) (by decide) (by decide) (pc' := 3) rfl ?_
  intro T1 b3 k7 X2 hb4 K5 V6
  have sz8 : T0.heap.size ≤ b3 := Nat.le_trans K00.1 (Nat.le_of_eq hb4.symm)
  have ne9 : b ≠ b3 := Nat.ne_of_lt (Nat.lt_of_lt_of_eq V0.lt hb4.symm)
  have KK10 := K00.trans K5 (fun x q => nomatch q)
  have Arv_11 := V0.keep K5 nin0
  have g12 : Z.heap.size ≤ b3 := Nat.le_trans X0.le (Nat.le_of_eq hb4.symm)
  have V13 : Arv Z T1.heap b3 k7 .byte (Int32.ofNat cs.length) [] (.int (0 : Int32)) := V6
  refine E_astoreN X2 d_compress3_3 rfl (l' := #[.val (.ref b), .val (.int (0 : Int32)), .val (.int (Int32.ofNat cs.length)), .val (.ref b3), .unset, .unset]) rfl (pc' := 4) rfl ?_
  refine E_aloadN X2 d_compress3_4 rfl rfl (pc' := 5) rfl ?_
  refine E_iloadN X2 d_compress3_5 rfl (pc' := 6) rfl ?_
  refine E_aloadN X2 d_compress3_6 rfl rfl (pc' := 7) rfl ?_
  refine E_iconst X2 (v := (0 : Int32)) d_compress3_7 rfl (pc' := 8) rfl ?_
  refine E_iloadN X2 d_compress3_8 rfl (pc' := 9) rfl ?_
  refine E_static X2 (rm := rm_compress5) d_compress3_9 (hw _ (List.mem_of_getElem? (i := 41) rfl)) (hw _ (List.mem_of_getElem? (i := 42) rfl)) (hw _ (List.mem_of_getElem? (i := 38) rfl)) (hw _ (List.mem_of_getElem? (i := 43) rfl)) (by decide) (argsL := [(.ref b), (.int (0 : Int32)), (.ref b3), (.int (0 : Int32)), (.int (Int32.ofNat cs.length))]) (st := []) rfl (ct_compress5 l Z a0 hw G1 G3 OS b b3 kC k7 cs dv X2.old hmx4 Arv_11 V13 ne9 g12) (lenOf (pd_10) rfl) rfl (by decide) (by decide) (by decide) (Nat.le_of_ble_eq_true rfl) (pc' := 12) rfl ?_
  intro T14 _ X15 hQ16
  obtain ⟨K17, hor⟩ := hQ16
  have KK18 := KK10.trans K17 (allS (Or.inr sz8) (fun x q => nomatch q))
  have Arv_19 := Arv_11.keep K17 (ninS ne9 nin0)
  rcases hor with ⟨rfl, hall, VB⟩ | ⟨j, hj, rfl, hbig⟩
  · skip
    show Ends p e below s Z _ _ _ T14 (mkF m 12 #[.val (.ref b), .val (.int (0 : Int32)), .val (.int (Int32.ofNat cs.length)), .val (.ref b3), .unset, .unset] [(.int (Int32.ofNat cs.length))])
    refine E_istore X15 d_compress3_12 (l' := #[.val (.ref b), .val (.int (0 : Int32)), .val (.int (Int32.ofNat cs.length)), .val (.ref b3), .val (.int (Int32.ofNat cs.length)), .unset]) rfl (pc' := 14) rfl ?_
    refine E_iload X15 d_compress3_14 rfl (pc' := 16) rfl ?_
    refine E_iloadN X15 d_compress3_16 rfl (pc' := 17) rfl ?_
    refine E_icT X15 d_compress3_17 (XT.ii_eq_t rfl) (pc' := 57) (by decide) rfl ?_
    refine E_aloadN X15 d_compress3_57 rfl rfl (pc' := 58) rfl ?_
    exact E_areturn X15 (t := (.array .byte)) d_compress3_58 rfl rfl rfl rfl (by decide) (by decide) (⟨b3, k7, rfl, KK18, sz8, Or.inl ⟨hall, VB⟩⟩)
  · skip
    show Ends p e below s Z _ _ _ T14 (mkF m 12 #[.val (.ref b), .val (.int (0 : Int32)), .val (.int (Int32.ofNat cs.length)), .val (.ref b3), .unset, .unset] [(.int (Int32.ofNat j))])
    refine E_istore X15 d_compress3_12 (l' := #[.val (.ref b), .val (.int (0 : Int32)), .val (.int (Int32.ofNat cs.length)), .val (.ref b3), .val (.int (Int32.ofNat j)), .unset]) rfl (pc' := 14) rfl ?_
    refine E_iload X15 d_compress3_14 rfl (pc' := 16) rfl ?_
    refine E_iloadN X15 d_compress3_16 rfl (pc' := 17) rfl ?_
    refine E_icF X15 d_compress3_17 (XT.ii_eq_f (fun q => by have q2 := congrArg Int32.toInt q; rw [o_int (by omega), o_int (by omega)] at q2; omega)) (pc' := 20) rfl ?_
    refine E_aloadN X15 d_compress3_20 rfl rfl (pc' := 21) rfl ?_
    refine E_iloadN X15 d_compress3_21 rfl (pc' := 22) rfl ?_
    refine E_iloadN X15 d_compress3_22 rfl (pc' := 23) rfl ?_
    refine E_static X15 (rm := rm_tob) d_compress3_23 (hw _ (List.mem_of_getElem? (i := 90) rfl)) (hw _ (List.mem_of_getElem? (i := 91) rfl)) (hw _ (List.mem_of_getElem? (i := 38) rfl)) (hw _ (List.mem_of_getElem? (i := 92) rfl)) (by decide) (argsL := [(.ref b), (.int (0 : Int32)), (.int (Int32.ofNat cs.length))]) (st := []) rfl (ct_tob l Z a0 hw G1 G3 OS b kC cs dv X15.old hmx hmx4 Arv_19) (lenOf (pd_11) rfl) rfl (by decide) (by decide) (by decide) (Nat.le_of_ble_eq_true rfl) (pc' := 26) rfl ?_
    intro T20 _ X21 hQ22
    obtain ⟨tt, kt, rfl, K23, s24, VT25⟩ := hQ22
    have KK26 := KK18.trans K23 (fun x q => nomatch q)
    have Arv_27 := Arv_19.keep K23 nin0
    have szt : T0.heap.size ≤ tt := Nat.le_trans KK18.1 s24
    show Ends p e below s Z _ _ _ T20 (mkF m 26 #[.val (.ref b), .val (.int (0 : Int32)), .val (.int (Int32.ofNat cs.length)), .val (.ref b3), .val (.int (Int32.ofNat j)), .unset] [(.ref tt)])
    refine E_astore X21 d_compress3_26 rfl (l' := #[.val (.ref b), .val (.int (0 : Int32)), .val (.int (Int32.ofNat cs.length)), .val (.ref b3), .val (.int (Int32.ofNat j)), .val (.ref tt)]) rfl (pc' := 28) rfl ?_
    refine E_aload X21 d_compress3_28 rfl rfl (pc' := 30) rfl ?_
    refine E_iload X21 d_compress3_30 rfl (pc' := 32) rfl ?_
    refine E_static X21 (rm := rm_ugc) d_compress3_32 (hw _ (List.mem_of_getElem? (i := 106) rfl)) (hw _ (List.mem_of_getElem? (i := 107) rfl)) (hw _ (List.mem_of_getElem? (i := 38) rfl)) (hw _ (List.mem_of_getElem? (i := 108) rfl)) (by decide) (argsL := [(.ref tt), (.int (Int32.ofNat j))]) (st := []) rfl (ct_ugc l Z a0 hw G1 G3 OS tt kt cs j X21.old VT25 hj hmx4 (hp _ (own_mem hj))) (lenOf (pd_5) rfl) rfl (by decide) (by decide) (by decide) (Nat.le_of_ble_eq_true rfl) (pc' := 35) rfl ?_
    intro T28 _ X29 hQ30
    obtain ⟨rfl, e31⟩ := hQ30
    have KK32 := own_keq KK26 e31
    rw [← e31] at Arv_27 VT25
    show Ends p e below s Z _ _ _ T28 (mkF m 35 #[.val (.ref b), .val (.int (0 : Int32)), .val (.int (Int32.ofNat cs.length)), .val (.ref b3), .val (.int (Int32.ofNat j)), .val (.ref tt)] [(.int (cs.getD j 0))])
    refine E_sipush X29 (v := (255 : Int32)) d_compress3_35 rfl (pc' := 38) rfl ?_
    refine E_icT X29 d_compress3_38 (XT.ii_gt_t hbig) (pc' := 54) (by decide) rfl ?_
    refine E_aload X29 d_compress3_54 rfl rfl (pc' := 56) rfl ?_
    exact E_areturn X29 (t := (.array .byte)) d_compress3_56 rfl rfl rfl rfl (by decide) (by decide) (⟨tt, kt, rfl, KK32, szt, Or.inr VT25⟩)
theorem d_init4_0 : decode jdk_42_method_149_code 0 = .ok (.aload_n 0, 1) := by decide +kernel
theorem d_init4_1 : decode jdk_42_method_149_code 1 = .ok (.invokespecial 1, 3) := by decide +kernel
theorem d_init4_4 : decode jdk_42_method_149_code 4 = .ok (.iload_n 3, 1) := by decide +kernel
theorem d_init4_5 : decode jdk_42_method_149_code 5 = .ok (.ifCond .ne 22, 3) := by decide +kernel
theorem d_init4_27 : decode jdk_42_method_149_code 27 = .ok (.getstatic 38, 3) := by decide +kernel
theorem d_init4_30 : decode jdk_42_method_149_code 30 = .ok (.ifCond .eq 28, 3) := by decide +kernel
theorem d_init4_33 : decode jdk_42_method_149_code 33 = .ok (.aload_n 1, 1) := by decide +kernel
theorem d_init4_34 : decode jdk_42_method_149_code 34 = .ok (.iload_n 2, 1) := by decide +kernel
theorem d_init4_35 : decode jdk_42_method_149_code 35 = .ok (.iload_n 3, 1) := by decide +kernel
theorem d_init4_36 : decode jdk_42_method_149_code 36 = .ok (.invokestatic 177, 3) := by decide +kernel
theorem d_init4_39 : decode jdk_42_method_149_code 39 = .ok (.astore 5, 2) := by decide +kernel
theorem d_init4_41 : decode jdk_42_method_149_code 41 = .ok (.aload_n 0, 1) := by decide +kernel
theorem d_init4_42 : decode jdk_42_method_149_code 42 = .ok (.aload 5, 2) := by decide +kernel
theorem d_init4_44 : decode jdk_42_method_149_code 44 = .ok (.iload_n 3, 1) := by decide +kernel
theorem d_init4_45 : decode jdk_42_method_149_code 45 = .ok (.invokestatic 47, 3) := by decide +kernel
theorem d_init4_48 : decode jdk_42_method_149_code 48 = .ok (.putfield 15, 3) := by decide +kernel
theorem d_init4_51 : decode jdk_42_method_149_code 51 = .ok (.aload_n 0, 1) := by decide +kernel
theorem d_init4_52 : decode jdk_42_method_149_code 52 = .ok (.aload 5, 2) := by decide +kernel
theorem d_init4_54 : decode jdk_42_method_149_code 54 = .ok (.putfield 9, 3) := by decide +kernel
theorem d_init4_57 : decode jdk_42_method_149_code 57 = .ok (.return_, 1) := by decide +kernel
abbrev rm_init4 : Room := ({ frames := 4, cells := 2, slots := 111, locals := 57 } : Room)
def Q_init4 (Z : State) (x b : Addr) (kC : ClassId) (cs : List Int32) (dv v0 c0 : Value) (h0 : Heap) (v : Option Value) (h : Heap) : Prop := v = none ∧ Keep h0 h [x] ∧ ∃ t, h0.size ≤ t ∧ OStr Z h x t cs
set_option maxRecDepth 65536 in
set_option maxHeartbeats 40000000 in
theorem ct_init4 (l : Launch) (Z : State) (a0 : Array Value) (hw : ∀ d ∈ tables_1, d.before a0 Z = true) (G1 : Int32) (G3 : Value) (OS : Sts Z G1 G3) (x b : Addr) (kC : ClassId) (cs : List Int32) (dv v0 c0 : Value) {h0 : Heap} (O : Ext Z.heap h0) (h0l : 0 < cs.length) (hmx : cs.length ≤ 37) (hp : ∀ c ∈ cs, ¬ c < 0 ∧ ¬ (65535 : Int32) < c) (E0 : Exa Z h0 x "java/lang/String") (F0 : Fld Z h0 x "java/lang/String" "value" "[B" v0) (C0 : Fld Z h0 x "java/lang/String" "coder" "B" c0) (gx : Z.heap.size ≤ x) (V0 : Arv Z h0 b kC .char (Int32.ofNat cs.length) (cs.map Value.int) dv) : Ct l Z (⟨"java/lang/String", "<init>", "([CIILjava/lang/Void;)V"⟩ : MethodName) jdk_42_method_149_code 6 none rm_init4 #[(.ref x), (.ref b), (.int (0 : Int32)), (.int (Int32.ofNat cs.length)), .null] h0 (Q_init4 Z x b kC cs dv v0 c0 h0) := by
  refine Ct.of_body (Ls := #[.val (.ref x), .val (.ref b), .val (.int (0 : Int32)), .val (.int (Int32.ofNat cs.length)), .val .null, .unset]) (by decide +kernel) O (fun m => by first | rfl | (simp [entryFrame, mkF, argsToLocals, Value.category]; done) | (rcases ref_cases (Sts.ref OS) with rfl | ⟨r, rfl⟩ <;> rfl)) ?_
  intro p e s m below meth c T0 X0 e0
  subst e0
  have hmx4 : cs.length ≤ 4000 := by omega
  have hxb : b ≠ x := fun q => by subst q; exact absurd rfl (ne_arr E0 (hw _ (List.mem_of_getElem? (i := 23) rfl)) (V0.choose_spec.1))
  have K00 := Keep.refl T0.heap [x]
  refine E_aloadN X0 d_init4_0 rfl rfl (pc' := 1) rfl ?_
  refine E_initO X0 d_init4_1 (hw _ (List.mem_of_getElem? (i := 32) rfl)) (hw _ (List.mem_of_getElem? (i := 33) rfl)) (hw _ (List.mem_of_getElem? (i := 34) rfl)) rfl (by decide) (Nat.le_of_ble_eq_true rfl) (pc' := 4) rfl ?_
  intro T1 X2 e3
  have KK4 := own_keq K00 e3
  rw [← e3] at E0 F0 C0 V0
  refine E_iloadN X2 d_init4_4 rfl (pc' := 5) rfl ?_
  refine E_ifT X2 d_init4_5 (XT.i0_ne_t (fun q => by have q2 := congrArg Int32.toInt q; rw [o_int (by omega)] at q2; have o1 : (0 : Int32).toInt = 0 := rfl; omega)) (pc' := 27) (by decide) rfl ?_
  refine E_getstatic X2 d_init4_27 (hw _ (List.mem_of_getElem? (i := 35) rfl)) Via.refl OS.1 (pc' := 30) rfl ?_
  intro T5 X6 e7
  have KK8 := own_keq KK4 e7
  rw [← e7] at E0 F0 C0 V0
  refine E_ifF X6 d_init4_30 (XT.i0_eq_f OS.2.1) (pc' := 33) rfl ?_
  refine E_aloadN X6 d_init4_33 rfl rfl (pc' := 34) rfl ?_
  refine E_iloadN X6 d_init4_34 rfl (pc' := 35) rfl ?_
  refine E_iloadN X6 d_init4_35 rfl (pc' := 36) rfl ?_
  refine E_static X6 (rm := rm_compress3) d_init4_36 (hw _ (List.mem_of_getElem? (i := 36) rfl)) (hw _ (List.mem_of_getElem? (i := 37) rfl)) (hw _ (List.mem_of_getElem? (i := 38) rfl)) (hw _ (List.mem_of_getElem? (i := 39) rfl)) (by decide) (argsL := [(.ref b), (.int (0 : Int32)), (.int (Int32.ofNat cs.length))]) (st := []) rfl (ct_compress3 l Z a0 hw G1 G3 OS b kC cs dv X6.old hmx hmx4 hp V0) (lenOf (pd_11) rfl) rfl (by decide) (by decide) (by decide) (Nat.le_of_ble_eq_true rfl) (pc' := 39) rfl ?_
  intro T9 _ X10 hQ11
  obtain ⟨t, kb, rfl, K12, szt0, hVT⟩ := hQ11
  have hxt : t ≠ x := Ne.symm (Nat.ne_of_lt (Nat.lt_of_lt_of_le E0.lt szt0))
  have KK13 := KK8.trans K12 (fun x q => nomatch q)
  have Exa_14 := E0.keep K12
  have Fld_15 := F0.keep K12 nin0
  have Fld_16 := C0.keep K12 nin0
  have Arv_17 := V0.keep K12 nin0
  have szt : T0.heap.size ≤ t := Nat.le_trans KK8.1 szt0
  rcases hVT with ⟨hall, VT⟩ | VT
  · skip
    show Ends p e below s Z _ _ _ T9 (mkF m 39 #[.val (.ref x), .val (.ref b), .val (.int (0 : Int32)), .val (.int (Int32.ofNat cs.length)), .val .null, .unset] [(.ref t)])
    refine E_astore X10 d_init4_39 rfl (l' := #[.val (.ref x), .val (.ref b), .val (.int (0 : Int32)), .val (.int (Int32.ofNat cs.length)), .val .null, .val (.ref t)]) rfl (pc' := 41) rfl ?_
    refine E_aloadN X10 d_init4_41 rfl rfl (pc' := 42) rfl ?_
    refine E_aload X10 d_init4_42 rfl rfl (pc' := 44) rfl ?_
    refine E_iloadN X10 d_init4_44 rfl (pc' := 45) rfl ?_
    refine E_static X10 (rm := rm_cfl) d_init4_45 (hw _ (List.mem_of_getElem? (i := 44) rfl)) (hw _ (List.mem_of_getElem? (i := 45) rfl)) (hw _ (List.mem_of_getElem? (i := 38) rfl)) (hw _ (List.mem_of_getElem? (i := 46) rfl)) (by decide) (argsL := [(.ref t), (.int (Int32.ofNat cs.length))]) (st := [(.ref x)]) rfl (ct_cfl l Z a0 hw G1 G3 OS t kb (Int32.ofNat cs.length) (Int32.ofNat cs.length) 0 (cs.map lo8) X10.old VT (by rw [Int32.sub_self]; rfl)) (lenOf (pd_12) rfl) rfl (by decide) (by decide) (by decide) (Nat.le_of_ble_eq_true rfl) (pc' := 48) rfl ?_
    intro T18 _ X19 hQ20
    obtain ⟨rfl, e21⟩ := hQ20
    have KK22 := own_keq KK13 e21
    rw [← e21] at Exa_14 Fld_15 Fld_16 Arv_17 VT
    show Ends p e below s Z _ _ _ T18 (mkF m 48 #[.val (.ref x), .val (.ref b), .val (.int (0 : Int32)), .val (.int (Int32.ofNat cs.length)), .val .null, .val (.ref t)] [(.int (0 : Int32)), (.ref x)])
    refine E_putfield X19 (ty := .byte) d_init4_48 (hw _ (List.mem_of_getElem? (i := 47) rfl)) Via.refl Fld_16 Exa_14 (Or.inr ⟨(hw _ (List.mem_of_getElem? (i := 48) rfl)), rfl, rfl⟩) (hw _ (List.mem_of_getElem? (i := 23) rfl)) (by decide) rfl rfl gx (pc' := 51) rfl ?_
    intro T23 X24 W25
    have K26 := Keep.of_wr W25
    have KK27 := KK22.trans K26 (allS (Or.inl (by simp)) (fun x q => nomatch q))
    have Exa_28 := Exa_14.keep K26
    have Arv_29 := Arv_17.keep K26 (ninS hxb nin0)
    have Arv_30 := VT.keep K26 (ninS hxt nin0)
    have F31 := Fld_16.same W25
    have F32 := Fld_15.other W25 (Or.inr (slot_ne (Or.inr (hw _ (List.mem_of_getElem? (i := 50) rfl))) (Or.inr (hw _ (List.mem_of_getElem? (i := 48) rfl))) (by decide) (t := (.array .byte)) (t' := .byte) (by decide) (by decide)))
    refine E_aloadN X24 d_init4_51 rfl rfl (pc' := 52) rfl ?_
    refine E_aload X24 d_init4_52 rfl rfl (pc' := 54) rfl ?_
    refine E_putfield X24 (ty := (.array .byte)) d_init4_54 (hw _ (List.mem_of_getElem? (i := 49) rfl)) Via.refl F32 Exa_28 (Or.inr ⟨(hw _ (List.mem_of_getElem? (i := 50) rfl)), rfl, rfl⟩) (hw _ (List.mem_of_getElem? (i := 23) rfl)) (by decide) rfl rfl gx (pc' := 57) rfl ?_
    intro T33 X34 W35
    have K36 := Keep.of_wr W35
    have KK37 := KK27.trans K36 (allS (Or.inl (by simp)) (fun x q => nomatch q))
    have Exa_38 := Exa_28.keep K36
    have Arv_39 := Arv_29.keep K36 (ninS hxb nin0)
    have Arv_40 := Arv_30.keep K36 (ninS hxt nin0)
    have F41 := F32.same W35
    have F42 := F31.other W35 (Or.inr (slot_ne (Or.inr (hw _ (List.mem_of_getElem? (i := 48) rfl))) (Or.inr (hw _ (List.mem_of_getElem? (i := 50) rfl))) (by decide) (t := .byte) (t' := (.array .byte)) (by decide) (by decide)))
    exact E_return X34 d_init4_57 rfl (by decide) (by decide) (⟨rfl, KK37, t, szt, kb, _, _, _, Exa_38, F41, F42, Arv_40, Or.inl ⟨rfl, rfl, rfl, hall⟩, hp, hmx4⟩)
  · skip
    show Ends p e below s Z _ _ _ T9 (mkF m 39 #[.val (.ref x), .val (.ref b), .val (.int (0 : Int32)), .val (.int (Int32.ofNat cs.length)), .val .null, .unset] [(.ref t)])
    refine E_astore X10 d_init4_39 rfl (l' := #[.val (.ref x), .val (.ref b), .val (.int (0 : Int32)), .val (.int (Int32.ofNat cs.length)), .val .null, .val (.ref t)]) rfl (pc' := 41) rfl ?_
    refine E_aloadN X10 d_init4_41 rfl rfl (pc' := 42) rfl ?_
    refine E_aload X10 d_init4_42 rfl rfl (pc' := 44) rfl ?_
    refine E_iloadN X10 d_init4_44 rfl (pc' := 45) rfl ?_
    refine E_static X10 (rm := rm_cfl) d_init4_45 (hw _ (List.mem_of_getElem? (i := 44) rfl)) (hw _ (List.mem_of_getElem? (i := 45) rfl)) (hw _ (List.mem_of_getElem? (i := 38) rfl)) (hw _ (List.mem_of_getElem? (i := 46) rfl)) (by decide) (argsL := [(.ref t), (.int (Int32.ofNat cs.length))]) (st := [(.ref x)]) rfl (ct_cfl l Z a0 hw G1 G3 OS t kb (Int32.ofNat (2 * cs.length)) (Int32.ofNat cs.length) 1 (u16 cs) X10.old VT (o_cfl (by omega) (by omega))) (lenOf (pd_12) rfl) rfl (by decide) (by decide) (by decide) (Nat.le_of_ble_eq_true rfl) (pc' := 48) rfl ?_
    intro T43 _ X44 hQ45
    obtain ⟨rfl, e46⟩ := hQ45
    have KK47 := own_keq KK13 e46
    rw [← e46] at Exa_14 Fld_15 Fld_16 Arv_17 VT
    show Ends p e below s Z _ _ _ T43 (mkF m 48 #[.val (.ref x), .val (.ref b), .val (.int (0 : Int32)), .val (.int (Int32.ofNat cs.length)), .val .null, .val (.ref t)] [(.int (1 : Int32)), (.ref x)])
    refine E_putfield X44 (ty := .byte) d_init4_48 (hw _ (List.mem_of_getElem? (i := 47) rfl)) Via.refl Fld_16 Exa_14 (Or.inr ⟨(hw _ (List.mem_of_getElem? (i := 48) rfl)), rfl, rfl⟩) (hw _ (List.mem_of_getElem? (i := 23) rfl)) (by decide) rfl rfl gx (pc' := 51) rfl ?_
    intro T48 X49 W50
    have K51 := Keep.of_wr W50
    have KK52 := KK47.trans K51 (allS (Or.inl (by simp)) (fun x q => nomatch q))
    have Exa_53 := Exa_14.keep K51
    have Arv_54 := Arv_17.keep K51 (ninS hxb nin0)
    have Arv_55 := VT.keep K51 (ninS hxt nin0)
    have F56 := Fld_16.same W50
    have F57 := Fld_15.other W50 (Or.inr (slot_ne (Or.inr (hw _ (List.mem_of_getElem? (i := 50) rfl))) (Or.inr (hw _ (List.mem_of_getElem? (i := 48) rfl))) (by decide) (t := (.array .byte)) (t' := .byte) (by decide) (by decide)))
    refine E_aloadN X49 d_init4_51 rfl rfl (pc' := 52) rfl ?_
    refine E_aload X49 d_init4_52 rfl rfl (pc' := 54) rfl ?_
    refine E_putfield X49 (ty := (.array .byte)) d_init4_54 (hw _ (List.mem_of_getElem? (i := 49) rfl)) Via.refl F57 Exa_53 (Or.inr ⟨(hw _ (List.mem_of_getElem? (i := 50) rfl)), rfl, rfl⟩) (hw _ (List.mem_of_getElem? (i := 23) rfl)) (by decide) rfl rfl gx (pc' := 57) rfl ?_
    intro T58 X59 W60
    have K61 := Keep.of_wr W60
    have KK62 := KK52.trans K61 (allS (Or.inl (by simp)) (fun x q => nomatch q))
    have Exa_63 := Exa_53.keep K61
    have Arv_64 := Arv_54.keep K61 (ninS hxb nin0)
    have Arv_65 := Arv_55.keep K61 (ninS hxt nin0)
    have F66 := F57.same W60
    have F67 := F56.other W60 (Or.inr (slot_ne (Or.inr (hw _ (List.mem_of_getElem? (i := 48) rfl))) (Or.inr (hw _ (List.mem_of_getElem? (i := 50) rfl))) (by decide) (t := .byte) (t' := (.array .byte)) (by decide) (by decide)))
    exact E_return X59 d_init4_57 rfl (by decide) (by decide) (⟨rfl, KK62, t, szt, kb, _, _, _, Exa_63, F66, F67, Arv_65, Or.inr ⟨rfl, rfl, rfl⟩, hp, hmx4⟩)
theorem d_sinit_0 : decode jdk_42_method_3_code 0 = .ok (.aload_n 0, 1) := by decide +kernel
theorem d_sinit_1 : decode jdk_42_method_3_code 1 = .ok (.aload_n 1, 1) := by decide +kernel
theorem d_sinit_2 : decode jdk_42_method_3_code 2 = .ok (.iconst 0, 1) := by decide +kernel
theorem d_sinit_3 : decode jdk_42_method_3_code 3 = .ok (.aload_n 1, 1) := by decide +kernel
theorem d_sinit_4 : decode jdk_42_method_3_code 4 = .ok (.arraylength, 1) := by decide +kernel
theorem d_sinit_5 : decode jdk_42_method_3_code 5 = .ok (.aconst_null, 1) := by decide +kernel
theorem d_sinit_6 : decode jdk_42_method_3_code 6 = .ok (.invokespecial 27, 3) := by decide +kernel
theorem d_sinit_9 : decode jdk_42_method_3_code 9 = .ok (.return_, 1) := by decide +kernel
abbrev rm_sinit : Room := ({ frames := 5, cells := 2, slots := 111, locals := 74 } : Room)
def Q_sinit (Z : State) (x b : Addr) (kC : ClassId) (cs : List Int32) (dv v0 c0 : Value) (h0 : Heap) (v : Option Value) (h : Heap) : Prop := v = none ∧ Keep h0 h [x] ∧ ∃ t, h0.size ≤ t ∧ OStr Z h x t cs
set_option maxRecDepth 65536 in
set_option maxHeartbeats 40000000 in
theorem ct_sinit (l : Launch) (Z : State) (a0 : Array Value) (hw : ∀ d ∈ tables_1, d.before a0 Z = true) (G1 : Int32) (G3 : Value) (OS : Sts Z G1 G3) (x b : Addr) (kC : ClassId) (cs : List Int32) (dv v0 c0 : Value) {h0 : Heap} (O : Ext Z.heap h0) (h0l : 0 < cs.length) (hmx : cs.length ≤ 37) (hp : ∀ c ∈ cs, ¬ c < 0 ∧ ¬ (65535 : Int32) < c) (E0 : Exa Z h0 x "java/lang/String") (F0 : Fld Z h0 x "java/lang/String" "value" "[B" v0) (C0 : Fld Z h0 x "java/lang/String" "coder" "B" c0) (gx : Z.heap.size ≤ x) (V0 : Arv Z h0 b kC .char (Int32.ofNat cs.length) (cs.map Value.int) dv) : Ct l Z (⟨"java/lang/String", "<init>", "([C)V"⟩ : MethodName) jdk_42_method_3_code 2 none rm_sinit #[(.ref x), (.ref b)] h0 (Q_sinit Z x b kC cs dv v0 c0 h0) := by
  refine Ct.of_body (Ls := #[.val (.ref x), .val (.ref b)]) (by decide +kernel) O (fun m => by first | rfl | (simp [entryFrame, mkF, argsToLocals, Value.category]; done) | (rcases ref_cases (Sts.ref OS) with rfl | ⟨r, rfl⟩ <;> rfl)) ?_
  intro p e s m below meth c T0 X0 e0
  subst e0
  refine E_aloadN X0 d_sinit_0 rfl rfl (pc' := 1) rfl ?_
  refine E_aloadN X0 d_sinit_1 rfl rfl (pc' := 2) rfl ?_
  refine E_iconst X0 (v := (0 : Int32)) d_sinit_2 rfl (pc' := 3) rfl ?_
  refine E_aloadN X0 d_sinit_3 rfl rfl (pc' := 4) rfl ?_
  refine E_arraylength X0 d_sinit_4 V0 (pc' := 5) rfl ?_
  refine E_aconstNull X0 d_sinit_5 (pc' := 6) rfl ?_
  refine E_special X0 (rm := rm_init4) (a := x) d_sinit_6 rfl rfl (hw _ (List.mem_of_getElem? (i := 28) rfl)) (hw _ (List.mem_of_getElem? (i := 29) rfl)) (hw _ (List.mem_of_getElem? (i := 31) rfl)) (by decide) (hw _ (List.mem_of_getElem? (i := 24) rfl)) (argsL := [(.ref b), (.int (0 : Int32)), (.int (Int32.ofNat cs.length)), .null]) (st := []) rfl (ct_init4 l Z a0 hw G1 G3 OS x b kC cs dv v0 c0 X0.old h0l hmx hp E0 F0 C0 gx V0) (lenOf (pd_13) rfl) rfl (by decide) (by decide) (by decide) (Nat.le_of_ble_eq_true rfl) (pc' := 9) rfl ?_
  intro T1 _ X2 hQ3
  obtain ⟨rfl, KF, t, szt, SF⟩ := hQ3
  show Ends p e below s Z _ _ _ T1 (mkF m 9 #[.val (.ref x), .val (.ref b)] [])
  exact E_return X2 d_sinit_9 rfl (by decide) (by decide) (⟨rfl, KF, t, szt, SF⟩)
def Dsh (i : Nat) : Prop := i = 8 ∨ i = 13 ∨ i = 18 ∨ i = 23
def Hex (c : Int32) : Prop := (¬ c < 48 ∧ ¬ 57 < c) ∨ (¬ c < 97 ∧ ¬ 102 < c) ∨ (¬ c < 65 ∧ ¬ 70 < c)
def OkC (i : Nat) (c : Int32) : Prop := (Dsh i ∧ c = 45) ∨ (¬ Dsh i ∧ Hex c)
def Wf (cs : List Int32) : Prop := cs.length = 36 ∧ ∀ i, i < 36 → OkC i (cs.getD i 0)
def OkL : Nat → List Int32 → Prop
  | _, [] => True
  | n, c :: r => OkC n c ∧ OkL (n + 1) r
theorem OkL.get : ∀ {n : Nat} {r : List Int32}, OkL n r → ∀ i, i < r.length → OkC (n + i) (r.getD i 0)
  | _, [], _, i, hi => absurd hi (Nat.not_lt_zero _)
  | n, c :: r, h, 0, _ => h.1
  | n, c :: r, h, i + 1, hi => by
    have q := OkL.get h.2 i (by simpa using hi)
    have e : n + 1 + i = n + (i + 1) := by omega
    rw [e] at q; simpa using q
theorem hex_iff (c : Int32) : Hex c ↔ (48 ≤ c.toInt ∧ c.toInt ≤ 57) ∨ (97 ≤ c.toInt ∧ c.toInt ≤ 102) ∨ (65 ≤ c.toInt ∧ c.toInt ≤ 70) := by
  simp only [Hex, Int32.lt_iff_toInt_lt, Int32.reduceToInt]; omega
theorem okc_ch {i : Nat} {c : Int32} (h : OkC i c) : ¬ c < 0 ∧ ¬ (65535 : Int32) < c := by
  rcases h with ⟨-, rfl⟩ | ⟨-, h⟩
  · exact ⟨by decide, by decide⟩
  · rw [hex_iff] at h; simp only [Int32.lt_iff_toInt_lt, Int32.reduceToInt]; omega
theorem okc_nar {i : Nat} {c : Int32} (h : OkC i c) : nar .char c = c := o_nar (okc_ch h).1 (okc_ch h).2
theorem ch_of {z : Int32} (a : Int) (e : (z.toInt - a) % 4294967296 = 0) (h : 0 ≤ a ∧ a ≤ 255) : (nar .char z.toUInt32.toUInt16.toUInt32.toInt32).toInt = a := by
  have r := rng32 z
  have ez : z.toInt = a := by omega
  have b1 : ¬ z < 0 := by rw [Int32.lt_iff_toInt_lt, ez]; show ¬ a < 0; omega
  have b2 : ¬ (65535 : Int32) < z := by rw [Int32.lt_iff_toInt_lt, ez]; show ¬ (65535 : Int) < a; omega
  rw [o_i2c b1 b2, o_nar b1 b2, ez]
theorem hex_d {i : Int32} (h0 : 0 ≤ i.toInt) (h : i < 10) : Hex (nar .char ((48 : Int32) + i).toUInt32.toUInt16.toUInt32.toInt32) := by
  have e := c_iadd 48 i
  simp only [Int32.lt_iff_toInt_lt, Int32.reduceToInt] at h e
  rw [hex_iff, ch_of (48 + i.toInt) e (by omega)]; omega
theorem hex_l {i : Int32} (h1 : ¬ i < 10) (h2 : i < 16) : Hex (nar .char ((97 : Int32) + (i - (10 : Int32))).toUInt32.toUInt16.toUInt32.toInt32) := by
  have e := c_iadd 97 (i - 10); have f := c_isub i 10
  simp only [Int32.lt_iff_toInt_lt, Int32.reduceToInt] at h1 h2 e f
  rw [hex_iff, ch_of (97 + (i.toInt - 10)) (by omega) (by omega)]; omega
theorem hex_u {i : Int32} (h1 : ¬ i < 16) (h2 : i.toInt < 22) : Hex (nar .char ((65 : Int32) + (i - (16 : Int32))).toUInt32.toUInt16.toUInt32.toInt32) := by
  have e := c_iadd 65 (i - 16); have f := c_isub i 16
  simp only [Int32.lt_iff_toInt_lt, Int32.reduceToInt] at h1 h2 e f
  rw [hex_iff, ch_of (65 + (i.toInt - 16)) (by omega) (by omega)]; omega
theorem own_i {m : Int32} {d : Int} (x : Int32) (hm : m.toInt = d) (hd : 0 < d) : 0 ≤ ((x &&& (2147483647 : Int32)) % m).toInt ∧ ((x &&& (2147483647 : Int32)) % m).toInt < d := by
  have e1 := c_and x (2147483647 : Int32) (by decide)
  have e2 := (c_irem (x &&& (2147483647 : Int32)) m d hm).1 e1.1
  rw [e2]; exact ⟨Int.emod_nonneg _ (by omega), Int.emod_lt_of_pos _ hd⟩
theorem own_p (x : Int32) : ∃ o : Nat, o < 36 ∧ (x &&& (2147483647 : Int32)) % (36 : Int32) = Int32.ofNat o := by
  have e := own_i (m := 36) (d := 36) x rfl (by decide)
  refine ⟨((x &&& (2147483647 : Int32)) % (36 : Int32)).toInt.toNat, by omega, ?_⟩
  apply Int32.toInt_inj.mp
  rw [o_int (by omega)]; omega
theorem o_eqi {i n : Nat} (hi : i < 2147483648) (hn : n < 2147483648) (h : Int32.ofNat i = Int32.ofNat n) : i = n := by
  have q := congrArg Int32.toInt h; rw [o_int hi, o_int hn] at q; omega
theorem or32 (n : Nat) : n ||| 32 = if n / 32 % 2 = 1 then n else n + 32 := by
  have h1 : n = 2 ^ 6 * (n / 64) + n % 64 := by omega
  have h2 : n % 64 < 2 ^ 6 := by omega
  have h3 : ∀ r, r < 64 → r ||| 32 = (if r / 32 % 2 = 1 then r else r + 32) := by decide
  have h4 := h3 (n % 64) (by omega)
  have h5 : (n % 64 ||| 32) < 2 ^ 6 := by rw [h4]; split <;> omega
  have h6 : n ||| 32 = 2 ^ 6 * (n / 64) + (n % 64 ||| 32) := by
    rw [Nat.two_pow_add_eq_or_of_lt h5, ← Nat.or_assoc, ← Nat.two_pow_add_eq_or_of_lt h2, ← h1]
  rw [h6, h4]
  split <;> split <;> omega
theorem or32i {c : Int32} (h1 : ¬ c < 0) (h2 : ¬ (65535 : Int32) < c) : (c ||| (32 : Int32)).toInt = if c.toInt / 32 % 2 = 1 then c.toInt else c.toInt + 32 := by
  simp only [Int32.lt_iff_toInt_lt, Int32.reduceToInt] at h1 h2
  have e1 : c.toInt = c.toBitVec.toNat := by
    have q : c.toInt = c.toBitVec.toInt := rfl
    rw [q, BitVec.toInt_eq_toNat_cond] at h1 h2 ⊢
    split at h1 <;> simp_all <;> omega
  have e2 : (c ||| (32 : Int32)).toBitVec.toNat = c.toBitVec.toNat ||| 32 := by
    rw [Int32.toBitVec_or, BitVec.toNat_or]; rfl
  have e3 : (c ||| (32 : Int32)).toInt = ((c ||| (32 : Int32)).toBitVec.toNat : Int) := by
    have q : (c ||| (32 : Int32)).toInt = (c ||| (32 : Int32)).toBitVec.toInt := rfl
    rw [q, BitVec.toInt_eq_toNat_cond, e2, or32]
    split <;> split <;> omega
  rw [e3, e2, or32, e1]
  split <;> split <;> omega
theorem hex_or {c : Int32} (h1 : ¬ c < 0) (h2 : ¬ (65535 : Int32) < c) : Hex c ↔ (¬ c < 48 ∧ ¬ 57 < c) ∨ (¬ (c ||| (32 : Int32)) < 97 ∧ ¬ 102 < (c ||| (32 : Int32))) := by
  rw [hex_iff]
  have e := or32i h1 h2
  simp only [Int32.lt_iff_toInt_lt, Int32.reduceToInt] at h1 h2 ⊢
  rw [e]; split <;> omega
theorem wf_iff {g : List Int32} {p q : Nat} (hl : g.length = 36) (hall : ∀ i, i < 36 → i ≠ p → i ≠ q → OkC i (g.getD i 0)) (hp : p < 36) (hq : q < 36) : Wf g ↔ OkC p (g.getD p 0) ∧ OkC q (g.getD q 0) := by
  constructor
  · intro h; exact ⟨h.2 p hp, h.2 q hq⟩
  · intro h
    refine ⟨hl, fun i hi => ?_⟩
    by_cases e1 : i = p
    · rw [e1]; exact h.1
    · by_cases e2 : i = q
      · rw [e2]; exact h.2
      · exact hall i hi e1 e2
theorem set_get {g : List Int32} {p i : Nat} {c : Int32} (h : i ≠ p) : (g.set p c).getD i 0 = g.getD i 0 := by
  simp [List.getD_eq_getElem?_getD, List.getElem?_set_ne (Ne.symm h)]
theorem okl_ch {g : List Int32} (h : ∀ i, i < g.length → OkC i (g.getD i 0)) : ∀ c ∈ g, ¬ c < 0 ∧ ¬ (65535 : Int32) < c := fun c hc => by
  obtain ⟨i, hi, rfl⟩ := List.getElem_of_mem hc
  have q := h i hi
  rw [List.getD_eq_getElem?_getD, List.getElem?_eq_getElem hi] at q
  exact okc_ch q
theorem set_ch {g : List Int32} {p : Nat} {c : Int32} (h : ∀ c ∈ g, ¬ c < 0 ∧ ¬ (65535 : Int32) < c) (hc : ¬ c < 0 ∧ ¬ (65535 : Int32) < c) : ∀ d ∈ g.set p c, ¬ d < 0 ∧ ¬ (65535 : Int32) < d := fun d hd => by
  rcases List.mem_or_eq_of_mem_set hd with q | q
  · exact h d q
  · rw [q]; exact hc
theorem app_ch {g : List Int32} {c : Int32} (h : ∀ c ∈ g, ¬ c < 0 ∧ ¬ (65535 : Int32) < c) (hc : ¬ c < 0 ∧ ¬ (65535 : Int32) < c) : ∀ d ∈ g ++ [c], ¬ d < 0 ∧ ¬ (65535 : Int32) < d := fun d hd => by
  rcases List.mem_append.mp hd with q | q
  · exact h d q
  · rw [List.mem_singleton.mp q]; exact hc
theorem c16_ok (x : Int32) : ¬ (x &&& (65535 : Int32)).toUInt32.toUInt16.toUInt32.toInt32 < 0 ∧ ¬ (65535 : Int32) < (x &&& (65535 : Int32)).toUInt32.toUInt16.toUInt32.toInt32 := by
  have e := c_i2c (x &&& (65535 : Int32))
  simp only [Int32.lt_iff_toInt_lt, Int32.reduceToInt]; omega
theorem d_dash_0 : decode method_3_code 0 = .ok (.iload_n 0, 1) := by decide +kernel
theorem d_dash_1 : decode method_3_code 1 = .ok (.bipush 8, 2) := by decide +kernel
theorem d_dash_3 : decode method_3_code 3 = .ok (.if_icmp .eq 21, 3) := by decide +kernel
theorem d_dash_6 : decode method_3_code 6 = .ok (.iload_n 0, 1) := by decide +kernel
theorem d_dash_7 : decode method_3_code 7 = .ok (.bipush 13, 2) := by decide +kernel
theorem d_dash_9 : decode method_3_code 9 = .ok (.if_icmp .eq 15, 3) := by decide +kernel
theorem d_dash_12 : decode method_3_code 12 = .ok (.iload_n 0, 1) := by decide +kernel
theorem d_dash_13 : decode method_3_code 13 = .ok (.bipush 18, 2) := by decide +kernel
theorem d_dash_15 : decode method_3_code 15 = .ok (.if_icmp .eq 9, 3) := by decide +kernel
theorem d_dash_18 : decode method_3_code 18 = .ok (.iload_n 0, 1) := by decide +kernel
theorem d_dash_19 : decode method_3_code 19 = .ok (.bipush 23, 2) := by decide +kernel
theorem d_dash_21 : decode method_3_code 21 = .ok (.if_icmp .ne 7, 3) := by decide +kernel
theorem d_dash_24 : decode method_3_code 24 = .ok (.iconst 1, 1) := by decide +kernel
theorem d_dash_25 : decode method_3_code 25 = .ok (.goto 4, 3) := by decide +kernel
theorem d_dash_28 : decode method_3_code 28 = .ok (.iconst 0, 1) := by decide +kernel
theorem d_dash_29 : decode method_3_code 29 = .ok (.ireturn, 1) := by decide +kernel
abbrev rm_dash : Room := ({ frames := 0, cells := 0, slots := 0, locals := 0 } : Room)
def Q_dash (Z : State) (i : Nat) (h0 : Heap) (v : Option Value) (h : Heap) : Prop := ∃ z, v = some (.int z) ∧ h = h0 ∧ (Dsh i → z = 1) ∧ (¬ Dsh i → z = 0)
set_option maxRecDepth 65536 in
set_option maxHeartbeats 40000000 in
theorem ct_dash (l : Launch) (Z : State) (a0 : Array Value) (hw : ∀ d ∈ tables_1, d.before a0 Z = true) (G1 : Int32) (G3 : Value) (OS : Sts Z G1 G3) (i : Nat) {h0 : Heap} (O : Ext Z.heap h0) (hi : i < 4000) : Ct l Z (⟨"com/example/detached_state/detachedstate/SessionIdsIsWellFormedPinLaw", "isDashPos", "(I)Z"⟩ : MethodName) method_3_code 1 (some .boolean) rm_dash #[(.int (Int32.ofNat i))] h0 (Q_dash Z i h0) := by
  refine Ct.of_body (Ls := #[.val (.int (Int32.ofNat i))]) (by decide +kernel) O (fun m => by first | rfl | (simp [entryFrame, mkF, argsToLocals, Value.category]; done) | (rcases ref_cases (Sts.ref OS) with rfl | ⟨r, rfl⟩ <;> rfl)) ?_
  intro p e s m below meth c T0 X0 e0
  subst e0
  refine E_iloadN X0 d_dash_0 rfl (pc' := 1) rfl ?_
  refine E_bipush X0 (v := (8 : Int32)) d_dash_1 rfl (pc' := 3) rfl ?_
  by_cases h3 : (Int32.ofNat i) = (8 : Int32)
  · skip
    refine E_icT X0 d_dash_3 (XT.ii_eq_t h3) (pc' := 24) (by decide) rfl ?_
    have qh3 : i = 8 := o_eqi (n := 8) (by omega) (by decide) h3
    refine E_iconst X0 (v := (1 : Int32)) d_dash_24 rfl (pc' := 25) rfl ?_
    refine E_goto X0 d_dash_25 (pc' := 29) (by decide) rfl ?_
    exact E_ireturnN X0 (t := .boolean) d_dash_29 rfl (by simp) (by decide) (by decide) (⟨_, rfl, rfl, fun _ => rfl, fun q => absurd (by simp_all [Dsh]) q⟩)
  · skip
    refine E_icF X0 d_dash_3 (XT.ii_eq_f h3) (pc' := 6) rfl ?_
    have qh3 : ¬ i = 8 := fun q => h3 (by rw [q]; rfl)
    refine E_iloadN X0 d_dash_6 rfl (pc' := 7) rfl ?_
    refine E_bipush X0 (v := (13 : Int32)) d_dash_7 rfl (pc' := 9) rfl ?_
    by_cases h9 : (Int32.ofNat i) = (13 : Int32)
    · skip
      refine E_icT X0 d_dash_9 (XT.ii_eq_t h9) (pc' := 24) (by decide) rfl ?_
      have qh9 : i = 13 := o_eqi (n := 13) (by omega) (by decide) h9
      refine E_iconst X0 (v := (1 : Int32)) d_dash_24 rfl (pc' := 25) rfl ?_
      refine E_goto X0 d_dash_25 (pc' := 29) (by decide) rfl ?_
      exact E_ireturnN X0 (t := .boolean) d_dash_29 rfl (by simp) (by decide) (by decide) (⟨_, rfl, rfl, fun _ => rfl, fun q => absurd (by simp_all [Dsh]) q⟩)
    · skip
      refine E_icF X0 d_dash_9 (XT.ii_eq_f h9) (pc' := 12) rfl ?_
      have qh9 : ¬ i = 13 := fun q => h9 (by rw [q]; rfl)
      refine E_iloadN X0 d_dash_12 rfl (pc' := 13) rfl ?_
      refine E_bipush X0 (v := (18 : Int32)) d_dash_13 rfl (pc' := 15) rfl ?_
      by_cases h15 : (Int32.ofNat i) = (18 : Int32)
      · skip
        refine E_icT X0 d_dash_15 (XT.ii_eq_t h15) (pc' := 24) (by decide) rfl ?_
        have qh15 : i = 18 := o_eqi (n := 18) (by omega) (by decide) h15
        refine E_iconst X0 (v := (1 : Int32)) d_dash_24 rfl (pc' := 25) rfl ?_
        refine E_goto X0 d_dash_25 (pc' := 29) (by decide) rfl ?_
        exact E_ireturnN X0 (t := .boolean) d_dash_29 rfl (by simp) (by decide) (by decide) (⟨_, rfl, rfl, fun _ => rfl, fun q => absurd (by simp_all [Dsh]) q⟩)
      · skip
        refine E_icF X0 d_dash_15 (XT.ii_eq_f h15) (pc' := 18) rfl ?_
        have qh15 : ¬ i = 18 := fun q => h15 (by rw [q]; rfl)
        refine E_iloadN X0 d_dash_18 rfl (pc' := 19) rfl ?_
        refine E_bipush X0 (v := (23 : Int32)) d_dash_19 rfl (pc' := 21) rfl ?_
        by_cases h21 : (Int32.ofNat i) = (23 : Int32)
        · skip
          refine E_icF X0 d_dash_21 (XT.ii_ne_f h21) (pc' := 24) rfl ?_
          have qh21 : i = 23 := o_eqi (n := 23) (by omega) (by decide) h21
          refine E_iconst X0 (v := (1 : Int32)) d_dash_24 rfl (pc' := 25) rfl ?_
          refine E_goto X0 d_dash_25 (pc' := 29) (by decide) rfl ?_
          exact E_ireturnN X0 (t := .boolean) d_dash_29 rfl (by simp) (by decide) (by decide) (⟨_, rfl, rfl, fun _ => rfl, fun q => absurd (by simp_all [Dsh]) q⟩)
        · skip
          refine E_icT X0 d_dash_21 (XT.ii_ne_t h21) (pc' := 28) (by decide) rfl ?_
          have qh21 : ¬ i = 23 := fun q => h21 (by rw [q]; rfl)
          refine E_iconst X0 (v := (0 : Int32)) d_dash_28 rfl (pc' := 29) rfl ?_
          exact E_ireturnN X0 (t := .boolean) d_dash_29 rfl (by simp) (by decide) (by decide) (⟨_, rfl, rfl, fun q => absurd q (by simp_all [Dsh]), fun _ => rfl⟩)
theorem d_hexc_0 : decode method_6_code 0 = .ok (.iload_n 0, 1) := by decide +kernel
theorem d_hexc_1 : decode method_6_code 1 = .ok (.bipush 10, 2) := by decide +kernel
theorem d_hexc_3 : decode method_6_code 3 = .ok (.if_icmp .ge 9, 3) := by decide +kernel
theorem d_hexc_6 : decode method_6_code 6 = .ok (.bipush 48, 2) := by decide +kernel
theorem d_hexc_8 : decode method_6_code 8 = .ok (.iload_n 0, 1) := by decide +kernel
theorem d_hexc_9 : decode method_6_code 9 = .ok (.iadd, 1) := by decide +kernel
theorem d_hexc_10 : decode method_6_code 10 = .ok (.i2c, 1) := by decide +kernel
theorem d_hexc_11 : decode method_6_code 11 = .ok (.ireturn, 1) := by decide +kernel
theorem d_hexc_12 : decode method_6_code 12 = .ok (.iload_n 0, 1) := by decide +kernel
theorem d_hexc_13 : decode method_6_code 13 = .ok (.bipush 16, 2) := by decide +kernel
theorem d_hexc_15 : decode method_6_code 15 = .ok (.if_icmp .ge 12, 3) := by decide +kernel
theorem d_hexc_18 : decode method_6_code 18 = .ok (.bipush 97, 2) := by decide +kernel
theorem d_hexc_20 : decode method_6_code 20 = .ok (.iload_n 0, 1) := by decide +kernel
theorem d_hexc_21 : decode method_6_code 21 = .ok (.bipush 10, 2) := by decide +kernel
theorem d_hexc_23 : decode method_6_code 23 = .ok (.isub, 1) := by decide +kernel
theorem d_hexc_24 : decode method_6_code 24 = .ok (.iadd, 1) := by decide +kernel
theorem d_hexc_25 : decode method_6_code 25 = .ok (.i2c, 1) := by decide +kernel
theorem d_hexc_26 : decode method_6_code 26 = .ok (.ireturn, 1) := by decide +kernel
theorem d_hexc_27 : decode method_6_code 27 = .ok (.bipush 65, 2) := by decide +kernel
theorem d_hexc_29 : decode method_6_code 29 = .ok (.iload_n 0, 1) := by decide +kernel
theorem d_hexc_30 : decode method_6_code 30 = .ok (.bipush 16, 2) := by decide +kernel
theorem d_hexc_32 : decode method_6_code 32 = .ok (.isub, 1) := by decide +kernel
theorem d_hexc_33 : decode method_6_code 33 = .ok (.iadd, 1) := by decide +kernel
theorem d_hexc_34 : decode method_6_code 34 = .ok (.i2c, 1) := by decide +kernel
theorem d_hexc_35 : decode method_6_code 35 = .ok (.ireturn, 1) := by decide +kernel
abbrev rm_hexc : Room := ({ frames := 0, cells := 0, slots := 0, locals := 0 } : Room)
def Q_hexc (Z : State) (k : Int32) (h0 : Heap) (v : Option Value) (h : Heap) : Prop := ∃ z, v = some (.int z) ∧ h = h0 ∧ Hex z
set_option maxRecDepth 65536 in
set_option maxHeartbeats 40000000 in
theorem ct_hexc (l : Launch) (Z : State) (a0 : Array Value) (hw : ∀ d ∈ tables_1, d.before a0 Z = true) (G1 : Int32) (G3 : Value) (OS : Sts Z G1 G3) (k : Int32) {h0 : Heap} (O : Ext Z.heap h0) (k0 : 0 ≤ k.toInt) (k1 : k.toInt < 22) : Ct l Z (⟨"com/example/detached_state/detachedstate/SessionIdsIsWellFormedPinLaw", "hexChar", "(I)C"⟩ : MethodName) method_6_code 1 (some .char) rm_hexc #[(.int k)] h0 (Q_hexc Z k h0) := by
  refine Ct.of_body (Ls := #[.val (.int k)]) (by decide +kernel) O (fun m => by first | rfl | (simp [entryFrame, mkF, argsToLocals, Value.category]; done) | (rcases ref_cases (Sts.ref OS) with rfl | ⟨r, rfl⟩ <;> rfl)) ?_
  intro p e s m below meth c T0 X0 e0
  subst e0
  refine E_iloadN X0 d_hexc_0 rfl (pc' := 1) rfl ?_
  refine E_bipush X0 (v := (10 : Int32)) d_hexc_1 rfl (pc' := 3) rfl ?_
  by_cases hc3 : k < (10 : Int32)
  · skip
    refine E_icF X0 d_hexc_3 (XT.ii_ge_f hc3) (pc' := 6) rfl ?_
    refine E_bipush X0 (v := (48 : Int32)) d_hexc_6 rfl (pc' := 8) rfl ?_
    refine E_iloadN X0 d_hexc_8 rfl (pc' := 9) rfl ?_
    refine E_iadd X0 d_hexc_9 rfl (pc' := 10) rfl ?_
    refine E_i2c X0 d_hexc_10 rfl (pc' := 11) rfl ?_
    exact E_ireturnN X0 (t := .char) d_hexc_11 rfl (by simp) (by decide) (by decide) (⟨_, rfl, rfl, hex_d k0 hc3⟩)
  · skip
    refine E_icT X0 d_hexc_3 (XT.ii_ge_t hc3) (pc' := 12) (by decide) rfl ?_
    refine E_iloadN X0 d_hexc_12 rfl (pc' := 13) rfl ?_
    refine E_bipush X0 (v := (16 : Int32)) d_hexc_13 rfl (pc' := 15) rfl ?_
    by_cases hc15 : k < (16 : Int32)
    · skip
      refine E_icF X0 d_hexc_15 (XT.ii_ge_f hc15) (pc' := 18) rfl ?_
      refine E_bipush X0 (v := (97 : Int32)) d_hexc_18 rfl (pc' := 20) rfl ?_
      refine E_iloadN X0 d_hexc_20 rfl (pc' := 21) rfl ?_
      refine E_bipush X0 (v := (10 : Int32)) d_hexc_21 rfl (pc' := 23) rfl ?_
      refine E_isub X0 d_hexc_23 rfl (pc' := 24) rfl ?_
      refine E_iadd X0 d_hexc_24 rfl (pc' := 25) rfl ?_
      refine E_i2c X0 d_hexc_25 rfl (pc' := 26) rfl ?_
      exact E_ireturnN X0 (t := .char) d_hexc_26 rfl (by simp) (by decide) (by decide) (⟨_, rfl, rfl, hex_l hc3 hc15⟩)
    · skip
      refine E_icT X0 d_hexc_15 (XT.ii_ge_t hc15) (pc' := 27) (by decide) rfl ?_
      refine E_bipush X0 (v := (65 : Int32)) d_hexc_27 rfl (pc' := 29) rfl ?_
      refine E_iloadN X0 d_hexc_29 rfl (pc' := 30) rfl ?_
      refine E_bipush X0 (v := (16 : Int32)) d_hexc_30 rfl (pc' := 32) rfl ?_
      refine E_isub X0 d_hexc_32 rfl (pc' := 33) rfl ?_
      refine E_iadd X0 d_hexc_33 rfl (pc' := 34) rfl ?_
      refine E_i2c X0 d_hexc_34 rfl (pc' := 35) rfl ?_
      exact E_ireturnN X0 (t := .char) d_hexc_35 rfl (by simp) (by decide) (by decide) (⟨_, rfl, rfl, hex_u hc15 k1⟩)
theorem d_hexd_0 : decode prog_17_method_4_code 0 = .ok (.iload_n 0, 1) := by decide +kernel
theorem d_hexd_1 : decode prog_17_method_4_code 1 = .ok (.bipush 48, 2) := by decide +kernel
theorem d_hexd_3 : decode prog_17_method_4_code 3 = .ok (.if_icmp .lt 9, 3) := by decide +kernel
theorem d_hexd_6 : decode prog_17_method_4_code 6 = .ok (.iload_n 0, 1) := by decide +kernel
theorem d_hexd_7 : decode prog_17_method_4_code 7 = .ok (.bipush 57, 2) := by decide +kernel
theorem d_hexd_9 : decode prog_17_method_4_code 9 = .ok (.if_icmp .le 27, 3) := by decide +kernel
theorem d_hexd_12 : decode prog_17_method_4_code 12 = .ok (.iload_n 0, 1) := by decide +kernel
theorem d_hexd_13 : decode prog_17_method_4_code 13 = .ok (.bipush 97, 2) := by decide +kernel
theorem d_hexd_15 : decode prog_17_method_4_code 15 = .ok (.if_icmp .lt 9, 3) := by decide +kernel
theorem d_hexd_18 : decode prog_17_method_4_code 18 = .ok (.iload_n 0, 1) := by decide +kernel
theorem d_hexd_19 : decode prog_17_method_4_code 19 = .ok (.bipush 102, 2) := by decide +kernel
theorem d_hexd_21 : decode prog_17_method_4_code 21 = .ok (.if_icmp .le 15, 3) := by decide +kernel
theorem d_hexd_24 : decode prog_17_method_4_code 24 = .ok (.iload_n 0, 1) := by decide +kernel
theorem d_hexd_25 : decode prog_17_method_4_code 25 = .ok (.bipush 65, 2) := by decide +kernel
theorem d_hexd_27 : decode prog_17_method_4_code 27 = .ok (.if_icmp .lt 13, 3) := by decide +kernel
theorem d_hexd_30 : decode prog_17_method_4_code 30 = .ok (.iload_n 0, 1) := by decide +kernel
theorem d_hexd_31 : decode prog_17_method_4_code 31 = .ok (.bipush 70, 2) := by decide +kernel
theorem d_hexd_33 : decode prog_17_method_4_code 33 = .ok (.if_icmp .gt 7, 3) := by decide +kernel
theorem d_hexd_36 : decode prog_17_method_4_code 36 = .ok (.iconst 1, 1) := by decide +kernel
theorem d_hexd_37 : decode prog_17_method_4_code 37 = .ok (.goto 4, 3) := by decide +kernel
theorem d_hexd_40 : decode prog_17_method_4_code 40 = .ok (.iconst 0, 1) := by decide +kernel
theorem d_hexd_41 : decode prog_17_method_4_code 41 = .ok (.ireturn, 1) := by decide +kernel
abbrev rm_hexd : Room := ({ frames := 0, cells := 0, slots := 0, locals := 0 } : Room)
def Q_hexd (Z : State) (ch : Int32) (h0 : Heap) (v : Option Value) (h : Heap) : Prop := ∃ z, v = some (.int z) ∧ h = h0 ∧ (Hex ch → z = 1) ∧ (¬ Hex ch → z = 0)
set_option maxRecDepth 65536 in
set_option maxHeartbeats 40000000 in
theorem ct_hexd (l : Launch) (Z : State) (a0 : Array Value) (hw : ∀ d ∈ tables_1, d.before a0 Z = true) (G1 : Int32) (G3 : Value) (OS : Sts Z G1 G3) (ch : Int32) {h0 : Heap} (O : Ext Z.heap h0)  : Ct l Z (⟨"com/example/detached_state/detachedstate/SessionIds", "isHexDigit", "(C)Z"⟩ : MethodName) prog_17_method_4_code 1 (some .boolean) rm_hexd #[(.int ch)] h0 (Q_hexd Z ch h0) := by
  refine Ct.of_body (Ls := #[.val (.int ch)]) (by decide +kernel) O (fun m => by first | rfl | (simp [entryFrame, mkF, argsToLocals, Value.category]; done) | (rcases ref_cases (Sts.ref OS) with rfl | ⟨r, rfl⟩ <;> rfl)) ?_
  intro p e s m below meth c T0 X0 e0
  subst e0
  refine E_iloadN X0 d_hexd_0 rfl (pc' := 1) rfl ?_
  refine E_bipush X0 (v := (48 : Int32)) d_hexd_1 rfl (pc' := 3) rfl ?_
  by_cases hc3 : ch < (48 : Int32)
  · skip
    refine E_icT X0 d_hexd_3 (XT.ii_lt_t hc3) (pc' := 12) (by decide) rfl ?_
    refine E_iloadN X0 d_hexd_12 rfl (pc' := 13) rfl ?_
    refine E_bipush X0 (v := (97 : Int32)) d_hexd_13 rfl (pc' := 15) rfl ?_
    by_cases hc15 : ch < (97 : Int32)
    · skip
      refine E_icT X0 d_hexd_15 (XT.ii_lt_t hc15) (pc' := 24) (by decide) rfl ?_
      refine E_iloadN X0 d_hexd_24 rfl (pc' := 25) rfl ?_
      refine E_bipush X0 (v := (65 : Int32)) d_hexd_25 rfl (pc' := 27) rfl ?_
      by_cases hc27 : ch < (65 : Int32)
      · skip
        refine E_icT X0 d_hexd_27 (XT.ii_lt_t hc27) (pc' := 40) (by decide) rfl ?_
        refine E_iconst X0 (v := (0 : Int32)) d_hexd_40 rfl (pc' := 41) rfl ?_
        exact E_ireturnN X0 (t := .boolean) d_hexd_41 rfl (by simp) (by decide) (by decide) (⟨_, rfl, rfl, fun q => absurd q (by simp_all [Hex]), fun _ => rfl⟩)
      · skip
        refine E_icF X0 d_hexd_27 (XT.ii_lt_f hc27) (pc' := 30) rfl ?_
        refine E_iloadN X0 d_hexd_30 rfl (pc' := 31) rfl ?_
        refine E_bipush X0 (v := (70 : Int32)) d_hexd_31 rfl (pc' := 33) rfl ?_
        by_cases hc33 : (70 : Int32) < ch
        · skip
          refine E_icT X0 d_hexd_33 (XT.ii_gt_t hc33) (pc' := 40) (by decide) rfl ?_
          refine E_iconst X0 (v := (0 : Int32)) d_hexd_40 rfl (pc' := 41) rfl ?_
          exact E_ireturnN X0 (t := .boolean) d_hexd_41 rfl (by simp) (by decide) (by decide) (⟨_, rfl, rfl, fun q => absurd q (by simp_all [Hex]), fun _ => rfl⟩)
        · skip
          refine E_icF X0 d_hexd_33 (XT.ii_gt_f hc33) (pc' := 36) rfl ?_
          refine E_iconst X0 (v := (1 : Int32)) d_hexd_36 rfl (pc' := 37) rfl ?_
          refine E_goto X0 d_hexd_37 (pc' := 41) (by decide) rfl ?_
          exact E_ireturnN X0 (t := .boolean) d_hexd_41 rfl (by simp) (by decide) (by decide) (⟨_, rfl, rfl, fun _ => rfl, fun q => absurd (by simp_all [Hex]) q⟩)
    · skip
      refine E_icF X0 d_hexd_15 (XT.ii_lt_f hc15) (pc' := 18) rfl ?_
      refine E_iloadN X0 d_hexd_18 rfl (pc' := 19) rfl ?_
      refine E_bipush X0 (v := (102 : Int32)) d_hexd_19 rfl (pc' := 21) rfl ?_
      by_cases hc21 : (102 : Int32) < ch
      · skip
        refine E_icF X0 d_hexd_21 (XT.ii_le_f hc21) (pc' := 24) rfl ?_
        refine E_iloadN X0 d_hexd_24 rfl (pc' := 25) rfl ?_
        refine E_bipush X0 (v := (65 : Int32)) d_hexd_25 rfl (pc' := 27) rfl ?_
        by_cases hc27 : ch < (65 : Int32)
        · skip
          refine E_icT X0 d_hexd_27 (XT.ii_lt_t hc27) (pc' := 40) (by decide) rfl ?_
          refine E_iconst X0 (v := (0 : Int32)) d_hexd_40 rfl (pc' := 41) rfl ?_
          exact E_ireturnN X0 (t := .boolean) d_hexd_41 rfl (by simp) (by decide) (by decide) (⟨_, rfl, rfl, fun q => absurd q (by simp_all [Hex]), fun _ => rfl⟩)
        · skip
          refine E_icF X0 d_hexd_27 (XT.ii_lt_f hc27) (pc' := 30) rfl ?_
          refine E_iloadN X0 d_hexd_30 rfl (pc' := 31) rfl ?_
          refine E_bipush X0 (v := (70 : Int32)) d_hexd_31 rfl (pc' := 33) rfl ?_
          by_cases hc33 : (70 : Int32) < ch
          · skip
            refine E_icT X0 d_hexd_33 (XT.ii_gt_t hc33) (pc' := 40) (by decide) rfl ?_
            refine E_iconst X0 (v := (0 : Int32)) d_hexd_40 rfl (pc' := 41) rfl ?_
            exact E_ireturnN X0 (t := .boolean) d_hexd_41 rfl (by simp) (by decide) (by decide) (⟨_, rfl, rfl, fun q => absurd q (by simp_all [Hex]), fun _ => rfl⟩)
          · skip
            refine E_icF X0 d_hexd_33 (XT.ii_gt_f hc33) (pc' := 36) rfl ?_
            refine E_iconst X0 (v := (1 : Int32)) d_hexd_36 rfl (pc' := 37) rfl ?_
            refine E_goto X0 d_hexd_37 (pc' := 41) (by decide) rfl ?_
            exact E_ireturnN X0 (t := .boolean) d_hexd_41 rfl (by simp) (by decide) (by decide) (⟨_, rfl, rfl, fun _ => rfl, fun q => absurd (by simp_all [Hex]) q⟩)
      · skip
        refine E_icT X0 d_hexd_21 (XT.ii_le_t hc21) (pc' := 36) (by decide) rfl ?_
        refine E_iconst X0 (v := (1 : Int32)) d_hexd_36 rfl (pc' := 37) rfl ?_
        refine E_goto X0 d_hexd_37 (pc' := 41) (by decide) rfl ?_
        exact E_ireturnN X0 (t := .boolean) d_hexd_41 rfl (by simp) (by decide) (by decide) (⟨_, rfl, rfl, fun _ => rfl, fun q => absurd (by simp_all [Hex]) q⟩)
  · skip
    refine E_icF X0 d_hexd_3 (XT.ii_lt_f hc3) (pc' := 6) rfl ?_
    refine E_iloadN X0 d_hexd_6 rfl (pc' := 7) rfl ?_
    refine E_bipush X0 (v := (57 : Int32)) d_hexd_7 rfl (pc' := 9) rfl ?_
    by_cases hc9 : (57 : Int32) < ch
    · skip
      refine E_icF X0 d_hexd_9 (XT.ii_le_f hc9) (pc' := 12) rfl ?_
      refine E_iloadN X0 d_hexd_12 rfl (pc' := 13) rfl ?_
      refine E_bipush X0 (v := (97 : Int32)) d_hexd_13 rfl (pc' := 15) rfl ?_
      by_cases hc15 : ch < (97 : Int32)
      · skip
        refine E_icT X0 d_hexd_15 (XT.ii_lt_t hc15) (pc' := 24) (by decide) rfl ?_
        refine E_iloadN X0 d_hexd_24 rfl (pc' := 25) rfl ?_
        refine E_bipush X0 (v := (65 : Int32)) d_hexd_25 rfl (pc' := 27) rfl ?_
        by_cases hc27 : ch < (65 : Int32)
        · skip
          refine E_icT X0 d_hexd_27 (XT.ii_lt_t hc27) (pc' := 40) (by decide) rfl ?_
          refine E_iconst X0 (v := (0 : Int32)) d_hexd_40 rfl (pc' := 41) rfl ?_
          exact E_ireturnN X0 (t := .boolean) d_hexd_41 rfl (by simp) (by decide) (by decide) (⟨_, rfl, rfl, fun q => absurd q (by simp_all [Hex]), fun _ => rfl⟩)
        · skip
          refine E_icF X0 d_hexd_27 (XT.ii_lt_f hc27) (pc' := 30) rfl ?_
          refine E_iloadN X0 d_hexd_30 rfl (pc' := 31) rfl ?_
          refine E_bipush X0 (v := (70 : Int32)) d_hexd_31 rfl (pc' := 33) rfl ?_
          by_cases hc33 : (70 : Int32) < ch
          · skip
            refine E_icT X0 d_hexd_33 (XT.ii_gt_t hc33) (pc' := 40) (by decide) rfl ?_
            refine E_iconst X0 (v := (0 : Int32)) d_hexd_40 rfl (pc' := 41) rfl ?_
            exact E_ireturnN X0 (t := .boolean) d_hexd_41 rfl (by simp) (by decide) (by decide) (⟨_, rfl, rfl, fun q => absurd q (by simp_all [Hex]), fun _ => rfl⟩)
          · skip
            refine E_icF X0 d_hexd_33 (XT.ii_gt_f hc33) (pc' := 36) rfl ?_
            refine E_iconst X0 (v := (1 : Int32)) d_hexd_36 rfl (pc' := 37) rfl ?_
            refine E_goto X0 d_hexd_37 (pc' := 41) (by decide) rfl ?_
            exact E_ireturnN X0 (t := .boolean) d_hexd_41 rfl (by simp) (by decide) (by decide) (⟨_, rfl, rfl, fun _ => rfl, fun q => absurd (by simp_all [Hex]) q⟩)
      · skip
        refine E_icF X0 d_hexd_15 (XT.ii_lt_f hc15) (pc' := 18) rfl ?_
        refine E_iloadN X0 d_hexd_18 rfl (pc' := 19) rfl ?_
        refine E_bipush X0 (v := (102 : Int32)) d_hexd_19 rfl (pc' := 21) rfl ?_
        by_cases hc21 : (102 : Int32) < ch
        · skip
          refine E_icF X0 d_hexd_21 (XT.ii_le_f hc21) (pc' := 24) rfl ?_
          refine E_iloadN X0 d_hexd_24 rfl (pc' := 25) rfl ?_
          refine E_bipush X0 (v := (65 : Int32)) d_hexd_25 rfl (pc' := 27) rfl ?_
          by_cases hc27 : ch < (65 : Int32)
          · skip
            refine E_icT X0 d_hexd_27 (XT.ii_lt_t hc27) (pc' := 40) (by decide) rfl ?_
            refine E_iconst X0 (v := (0 : Int32)) d_hexd_40 rfl (pc' := 41) rfl ?_
            exact E_ireturnN X0 (t := .boolean) d_hexd_41 rfl (by simp) (by decide) (by decide) (⟨_, rfl, rfl, fun q => absurd q (by simp_all [Hex]), fun _ => rfl⟩)
          · skip
            refine E_icF X0 d_hexd_27 (XT.ii_lt_f hc27) (pc' := 30) rfl ?_
            refine E_iloadN X0 d_hexd_30 rfl (pc' := 31) rfl ?_
            refine E_bipush X0 (v := (70 : Int32)) d_hexd_31 rfl (pc' := 33) rfl ?_
            by_cases hc33 : (70 : Int32) < ch
            · skip
              refine E_icT X0 d_hexd_33 (XT.ii_gt_t hc33) (pc' := 40) (by decide) rfl ?_
              refine E_iconst X0 (v := (0 : Int32)) d_hexd_40 rfl (pc' := 41) rfl ?_
              exact E_ireturnN X0 (t := .boolean) d_hexd_41 rfl (by simp) (by decide) (by decide) (⟨_, rfl, rfl, fun q => absurd q (by simp_all [Hex]), fun _ => rfl⟩)
            · skip
              refine E_icF X0 d_hexd_33 (XT.ii_gt_f hc33) (pc' := 36) rfl ?_
              refine E_iconst X0 (v := (1 : Int32)) d_hexd_36 rfl (pc' := 37) rfl ?_
              refine E_goto X0 d_hexd_37 (pc' := 41) (by decide) rfl ?_
              exact E_ireturnN X0 (t := .boolean) d_hexd_41 rfl (by simp) (by decide) (by decide) (⟨_, rfl, rfl, fun _ => rfl, fun q => absurd (by simp_all [Hex]) q⟩)
        · skip
          refine E_icT X0 d_hexd_21 (XT.ii_le_t hc21) (pc' := 36) (by decide) rfl ?_
          refine E_iconst X0 (v := (1 : Int32)) d_hexd_36 rfl (pc' := 37) rfl ?_
          refine E_goto X0 d_hexd_37 (pc' := 41) (by decide) rfl ?_
          exact E_ireturnN X0 (t := .boolean) d_hexd_41 rfl (by simp) (by decide) (by decide) (⟨_, rfl, rfl, fun _ => rfl, fun q => absurd (by simp_all [Hex]) q⟩)
    · skip
      refine E_icT X0 d_hexd_9 (XT.ii_le_t hc9) (pc' := 36) (by decide) rfl ?_
      refine E_iconst X0 (v := (1 : Int32)) d_hexd_36 rfl (pc' := 37) rfl ?_
      refine E_goto X0 d_hexd_37 (pc' := 41) (by decide) rfl ?_
      exact E_ireturnN X0 (t := .boolean) d_hexd_41 rfl (by simp) (by decide) (by decide) (⟨_, rfl, rfl, fun _ => rfl, fun q => absurd (by simp_all [Hex]) q⟩)
theorem d_hexl_0 : decode method_4_code 0 = .ok (.iload_n 0, 1) := by decide +kernel
theorem d_hexl_1 : decode method_4_code 1 = .ok (.bipush 32, 2) := by decide +kernel
theorem d_hexl_3 : decode method_4_code 3 = .ok (.ior, 1) := by decide +kernel
theorem d_hexl_4 : decode method_4_code 4 = .ok (.istore_n 1, 1) := by decide +kernel
theorem d_hexl_5 : decode method_4_code 5 = .ok (.iload_n 0, 1) := by decide +kernel
theorem d_hexl_6 : decode method_4_code 6 = .ok (.bipush 48, 2) := by decide +kernel
theorem d_hexl_8 : decode method_4_code 8 = .ok (.if_icmp .lt 9, 3) := by decide +kernel
theorem d_hexl_11 : decode method_4_code 11 = .ok (.iload_n 0, 1) := by decide +kernel
theorem d_hexl_12 : decode method_4_code 12 = .ok (.bipush 57, 2) := by decide +kernel
theorem d_hexl_14 : decode method_4_code 14 = .ok (.if_icmp .le 15, 3) := by decide +kernel
theorem d_hexl_17 : decode method_4_code 17 = .ok (.iload_n 1, 1) := by decide +kernel
theorem d_hexl_18 : decode method_4_code 18 = .ok (.bipush 97, 2) := by decide +kernel
theorem d_hexl_20 : decode method_4_code 20 = .ok (.if_icmp .lt 13, 3) := by decide +kernel
theorem d_hexl_23 : decode method_4_code 23 = .ok (.iload_n 1, 1) := by decide +kernel
theorem d_hexl_24 : decode method_4_code 24 = .ok (.bipush 102, 2) := by decide +kernel
theorem d_hexl_26 : decode method_4_code 26 = .ok (.if_icmp .gt 7, 3) := by decide +kernel
theorem d_hexl_29 : decode method_4_code 29 = .ok (.iconst 1, 1) := by decide +kernel
theorem d_hexl_30 : decode method_4_code 30 = .ok (.goto 4, 3) := by decide +kernel
theorem d_hexl_33 : decode method_4_code 33 = .ok (.iconst 0, 1) := by decide +kernel
theorem d_hexl_34 : decode method_4_code 34 = .ok (.ireturn, 1) := by decide +kernel
abbrev rm_hexl : Room := ({ frames := 0, cells := 0, slots := 0, locals := 0 } : Room)
def Q_hexl (Z : State) (ch : Int32) (h0 : Heap) (v : Option Value) (h : Heap) : Prop := ∃ z, v = some (.int z) ∧ h = h0 ∧ (Hex ch → z = 1) ∧ (¬ Hex ch → z = 0)
set_option maxRecDepth 65536 in
set_option maxHeartbeats 40000000 in
theorem ct_hexl (l : Launch) (Z : State) (a0 : Array Value) (hw : ∀ d ∈ tables_1, d.before a0 Z = true) (G1 : Int32) (G3 : Value) (OS : Sts Z G1 G3) (ch : Int32) {h0 : Heap} (O : Ext Z.heap h0) (b1 : ¬ ch < 0) (b2 : ¬ (65535 : Int32) < ch) : Ct l Z (⟨"com/example/detached_state/detachedstate/SessionIdsIsWellFormedPinLaw", "isHex", "(C)Z"⟩ : MethodName) method_4_code 2 (some .boolean) rm_hexl #[(.int ch)] h0 (Q_hexl Z ch h0) := by
  refine Ct.of_body (Ls := #[.val (.int ch), .unset]) (by decide +kernel) O (fun m => by first | rfl | (simp [entryFrame, mkF, argsToLocals, Value.category]; done) | (rcases ref_cases (Sts.ref OS) with rfl | ⟨r, rfl⟩ <;> rfl)) ?_
  intro p e s m below meth c T0 X0 e0
  subst e0
  refine E_iloadN X0 d_hexl_0 rfl (pc' := 1) rfl ?_
  refine E_bipush X0 (v := (32 : Int32)) d_hexl_1 rfl (pc' := 3) rfl ?_
  refine E_ior X0 d_hexl_3 rfl (pc' := 4) rfl ?_
  refine E_istoreN X0 d_hexl_4 (l' := #[.val (.int ch), .val (.int (ch ||| (32 : Int32)))]) rfl (pc' := 5) rfl ?_
  refine E_iloadN X0 d_hexl_5 rfl (pc' := 6) rfl ?_
  refine E_bipush X0 (v := (48 : Int32)) d_hexl_6 rfl (pc' := 8) rfl ?_
  by_cases hc8 : ch < (48 : Int32)
  · skip
    refine E_icT X0 d_hexl_8 (XT.ii_lt_t hc8) (pc' := 17) (by decide) rfl ?_
    refine E_iloadN X0 d_hexl_17 rfl (pc' := 18) rfl ?_
    refine E_bipush X0 (v := (97 : Int32)) d_hexl_18 rfl (pc' := 20) rfl ?_
    by_cases hc20 : (ch ||| (32 : Int32)) < (97 : Int32)
    · skip
      refine E_icT X0 d_hexl_20 (XT.ii_lt_t hc20) (pc' := 33) (by decide) rfl ?_
      refine E_iconst X0 (v := (0 : Int32)) d_hexl_33 rfl (pc' := 34) rfl ?_
      exact E_ireturnN X0 (t := .boolean) d_hexl_34 rfl (by simp) (by decide) (by decide) (⟨_, rfl, rfl, fun q => absurd q (by rw [hex_or b1 b2]; simp_all), fun _ => rfl⟩)
    · skip
      refine E_icF X0 d_hexl_20 (XT.ii_lt_f hc20) (pc' := 23) rfl ?_
      refine E_iloadN X0 d_hexl_23 rfl (pc' := 24) rfl ?_
      refine E_bipush X0 (v := (102 : Int32)) d_hexl_24 rfl (pc' := 26) rfl ?_
      by_cases hc26 : (102 : Int32) < (ch ||| (32 : Int32))
      · skip
        refine E_icT X0 d_hexl_26 (XT.ii_gt_t hc26) (pc' := 33) (by decide) rfl ?_
        refine E_iconst X0 (v := (0 : Int32)) d_hexl_33 rfl (pc' := 34) rfl ?_
        exact E_ireturnN X0 (t := .boolean) d_hexl_34 rfl (by simp) (by decide) (by decide) (⟨_, rfl, rfl, fun q => absurd q (by rw [hex_or b1 b2]; simp_all), fun _ => rfl⟩)
      · skip
        refine E_icF X0 d_hexl_26 (XT.ii_gt_f hc26) (pc' := 29) rfl ?_
        refine E_iconst X0 (v := (1 : Int32)) d_hexl_29 rfl (pc' := 30) rfl ?_
        refine E_goto X0 d_hexl_30 (pc' := 34) (by decide) rfl ?_
        exact E_ireturnN X0 (t := .boolean) d_hexl_34 rfl (by simp) (by decide) (by decide) (⟨_, rfl, rfl, fun _ => rfl, fun q => absurd (by rw [hex_or b1 b2]; simp_all) q⟩)
  · skip
    refine E_icF X0 d_hexl_8 (XT.ii_lt_f hc8) (pc' := 11) rfl ?_
    refine E_iloadN X0 d_hexl_11 rfl (pc' := 12) rfl ?_
    refine E_bipush X0 (v := (57 : Int32)) d_hexl_12 rfl (pc' := 14) rfl ?_
    by_cases hc14 : (57 : Int32) < ch
    · skip
      refine E_icF X0 d_hexl_14 (XT.ii_le_f hc14) (pc' := 17) rfl ?_
      refine E_iloadN X0 d_hexl_17 rfl (pc' := 18) rfl ?_
      refine E_bipush X0 (v := (97 : Int32)) d_hexl_18 rfl (pc' := 20) rfl ?_
      by_cases hc20 : (ch ||| (32 : Int32)) < (97 : Int32)
      · skip
        refine E_icT X0 d_hexl_20 (XT.ii_lt_t hc20) (pc' := 33) (by decide) rfl ?_
        refine E_iconst X0 (v := (0 : Int32)) d_hexl_33 rfl (pc' := 34) rfl ?_
        exact E_ireturnN X0 (t := .boolean) d_hexl_34 rfl (by simp) (by decide) (by decide) (⟨_, rfl, rfl, fun q => absurd q (by rw [hex_or b1 b2]; simp_all), fun _ => rfl⟩)
      · skip
        refine E_icF X0 d_hexl_20 (XT.ii_lt_f hc20) (pc' := 23) rfl ?_
        refine E_iloadN X0 d_hexl_23 rfl (pc' := 24) rfl ?_
        refine E_bipush X0 (v := (102 : Int32)) d_hexl_24 rfl (pc' := 26) rfl ?_
        by_cases hc26 : (102 : Int32) < (ch ||| (32 : Int32))
        · skip
          refine E_icT X0 d_hexl_26 (XT.ii_gt_t hc26) (pc' := 33) (by decide) rfl ?_
          refine E_iconst X0 (v := (0 : Int32)) d_hexl_33 rfl (pc' := 34) rfl ?_
          exact E_ireturnN X0 (t := .boolean) d_hexl_34 rfl (by simp) (by decide) (by decide) (⟨_, rfl, rfl, fun q => absurd q (by rw [hex_or b1 b2]; simp_all), fun _ => rfl⟩)
        · skip
          refine E_icF X0 d_hexl_26 (XT.ii_gt_f hc26) (pc' := 29) rfl ?_
          refine E_iconst X0 (v := (1 : Int32)) d_hexl_29 rfl (pc' := 30) rfl ?_
          refine E_goto X0 d_hexl_30 (pc' := 34) (by decide) rfl ?_
          exact E_ireturnN X0 (t := .boolean) d_hexl_34 rfl (by simp) (by decide) (by decide) (⟨_, rfl, rfl, fun _ => rfl, fun q => absurd (by rw [hex_or b1 b2]; simp_all) q⟩)
    · skip
      refine E_icT X0 d_hexl_14 (XT.ii_le_t hc14) (pc' := 29) (by decide) rfl ?_
      refine E_iconst X0 (v := (1 : Int32)) d_hexl_29 rfl (pc' := 30) rfl ?_
      refine E_goto X0 d_hexl_30 (pc' := 34) (by decide) rfl ?_
      exact E_ireturnN X0 (t := .boolean) d_hexl_34 rfl (by simp) (by decide) (by decide) (⟨_, rfl, rfl, fun _ => rfl, fun q => absurd (by rw [hex_or b1 b2]; simp_all) q⟩)
theorem d_at_0 : decode method_7_code 0 = .ok (.iload_n 0, 1) := by decide +kernel
theorem d_at_1 : decode method_7_code 1 = .ok (.invokestatic 30, 3) := by decide +kernel
theorem d_at_4 : decode method_7_code 4 = .ok (.ifCond .eq 6, 3) := by decide +kernel
theorem d_at_7 : decode method_7_code 7 = .ok (.bipush 45, 2) := by decide +kernel
theorem d_at_9 : decode method_7_code 9 = .ok (.ireturn, 1) := by decide +kernel
theorem d_at_10 : decode method_7_code 10 = .ok (.iload_n 1, 1) := by decide +kernel
theorem d_at_11 : decode method_7_code 11 = .ok (.iload_n 0, 1) := by decide +kernel
theorem d_at_12 : decode method_7_code 12 = .ok (.iadd, 1) := by decide +kernel
theorem d_at_13 : decode method_7_code 13 = .ok (.ldc 8, 2) := by decide +kernel
theorem d_at_15 : decode method_7_code 15 = .ok (.iand, 1) := by decide +kernel
theorem d_at_16 : decode method_7_code 16 = .ok (.bipush 22, 2) := by decide +kernel
theorem d_at_18 : decode method_7_code 18 = .ok (.irem, 1) := by decide +kernel
theorem d_at_19 : decode method_7_code 19 = .ok (.invokestatic 38, 3) := by decide +kernel
theorem d_at_22 : decode method_7_code 22 = .ok (.ireturn, 1) := by decide +kernel
abbrev rm_at : Room := ({ frames := 1, cells := 0, slots := 0, locals := 12 } : Room)
def Q_at (Z : State) (i : Nat) (sd : Int32) (h0 : Heap) (v : Option Value) (h : Heap) : Prop := ∃ z, v = some (.int z) ∧ h = h0 ∧ OkC i z
set_option maxRecDepth 65536 in
set_option maxHeartbeats 40000000 in
theorem ct_at (l : Launch) (Z : State) (a0 : Array Value) (hw : ∀ d ∈ tables_1, d.before a0 Z = true) (G1 : Int32) (G3 : Value) (OS : Sts Z G1 G3) (i : Nat) (sd : Int32) {h0 : Heap} (O : Ext Z.heap h0) (hi : i < 4000) : Ct l Z (⟨"com/example/detached_state/detachedstate/SessionIdsIsWellFormedPinLaw", "at", "(II)C"⟩ : MethodName) method_7_code 2 (some .char) rm_at #[(.int (Int32.ofNat i)), (.int sd)] h0 (Q_at Z i sd h0) := by
  refine Ct.of_body (Ls := #[.val (.int (Int32.ofNat i)), .val (.int sd)]) (by decide +kernel) O (fun m => by first | rfl | (simp [entryFrame, mkF, argsToLocals, Value.category]; done) | (rcases ref_cases (Sts.ref OS) with rfl | ⟨r, rfl⟩ <;> rfl)) ?_
  intro p e s m below meth c T0 X0 e0
  subst e0
  obtain ⟨kk, hkk⟩ : ∃ z, z = ((sd + Int32.ofNat i) &&& (2147483647 : Int32)) % (22 : Int32) := ⟨_, rfl⟩
  have hkr := own_i (m := 22) (d := 22) (sd + Int32.ofNat i) rfl (by decide)
  rw [← hkk] at hkr
  refine E_iloadN X0 d_at_0 rfl (pc' := 1) rfl ?_
  refine E_static X0 (rm := rm_dash) d_at_1 (hw _ (List.mem_of_getElem? (i := 10) rfl)) (hw _ (List.mem_of_getElem? (i := 11) rfl)) (hw _ (List.mem_of_getElem? (i := 5) rfl)) (hw _ (List.mem_of_getElem? (i := 12) rfl)) (by decide) (argsL := [(.int (Int32.ofNat i))]) (st := []) rfl (ct_dash l Z a0 hw G1 G3 OS i X0.old hi) (lenOf (pd_14) rfl) rfl (by decide) (by decide) (by decide) (Nat.le_of_ble_eq_true rfl) (pc' := 4) rfl ?_
  intro T3 _ X4 hQ5
  obtain ⟨z1, rfl, e6, yz1, nz1⟩ := hQ5
  by_cases hd2 : Dsh i
  · skip
    obtain rfl := yz1 hd2
    show Ends p e below s Z _ _ _ T3 (mkF m 4 #[.val (.int (Int32.ofNat i)), .val (.int sd)] [(.int (1 : Int32))])
    refine E_ifF X4 d_at_4 (XT.i0_eq_f (by decide)) (pc' := 7) rfl ?_
    refine E_bipush X4 (v := (45 : Int32)) d_at_7 rfl (pc' := 9) rfl ?_
    exact E_ireturnN X4 (t := .char) d_at_9 rfl (by simp) (by decide) (by decide) (⟨_, rfl, e6, Or.inl ⟨hd2, rfl⟩⟩)
  · skip
    obtain rfl := nz1 hd2
    show Ends p e below s Z _ _ _ T3 (mkF m 4 #[.val (.int (Int32.ofNat i)), .val (.int sd)] [(.int (0 : Int32))])
    refine E_ifT X4 d_at_4 (XT.i0_eq_t (by decide)) (pc' := 10) (by decide) rfl ?_
    refine E_iloadN X4 d_at_10 rfl (pc' := 11) rfl ?_
    refine E_iloadN X4 d_at_11 rfl (pc' := 12) rfl ?_
    refine E_iadd X4 d_at_12 rfl (pc' := 13) rfl ?_
    refine E_ldcI X4 (v := (2147483647 : Int32)) d_at_13 (hw _ (List.mem_of_getElem? (i := 1) rfl)) (pc' := 15) rfl ?_
    refine E_iand X4 d_at_15 rfl (pc' := 16) rfl ?_
    refine E_bipush X4 (v := (22 : Int32)) d_at_16 rfl (pc' := 18) rfl ?_
    refine E_irem X4 (v := kk) d_at_18 (by decide) hkk.symm (pc' := 19) rfl ?_
    refine E_static X4 (rm := rm_hexc) d_at_19 (hw _ (List.mem_of_getElem? (i := 13) rfl)) (hw _ (List.mem_of_getElem? (i := 14) rfl)) (hw _ (List.mem_of_getElem? (i := 5) rfl)) (hw _ (List.mem_of_getElem? (i := 15) rfl)) (by decide) (argsL := [(.int kk)]) (st := []) rfl (ct_hexc l Z a0 hw G1 G3 OS kk X4.old hkr.1 hkr.2) (lenOf (pd_15) rfl) rfl (by decide) (by decide) (by decide) (Nat.le_of_ble_eq_true rfl) (pc' := 22) rfl ?_
    intro T7 _ X8 hQ9
    obtain ⟨zh, rfl, e10, ah⟩ := hQ9
    show Ends p e below s Z _ _ _ T7 (mkF m 22 #[.val (.int (Int32.ofNat i)), .val (.int sd)] [(.int zh)])
    exact E_ireturnN X8 (t := .char) d_at_22 rfl (by simp) (by decide) (by decide) (⟨_, rfl, (e10.trans e6), by rw [show nar .char zh = zh from okc_nar (Or.inr ⟨hd2, ah⟩)]; exact Or.inr ⟨hd2, ah⟩⟩)
theorem d_okat_0 : decode method_5_code 0 = .ok (.iload_n 0, 1) := by decide +kernel
theorem d_okat_1 : decode method_5_code 1 = .ok (.invokestatic 30, 3) := by decide +kernel
theorem d_okat_4 : decode method_5_code 4 = .ok (.ifCond .eq 15, 3) := by decide +kernel
theorem d_okat_7 : decode method_5_code 7 = .ok (.iload_n 1, 1) := by decide +kernel
theorem d_okat_8 : decode method_5_code 8 = .ok (.bipush 45, 2) := by decide +kernel
theorem d_okat_10 : decode method_5_code 10 = .ok (.if_icmp .ne 7, 3) := by decide +kernel
theorem d_okat_13 : decode method_5_code 13 = .ok (.iconst 1, 1) := by decide +kernel
theorem d_okat_14 : decode method_5_code 14 = .ok (.goto 4, 3) := by decide +kernel
theorem d_okat_17 : decode method_5_code 17 = .ok (.iconst 0, 1) := by decide +kernel
theorem d_okat_18 : decode method_5_code 18 = .ok (.ireturn, 1) := by decide +kernel
theorem d_okat_19 : decode method_5_code 19 = .ok (.iload_n 1, 1) := by decide +kernel
theorem d_okat_20 : decode method_5_code 20 = .ok (.invokestatic 34, 3) := by decide +kernel
theorem d_okat_23 : decode method_5_code 23 = .ok (.ireturn, 1) := by decide +kernel
abbrev rm_okat : Room := ({ frames := 1, cells := 0, slots := 0, locals := 13 } : Room)
def Q_okat (Z : State) (i : Nat) (ch : Int32) (h0 : Heap) (v : Option Value) (h : Heap) : Prop := ∃ z, v = some (.int z) ∧ h = h0 ∧ (OkC i ch → z = 1) ∧ (¬ OkC i ch → z = 0)
set_option maxRecDepth 65536 in
set_option maxHeartbeats 40000000 in
theorem ct_okat (l : Launch) (Z : State) (a0 : Array Value) (hw : ∀ d ∈ tables_1, d.before a0 Z = true) (G1 : Int32) (G3 : Value) (OS : Sts Z G1 G3) (i : Nat) (ch : Int32) {h0 : Heap} (O : Ext Z.heap h0) (hi : i < 4000) (hcb : ¬ ch < 0 ∧ ¬ (65535 : Int32) < ch) : Ct l Z (⟨"com/example/detached_state/detachedstate/SessionIdsIsWellFormedPinLaw", "okAt", "(IC)Z"⟩ : MethodName) method_5_code 2 (some .boolean) rm_okat #[(.int (Int32.ofNat i)), (.int ch)] h0 (Q_okat Z i ch h0) := by
  refine Ct.of_body (Ls := #[.val (.int (Int32.ofNat i)), .val (.int ch)]) (by decide +kernel) O (fun m => by first | rfl | (simp [entryFrame, mkF, argsToLocals, Value.category]; done) | (rcases ref_cases (Sts.ref OS) with rfl | ⟨r, rfl⟩ <;> rfl)) ?_
  intro p e s m below meth c T0 X0 e0
  subst e0
  refine E_iloadN X0 d_okat_0 rfl (pc' := 1) rfl ?_
  refine E_static X0 (rm := rm_dash) d_okat_1 (hw _ (List.mem_of_getElem? (i := 10) rfl)) (hw _ (List.mem_of_getElem? (i := 11) rfl)) (hw _ (List.mem_of_getElem? (i := 5) rfl)) (hw _ (List.mem_of_getElem? (i := 12) rfl)) (by decide) (argsL := [(.int (Int32.ofNat i))]) (st := []) rfl (ct_dash l Z a0 hw G1 G3 OS i X0.old hi) (lenOf (pd_14) rfl) rfl (by decide) (by decide) (by decide) (Nat.le_of_ble_eq_true rfl) (pc' := 4) rfl ?_
  intro T3 _ X4 hQ5
  obtain ⟨z1, rfl, e6, yz1, nz1⟩ := hQ5
  by_cases hd2 : Dsh i
  · skip
    obtain rfl := yz1 hd2
    show Ends p e below s Z _ _ _ T3 (mkF m 4 #[.val (.int (Int32.ofNat i)), .val (.int ch)] [(.int (1 : Int32))])
    refine E_ifF X4 d_okat_4 (XT.i0_eq_f (by decide)) (pc' := 7) rfl ?_
    refine E_iloadN X4 d_okat_7 rfl (pc' := 8) rfl ?_
    refine E_bipush X4 (v := (45 : Int32)) d_okat_8 rfl (pc' := 10) rfl ?_
    by_cases hc10 : ch = (45 : Int32)
    · skip
      refine E_icF X4 d_okat_10 (XT.ii_ne_f hc10) (pc' := 13) rfl ?_
      refine E_iconst X4 (v := (1 : Int32)) d_okat_13 rfl (pc' := 14) rfl ?_
      refine E_goto X4 d_okat_14 (pc' := 18) (by decide) rfl ?_
      exact E_ireturnN X4 (t := .boolean) d_okat_18 rfl (by simp) (by decide) (by decide) (⟨_, rfl, e6, fun _ => rfl, fun q => absurd (Or.inl ⟨hd2, hc10⟩) q⟩)
    · skip
      refine E_icT X4 d_okat_10 (XT.ii_ne_t hc10) (pc' := 17) (by decide) rfl ?_
      refine E_iconst X4 (v := (0 : Int32)) d_okat_17 rfl (pc' := 18) rfl ?_
      exact E_ireturnN X4 (t := .boolean) d_okat_18 rfl (by simp) (by decide) (by decide) (⟨_, rfl, e6, fun q => absurd q (fun q => by rcases q with q | q; exact hc10 q.2; exact q.1 hd2), fun _ => rfl⟩)
  · skip
    obtain rfl := nz1 hd2
    show Ends p e below s Z _ _ _ T3 (mkF m 4 #[.val (.int (Int32.ofNat i)), .val (.int ch)] [(.int (0 : Int32))])
    refine E_ifT X4 d_okat_4 (XT.i0_eq_t (by decide)) (pc' := 19) (by decide) rfl ?_
    refine E_iloadN X4 d_okat_19 rfl (pc' := 20) rfl ?_
    refine E_static X4 (rm := rm_hexl) d_okat_20 (hw _ (List.mem_of_getElem? (i := 19) rfl)) (hw _ (List.mem_of_getElem? (i := 20) rfl)) (hw _ (List.mem_of_getElem? (i := 5) rfl)) (hw _ (List.mem_of_getElem? (i := 21) rfl)) (by decide) (argsL := [(.int ch)]) (st := []) rfl (ct_hexl l Z a0 hw G1 G3 OS ch X4.old hcb.1 hcb.2) (lenOf (pd_16) rfl) rfl (by decide) (by decide) (by decide) (Nat.le_of_ble_eq_true rfl) (pc' := 23) rfl ?_
    intro T9 _ X10 hQ11
    obtain ⟨z7, rfl, e12, yz7, nz7⟩ := hQ11
    by_cases hd8 : Hex ch
    · skip
      obtain rfl := yz7 hd8
      show Ends p e below s Z _ _ _ T9 (mkF m 23 #[.val (.int (Int32.ofNat i)), .val (.int ch)] [(.int (1 : Int32))])
      exact E_ireturnN X10 (t := .boolean) d_okat_23 rfl (by simp) (by decide) (by decide) (⟨_, rfl, (e12.trans e6), fun _ => rfl, fun q => absurd (Or.inr ⟨hd2, hd8⟩) q⟩)
    · skip
      obtain rfl := nz7 hd8
      show Ends p e below s Z _ _ _ T9 (mkF m 23 #[.val (.int (Int32.ofNat i)), .val (.int ch)] [(.int (0 : Int32))])
      exact E_ireturnN X10 (t := .boolean) d_okat_23 rfl (by simp) (by decide) (by decide) (⟨_, rfl, (e12.trans e6), fun q => absurd q (fun q => by rcases q with q | q; exact hd2 q.1; exact hd8 q.2), fun _ => rfl⟩)
theorem d_fill_0 : decode method_8_code 0 = .ok (.aload_n 0, 1) := by decide +kernel
theorem d_fill_1 : decode method_8_code 1 = .ok (.iconst 0, 1) := by decide +kernel
theorem d_fill_2 : decode method_8_code 2 = .ok (.iconst 0, 1) := by decide +kernel
theorem d_fill_3 : decode method_8_code 3 = .ok (.iload_n 1, 1) := by decide +kernel
theorem d_fill_4 : decode method_8_code 4 = .ok (.invokestatic 42, 3) := by decide +kernel
theorem d_fill_7 : decode method_8_code 7 = .ok (.castore, 1) := by decide +kernel
theorem d_fill_8 : decode method_8_code 8 = .ok (.aload_n 0, 1) := by decide +kernel
theorem d_fill_9 : decode method_8_code 9 = .ok (.iconst 1, 1) := by decide +kernel
theorem d_fill_10 : decode method_8_code 10 = .ok (.iconst 1, 1) := by decide +kernel
theorem d_fill_11 : decode method_8_code 11 = .ok (.iload_n 1, 1) := by decide +kernel
theorem d_fill_12 : decode method_8_code 12 = .ok (.invokestatic 42, 3) := by decide +kernel
theorem d_fill_15 : decode method_8_code 15 = .ok (.castore, 1) := by decide +kernel
theorem d_fill_16 : decode method_8_code 16 = .ok (.aload_n 0, 1) := by decide +kernel
theorem d_fill_17 : decode method_8_code 17 = .ok (.iconst 2, 1) := by decide +kernel
theorem d_fill_18 : decode method_8_code 18 = .ok (.iconst 2, 1) := by decide +kernel
theorem d_fill_19 : decode method_8_code 19 = .ok (.iload_n 1, 1) := by decide +kernel
theorem d_fill_20 : decode method_8_code 20 = .ok (.invokestatic 42, 3) := by decide +kernel
theorem d_fill_23 : decode method_8_code 23 = .ok (.castore, 1) := by decide +kernel
theorem d_fill_24 : decode method_8_code 24 = .ok (.aload_n 0, 1) := by decide +kernel
theorem d_fill_25 : decode method_8_code 25 = .ok (.iconst 3, 1) := by decide +kernel
theorem d_fill_26 : decode method_8_code 26 = .ok (.iconst 3, 1) := by decide +kernel
theorem d_fill_27 : decode method_8_code 27 = .ok (.iload_n 1, 1) := by decide +kernel
theorem d_fill_28 : decode method_8_code 28 = .ok (.invokestatic 42, 3) := by decide +kernel
theorem d_fill_31 : decode method_8_code 31 = .ok (.castore, 1) := by decide +kernel
theorem d_fill_32 : decode method_8_code 32 = .ok (.aload_n 0, 1) := by decide +kernel
theorem d_fill_33 : decode method_8_code 33 = .ok (.iconst 4, 1) := by decide +kernel
theorem d_fill_34 : decode method_8_code 34 = .ok (.iconst 4, 1) := by decide +kernel
theorem d_fill_35 : decode method_8_code 35 = .ok (.iload_n 1, 1) := by decide +kernel
theorem d_fill_36 : decode method_8_code 36 = .ok (.invokestatic 42, 3) := by decide +kernel
theorem d_fill_39 : decode method_8_code 39 = .ok (.castore, 1) := by decide +kernel
theorem d_fill_40 : decode method_8_code 40 = .ok (.aload_n 0, 1) := by decide +kernel
theorem d_fill_41 : decode method_8_code 41 = .ok (.iconst 5, 1) := by decide +kernel
theorem d_fill_42 : decode method_8_code 42 = .ok (.iconst 5, 1) := by decide +kernel
theorem d_fill_43 : decode method_8_code 43 = .ok (.iload_n 1, 1) := by decide +kernel
theorem d_fill_44 : decode method_8_code 44 = .ok (.invokestatic 42, 3) := by decide +kernel
theorem d_fill_47 : decode method_8_code 47 = .ok (.castore, 1) := by decide +kernel
theorem d_fill_48 : decode method_8_code 48 = .ok (.aload_n 0, 1) := by decide +kernel
theorem d_fill_49 : decode method_8_code 49 = .ok (.bipush 6, 2) := by decide +kernel
theorem d_fill_51 : decode method_8_code 51 = .ok (.bipush 6, 2) := by decide +kernel
theorem d_fill_53 : decode method_8_code 53 = .ok (.iload_n 1, 1) := by decide +kernel
theorem d_fill_54 : decode method_8_code 54 = .ok (.invokestatic 42, 3) := by decide +kernel
theorem d_fill_57 : decode method_8_code 57 = .ok (.castore, 1) := by decide +kernel
theorem d_fill_58 : decode method_8_code 58 = .ok (.aload_n 0, 1) := by decide +kernel
theorem d_fill_59 : decode method_8_code 59 = .ok (.bipush 7, 2) := by decide +kernel
theorem d_fill_61 : decode method_8_code 61 = .ok (.bipush 7, 2) := by decide +kernel
theorem d_fill_63 : decode method_8_code 63 = .ok (.iload_n 1, 1) := by decide +kernel
theorem d_fill_64 : decode method_8_code 64 = .ok (.invokestatic 42, 3) := by decide +kernel
theorem d_fill_67 : decode method_8_code 67 = .ok (.castore, 1) := by decide +kernel
theorem d_fill_68 : decode method_8_code 68 = .ok (.aload_n 0, 1) := by decide +kernel
theorem d_fill_69 : decode method_8_code 69 = .ok (.bipush 8, 2) := by decide +kernel
theorem d_fill_71 : decode method_8_code 71 = .ok (.bipush 8, 2) := by decide +kernel
theorem d_fill_73 : decode method_8_code 73 = .ok (.iload_n 1, 1) := by decide +kernel
theorem d_fill_74 : decode method_8_code 74 = .ok (.invokestatic 42, 3) := by decide +kernel
theorem d_fill_77 : decode method_8_code 77 = .ok (.castore, 1) := by decide +kernel
theorem d_fill_78 : decode method_8_code 78 = .ok (.aload_n 0, 1) := by decide +kernel
theorem d_fill_79 : decode method_8_code 79 = .ok (.bipush 9, 2) := by decide +kernel
theorem d_fill_81 : decode method_8_code 81 = .ok (.bipush 9, 2) := by decide +kernel
theorem d_fill_83 : decode method_8_code 83 = .ok (.iload_n 1, 1) := by decide +kernel
theorem d_fill_84 : decode method_8_code 84 = .ok (.invokestatic 42, 3) := by decide +kernel
theorem d_fill_87 : decode method_8_code 87 = .ok (.castore, 1) := by decide +kernel
theorem d_fill_88 : decode method_8_code 88 = .ok (.aload_n 0, 1) := by decide +kernel
theorem d_fill_89 : decode method_8_code 89 = .ok (.bipush 10, 2) := by decide +kernel
theorem d_fill_91 : decode method_8_code 91 = .ok (.bipush 10, 2) := by decide +kernel
theorem d_fill_93 : decode method_8_code 93 = .ok (.iload_n 1, 1) := by decide +kernel
theorem d_fill_94 : decode method_8_code 94 = .ok (.invokestatic 42, 3) := by decide +kernel
theorem d_fill_97 : decode method_8_code 97 = .ok (.castore, 1) := by decide +kernel
theorem d_fill_98 : decode method_8_code 98 = .ok (.aload_n 0, 1) := by decide +kernel
theorem d_fill_99 : decode method_8_code 99 = .ok (.bipush 11, 2) := by decide +kernel
theorem d_fill_101 : decode method_8_code 101 = .ok (.bipush 11, 2) := by decide +kernel
theorem d_fill_103 : decode method_8_code 103 = .ok (.iload_n 1, 1) := by decide +kernel
theorem d_fill_104 : decode method_8_code 104 = .ok (.invokestatic 42, 3) := by decide +kernel
theorem d_fill_107 : decode method_8_code 107 = .ok (.castore, 1) := by decide +kernel
theorem d_fill_108 : decode method_8_code 108 = .ok (.aload_n 0, 1) := by decide +kernel
theorem d_fill_109 : decode method_8_code 109 = .ok (.bipush 12, 2) := by decide +kernel
theorem d_fill_111 : decode method_8_code 111 = .ok (.bipush 12, 2) := by decide +kernel
theorem d_fill_113 : decode method_8_code 113 = .ok (.iload_n 1, 1) := by decide +kernel
theorem d_fill_114 : decode method_8_code 114 = .ok (.invokestatic 42, 3) := by decide +kernel
theorem d_fill_117 : decode method_8_code 117 = .ok (.castore, 1) := by decide +kernel
theorem d_fill_118 : decode method_8_code 118 = .ok (.aload_n 0, 1) := by decide +kernel
theorem d_fill_119 : decode method_8_code 119 = .ok (.bipush 13, 2) := by decide +kernel
theorem d_fill_121 : decode method_8_code 121 = .ok (.bipush 13, 2) := by decide +kernel
theorem d_fill_123 : decode method_8_code 123 = .ok (.iload_n 1, 1) := by decide +kernel
theorem d_fill_124 : decode method_8_code 124 = .ok (.invokestatic 42, 3) := by decide +kernel
theorem d_fill_127 : decode method_8_code 127 = .ok (.castore, 1) := by decide +kernel
theorem d_fill_128 : decode method_8_code 128 = .ok (.aload_n 0, 1) := by decide +kernel
theorem d_fill_129 : decode method_8_code 129 = .ok (.bipush 14, 2) := by decide +kernel
theorem d_fill_131 : decode method_8_code 131 = .ok (.bipush 14, 2) := by decide +kernel
theorem d_fill_133 : decode method_8_code 133 = .ok (.iload_n 1, 1) := by decide +kernel
theorem d_fill_134 : decode method_8_code 134 = .ok (.invokestatic 42, 3) := by decide +kernel
theorem d_fill_137 : decode method_8_code 137 = .ok (.castore, 1) := by decide +kernel
theorem d_fill_138 : decode method_8_code 138 = .ok (.aload_n 0, 1) := by decide +kernel
theorem d_fill_139 : decode method_8_code 139 = .ok (.bipush 15, 2) := by decide +kernel
theorem d_fill_141 : decode method_8_code 141 = .ok (.bipush 15, 2) := by decide +kernel
theorem d_fill_143 : decode method_8_code 143 = .ok (.iload_n 1, 1) := by decide +kernel
theorem d_fill_144 : decode method_8_code 144 = .ok (.invokestatic 42, 3) := by decide +kernel
theorem d_fill_147 : decode method_8_code 147 = .ok (.castore, 1) := by decide +kernel
theorem d_fill_148 : decode method_8_code 148 = .ok (.aload_n 0, 1) := by decide +kernel
theorem d_fill_149 : decode method_8_code 149 = .ok (.bipush 16, 2) := by decide +kernel
theorem d_fill_151 : decode method_8_code 151 = .ok (.bipush 16, 2) := by decide +kernel
theorem d_fill_153 : decode method_8_code 153 = .ok (.iload_n 1, 1) := by decide +kernel
theorem d_fill_154 : decode method_8_code 154 = .ok (.invokestatic 42, 3) := by decide +kernel
theorem d_fill_157 : decode method_8_code 157 = .ok (.castore, 1) := by decide +kernel
theorem d_fill_158 : decode method_8_code 158 = .ok (.aload_n 0, 1) := by decide +kernel
theorem d_fill_159 : decode method_8_code 159 = .ok (.bipush 17, 2) := by decide +kernel
theorem d_fill_161 : decode method_8_code 161 = .ok (.bipush 17, 2) := by decide +kernel
theorem d_fill_163 : decode method_8_code 163 = .ok (.iload_n 1, 1) := by decide +kernel
theorem d_fill_164 : decode method_8_code 164 = .ok (.invokestatic 42, 3) := by decide +kernel
theorem d_fill_167 : decode method_8_code 167 = .ok (.castore, 1) := by decide +kernel
theorem d_fill_168 : decode method_8_code 168 = .ok (.aload_n 0, 1) := by decide +kernel
theorem d_fill_169 : decode method_8_code 169 = .ok (.bipush 18, 2) := by decide +kernel
theorem d_fill_171 : decode method_8_code 171 = .ok (.bipush 18, 2) := by decide +kernel
theorem d_fill_173 : decode method_8_code 173 = .ok (.iload_n 1, 1) := by decide +kernel
theorem d_fill_174 : decode method_8_code 174 = .ok (.invokestatic 42, 3) := by decide +kernel
theorem d_fill_177 : decode method_8_code 177 = .ok (.castore, 1) := by decide +kernel
theorem d_fill_178 : decode method_8_code 178 = .ok (.aload_n 0, 1) := by decide +kernel
theorem d_fill_179 : decode method_8_code 179 = .ok (.bipush 19, 2) := by decide +kernel
theorem d_fill_181 : decode method_8_code 181 = .ok (.bipush 19, 2) := by decide +kernel
theorem d_fill_183 : decode method_8_code 183 = .ok (.iload_n 1, 1) := by decide +kernel
theorem d_fill_184 : decode method_8_code 184 = .ok (.invokestatic 42, 3) := by decide +kernel
theorem d_fill_187 : decode method_8_code 187 = .ok (.castore, 1) := by decide +kernel
theorem d_fill_188 : decode method_8_code 188 = .ok (.aload_n 0, 1) := by decide +kernel
theorem d_fill_189 : decode method_8_code 189 = .ok (.bipush 20, 2) := by decide +kernel
theorem d_fill_191 : decode method_8_code 191 = .ok (.bipush 20, 2) := by decide +kernel
theorem d_fill_193 : decode method_8_code 193 = .ok (.iload_n 1, 1) := by decide +kernel
theorem d_fill_194 : decode method_8_code 194 = .ok (.invokestatic 42, 3) := by decide +kernel
theorem d_fill_197 : decode method_8_code 197 = .ok (.castore, 1) := by decide +kernel
theorem d_fill_198 : decode method_8_code 198 = .ok (.aload_n 0, 1) := by decide +kernel
theorem d_fill_199 : decode method_8_code 199 = .ok (.bipush 21, 2) := by decide +kernel
theorem d_fill_201 : decode method_8_code 201 = .ok (.bipush 21, 2) := by decide +kernel
theorem d_fill_203 : decode method_8_code 203 = .ok (.iload_n 1, 1) := by decide +kernel
theorem d_fill_204 : decode method_8_code 204 = .ok (.invokestatic 42, 3) := by decide +kernel
theorem d_fill_207 : decode method_8_code 207 = .ok (.castore, 1) := by decide +kernel
theorem d_fill_208 : decode method_8_code 208 = .ok (.aload_n 0, 1) := by decide +kernel
theorem d_fill_209 : decode method_8_code 209 = .ok (.bipush 22, 2) := by decide +kernel
theorem d_fill_211 : decode method_8_code 211 = .ok (.bipush 22, 2) := by decide +kernel
theorem d_fill_213 : decode method_8_code 213 = .ok (.iload_n 1, 1) := by decide +kernel
theorem d_fill_214 : decode method_8_code 214 = .ok (.invokestatic 42, 3) := by decide +kernel
theorem d_fill_217 : decode method_8_code 217 = .ok (.castore, 1) := by decide +kernel
theorem d_fill_218 : decode method_8_code 218 = .ok (.aload_n 0, 1) := by decide +kernel
theorem d_fill_219 : decode method_8_code 219 = .ok (.bipush 23, 2) := by decide +kernel
theorem d_fill_221 : decode method_8_code 221 = .ok (.bipush 23, 2) := by decide +kernel
theorem d_fill_223 : decode method_8_code 223 = .ok (.iload_n 1, 1) := by decide +kernel
theorem d_fill_224 : decode method_8_code 224 = .ok (.invokestatic 42, 3) := by decide +kernel
theorem d_fill_227 : decode method_8_code 227 = .ok (.castore, 1) := by decide +kernel
theorem d_fill_228 : decode method_8_code 228 = .ok (.aload_n 0, 1) := by decide +kernel
theorem d_fill_229 : decode method_8_code 229 = .ok (.bipush 24, 2) := by decide +kernel
theorem d_fill_231 : decode method_8_code 231 = .ok (.bipush 24, 2) := by decide +kernel
theorem d_fill_233 : decode method_8_code 233 = .ok (.iload_n 1, 1) := by decide +kernel
theorem d_fill_234 : decode method_8_code 234 = .ok (.invokestatic 42, 3) := by decide +kernel
theorem d_fill_237 : decode method_8_code 237 = .ok (.castore, 1) := by decide +kernel
theorem d_fill_238 : decode method_8_code 238 = .ok (.aload_n 0, 1) := by decide +kernel
theorem d_fill_239 : decode method_8_code 239 = .ok (.bipush 25, 2) := by decide +kernel
theorem d_fill_241 : decode method_8_code 241 = .ok (.bipush 25, 2) := by decide +kernel
theorem d_fill_243 : decode method_8_code 243 = .ok (.iload_n 1, 1) := by decide +kernel
theorem d_fill_244 : decode method_8_code 244 = .ok (.invokestatic 42, 3) := by decide +kernel
theorem d_fill_247 : decode method_8_code 247 = .ok (.castore, 1) := by decide +kernel
theorem d_fill_248 : decode method_8_code 248 = .ok (.aload_n 0, 1) := by decide +kernel
theorem d_fill_249 : decode method_8_code 249 = .ok (.bipush 26, 2) := by decide +kernel
theorem d_fill_251 : decode method_8_code 251 = .ok (.bipush 26, 2) := by decide +kernel
theorem d_fill_253 : decode method_8_code 253 = .ok (.iload_n 1, 1) := by decide +kernel
theorem d_fill_254 : decode method_8_code 254 = .ok (.invokestatic 42, 3) := by decide +kernel
theorem d_fill_257 : decode method_8_code 257 = .ok (.castore, 1) := by decide +kernel
theorem d_fill_258 : decode method_8_code 258 = .ok (.aload_n 0, 1) := by decide +kernel
theorem d_fill_259 : decode method_8_code 259 = .ok (.bipush 27, 2) := by decide +kernel
theorem d_fill_261 : decode method_8_code 261 = .ok (.bipush 27, 2) := by decide +kernel
theorem d_fill_263 : decode method_8_code 263 = .ok (.iload_n 1, 1) := by decide +kernel
theorem d_fill_264 : decode method_8_code 264 = .ok (.invokestatic 42, 3) := by decide +kernel
theorem d_fill_267 : decode method_8_code 267 = .ok (.castore, 1) := by decide +kernel
theorem d_fill_268 : decode method_8_code 268 = .ok (.aload_n 0, 1) := by decide +kernel
theorem d_fill_269 : decode method_8_code 269 = .ok (.bipush 28, 2) := by decide +kernel
theorem d_fill_271 : decode method_8_code 271 = .ok (.bipush 28, 2) := by decide +kernel
theorem d_fill_273 : decode method_8_code 273 = .ok (.iload_n 1, 1) := by decide +kernel
theorem d_fill_274 : decode method_8_code 274 = .ok (.invokestatic 42, 3) := by decide +kernel
theorem d_fill_277 : decode method_8_code 277 = .ok (.castore, 1) := by decide +kernel
theorem d_fill_278 : decode method_8_code 278 = .ok (.aload_n 0, 1) := by decide +kernel
theorem d_fill_279 : decode method_8_code 279 = .ok (.bipush 29, 2) := by decide +kernel
theorem d_fill_281 : decode method_8_code 281 = .ok (.bipush 29, 2) := by decide +kernel
theorem d_fill_283 : decode method_8_code 283 = .ok (.iload_n 1, 1) := by decide +kernel
theorem d_fill_284 : decode method_8_code 284 = .ok (.invokestatic 42, 3) := by decide +kernel
theorem d_fill_287 : decode method_8_code 287 = .ok (.castore, 1) := by decide +kernel
theorem d_fill_288 : decode method_8_code 288 = .ok (.aload_n 0, 1) := by decide +kernel
theorem d_fill_289 : decode method_8_code 289 = .ok (.bipush 30, 2) := by decide +kernel
theorem d_fill_291 : decode method_8_code 291 = .ok (.bipush 30, 2) := by decide +kernel
theorem d_fill_293 : decode method_8_code 293 = .ok (.iload_n 1, 1) := by decide +kernel
theorem d_fill_294 : decode method_8_code 294 = .ok (.invokestatic 42, 3) := by decide +kernel
theorem d_fill_297 : decode method_8_code 297 = .ok (.castore, 1) := by decide +kernel
theorem d_fill_298 : decode method_8_code 298 = .ok (.aload_n 0, 1) := by decide +kernel
theorem d_fill_299 : decode method_8_code 299 = .ok (.bipush 31, 2) := by decide +kernel
theorem d_fill_301 : decode method_8_code 301 = .ok (.bipush 31, 2) := by decide +kernel
theorem d_fill_303 : decode method_8_code 303 = .ok (.iload_n 1, 1) := by decide +kernel
theorem d_fill_304 : decode method_8_code 304 = .ok (.invokestatic 42, 3) := by decide +kernel
theorem d_fill_307 : decode method_8_code 307 = .ok (.castore, 1) := by decide +kernel
theorem d_fill_308 : decode method_8_code 308 = .ok (.aload_n 0, 1) := by decide +kernel
theorem d_fill_309 : decode method_8_code 309 = .ok (.bipush 32, 2) := by decide +kernel
theorem d_fill_311 : decode method_8_code 311 = .ok (.bipush 32, 2) := by decide +kernel
theorem d_fill_313 : decode method_8_code 313 = .ok (.iload_n 1, 1) := by decide +kernel
theorem d_fill_314 : decode method_8_code 314 = .ok (.invokestatic 42, 3) := by decide +kernel
theorem d_fill_317 : decode method_8_code 317 = .ok (.castore, 1) := by decide +kernel
theorem d_fill_318 : decode method_8_code 318 = .ok (.aload_n 0, 1) := by decide +kernel
theorem d_fill_319 : decode method_8_code 319 = .ok (.bipush 33, 2) := by decide +kernel
theorem d_fill_321 : decode method_8_code 321 = .ok (.bipush 33, 2) := by decide +kernel
theorem d_fill_323 : decode method_8_code 323 = .ok (.iload_n 1, 1) := by decide +kernel
theorem d_fill_324 : decode method_8_code 324 = .ok (.invokestatic 42, 3) := by decide +kernel
theorem d_fill_327 : decode method_8_code 327 = .ok (.castore, 1) := by decide +kernel
theorem d_fill_328 : decode method_8_code 328 = .ok (.aload_n 0, 1) := by decide +kernel
theorem d_fill_329 : decode method_8_code 329 = .ok (.bipush 34, 2) := by decide +kernel
theorem d_fill_331 : decode method_8_code 331 = .ok (.bipush 34, 2) := by decide +kernel
theorem d_fill_333 : decode method_8_code 333 = .ok (.iload_n 1, 1) := by decide +kernel
theorem d_fill_334 : decode method_8_code 334 = .ok (.invokestatic 42, 3) := by decide +kernel
theorem d_fill_337 : decode method_8_code 337 = .ok (.castore, 1) := by decide +kernel
theorem d_fill_338 : decode method_8_code 338 = .ok (.aload_n 0, 1) := by decide +kernel
theorem d_fill_339 : decode method_8_code 339 = .ok (.arraylength, 1) := by decide +kernel
theorem d_fill_340 : decode method_8_code 340 = .ok (.bipush 35, 2) := by decide +kernel
theorem d_fill_342 : decode method_8_code 342 = .ok (.if_icmp .le 13, 3) := by decide +kernel
theorem d_fill_345 : decode method_8_code 345 = .ok (.aload_n 0, 1) := by decide +kernel
theorem d_fill_346 : decode method_8_code 346 = .ok (.bipush 35, 2) := by decide +kernel
theorem d_fill_348 : decode method_8_code 348 = .ok (.bipush 35, 2) := by decide +kernel
theorem d_fill_350 : decode method_8_code 350 = .ok (.iload_n 1, 1) := by decide +kernel
theorem d_fill_351 : decode method_8_code 351 = .ok (.invokestatic 42, 3) := by decide +kernel
theorem d_fill_354 : decode method_8_code 354 = .ok (.castore, 1) := by decide +kernel
theorem d_fill_355 : decode method_8_code 355 = .ok (.return_, 1) := by decide +kernel
abbrev rm_fill : Room := ({ frames := 2, cells := 0, slots := 0, locals := 27 } : Room)
def Q_fill (Z : State) (b : Addr) (kC : ClassId) (N sd : Int32) (h0 : Heap) (v : Option Value) (h : Heap) : Prop := v = none ∧ Keep h0 h [b] ∧ ∃ fl : List Int32, fl.length = (if (35 : Int32) < N then 36 else 35) ∧ OkL 0 fl ∧ Arv Z h b kC .char N (fl.map Value.int) (.int (0 : Int32))
set_option maxRecDepth 65536 in
set_option maxHeartbeats 40000000 in
theorem ct_fill (l : Launch) (Z : State) (a0 : Array Value) (hw : ∀ d ∈ tables_1, d.before a0 Z = true) (G1 : Int32) (G3 : Value) (OS : Sts Z G1 G3) (b : Addr) (kC : ClassId) (N sd : Int32) {h0 : Heap} (O : Ext Z.heap h0) (V0 : Arv Z h0 b kC .char N [] (.int (0 : Int32))) (hN : (34 : Int32) < N) (gb : Z.heap.size ≤ b) : Ct l Z (⟨"com/example/detached_state/detachedstate/SessionIdsIsWellFormedPinLaw", "fill", "([CI)V"⟩ : MethodName) method_8_code 2 none rm_fill #[(.ref b), (.int sd)] h0 (Q_fill Z b kC N sd h0) := by
  refine Ct.of_body (Ls := #[.val (.ref b), .val (.int sd)]) (by decide +kernel) O (fun m => by first | rfl | (simp [entryFrame, mkF, argsToLocals, Value.category]; done) | (rcases ref_cases (Sts.ref OS) with rfl | ⟨r, rfl⟩ <;> rfl)) ?_
  intro p e s m below meth c T0 X0 e0
  subst e0
  have K00 := Keep.refl T0.heap [b]
  refine E_aloadN X0 d_fill_0 rfl rfl (pc' := 1) rfl ?_
  refine E_iconst X0 (v := (0 : Int32)) d_fill_1 rfl (pc' := 2) rfl ?_
  refine E_iconst X0 (v := (0 : Int32)) d_fill_2 rfl (pc' := 3) rfl ?_
  refine E_iloadN X0 d_fill_3 rfl (pc' := 4) rfl ?_
  refine E_static X0 (rm := rm_at) d_fill_4 (hw _ (List.mem_of_getElem? (i := 7) rfl)) (hw _ (List.mem_of_getElem? (i := 8) rfl)) (hw _ (List.mem_of_getElem? (i := 5) rfl)) (hw _ (List.mem_of_getElem? (i := 9) rfl)) (by decide) (argsL := [(.int (0 : Int32)), (.int sd)]) (st := [(.int (0 : Int32)), (.ref b)]) rfl (ct_at l Z a0 hw G1 G3 OS 0 sd X0.old (by decide)) (lenOf (pd_17) rfl) rfl (by decide) (by decide) (by decide) (Nat.le_of_ble_eq_true rfl) (pc' := 7) rfl ?_
  intro T1 _ X2 hQ3
  obtain ⟨z0, rfl, e4, az0⟩ := hQ3
  have KK5 := own_keq K00 e4
  rw [← e4] at V0
  show Ends p e below s Z _ _ _ T1 (mkF m 7 #[.val (.ref b), .val (.int sd)] [(.int z0), (.int (0 : Int32)), (.ref b)])
  refine E_castoreA X2 (y := z0) d_fill_7 (okc_nar az0) V0 ⟨by decide, Int32.lt_of_le_of_lt (by decide : (0 : Int32) ≤ 34) hN⟩ rfl gb (pc' := 8) rfl ?_
  intro T6 X7 K8 V9
  have KK10 := KK5.trans K8 (allS (Or.inl (by simp)) (fun x q => nomatch q))
  have V11 : Arv Z T6.heap b kC .char N [(.int z0)] (.int (0 : Int32)) := V9
  refine E_aloadN X7 d_fill_8 rfl rfl (pc' := 9) rfl ?_
  refine E_iconst X7 (v := (1 : Int32)) d_fill_9 rfl (pc' := 10) rfl ?_
  refine E_iconst X7 (v := (1 : Int32)) d_fill_10 rfl (pc' := 11) rfl ?_
  refine E_iloadN X7 d_fill_11 rfl (pc' := 12) rfl ?_
  refine E_static X7 (rm := rm_at) d_fill_12 (hw _ (List.mem_of_getElem? (i := 7) rfl)) (hw _ (List.mem_of_getElem? (i := 8) rfl)) (hw _ (List.mem_of_getElem? (i := 5) rfl)) (hw _ (List.mem_of_getElem? (i := 9) rfl)) (by decide) (argsL := [(.int (1 : Int32)), (.int sd)]) (st := [(.int (1 : Int32)), (.ref b)]) rfl (ct_at l Z a0 hw G1 G3 OS 1 sd X7.old (by decide)) (lenOf (pd_17) rfl) rfl (by decide) (by decide) (by decide) (Nat.le_of_ble_eq_true rfl) (pc' := 15) rfl ?_
  intro T12 _ X13 hQ14
  obtain ⟨z1, rfl, e15, az1⟩ := hQ14
  have KK16 := own_keq KK10 e15
  rw [← e15] at V11
  show Ends p e below s Z _ _ _ T12 (mkF m 15 #[.val (.ref b), .val (.int sd)] [(.int z1), (.int (1 : Int32)), (.ref b)])
  refine E_castoreA X13 (y := z1) d_fill_15 (okc_nar az1) V11 ⟨by decide, Int32.lt_of_le_of_lt (by decide : (1 : Int32) ≤ 34) hN⟩ rfl gb (pc' := 16) rfl ?_
  intro T17 X18 K19 V20
  have KK21 := KK16.trans K19 (allS (Or.inl (by simp)) (fun x q => nomatch q))
  have V22 : Arv Z T17.heap b kC .char N [(.int z0), (.int z1)] (.int (0 : Int32)) := V20
  refine E_aloadN X18 d_fill_16 rfl rfl (pc' := 17) rfl ?_
  refine E_iconst X18 (v := (2 : Int32)) d_fill_17 rfl (pc' := 18) rfl ?_
  refine E_iconst X18 (v := (2 : Int32)) d_fill_18 rfl (pc' := 19) rfl ?_
  refine E_iloadN X18 d_fill_19 rfl (pc' := 20) rfl ?_
  refine E_static X18 (rm := rm_at) d_fill_20 (hw _ (List.mem_of_getElem? (i := 7) rfl)) (hw _ (List.mem_of_getElem? (i := 8) rfl)) (hw _ (List.mem_of_getElem? (i := 5) rfl)) (hw _ (List.mem_of_getElem? (i := 9) rfl)) (by decide) (argsL := [(.int (2 : Int32)), (.int sd)]) (st := [(.int (2 : Int32)), (.ref b)]) rfl (ct_at l Z a0 hw G1 G3 OS 2 sd X18.old (by decide)) (lenOf (pd_17) rfl) rfl (by decide) (by decide) (by decide) (Nat.le_of_ble_eq_true rfl) (pc' := 23) rfl ?_
  intro T23 _ X24 hQ25
  obtain ⟨z2, rfl, e26, az2⟩ := hQ25
  have KK27 := own_keq KK21 e26
  rw [← e26] at V22
  show Ends p e below s Z _ _ _ T23 (mkF m 23 #[.val (.ref b), .val (.int sd)] [(.int z2), (.int (2 : Int32)), (.ref b)])
  refine E_castoreA X24 (y := z2) d_fill_23 (okc_nar az2) V22 ⟨by decide, Int32.lt_of_le_of_lt (by decide : (2 : Int32) ≤ 34) hN⟩ rfl gb (pc' := 24) rfl ?_
  intro T28 X29 K30 V31
  have KK32 := KK27.trans K30 (allS (Or.inl (by simp)) (fun x q => nomatch q))
  have V33 : Arv Z T28.heap b kC .char N [(.int z0), (.int z1), (.int z2)] (.int (0 : Int32)) := V31
  refine E_aloadN X29 d_fill_24 rfl rfl (pc' := 25) rfl ?_
  refine E_iconst X29 (v := (3 : Int32)) d_fill_25 rfl (pc' := 26) rfl ?_
  refine E_iconst X29 (v := (3 : Int32)) d_fill_26 rfl (pc' := 27) rfl ?_
  refine E_iloadN X29 d_fill_27 rfl (pc' := 28) rfl ?_
  refine E_static X29 (rm := rm_at) d_fill_28 (hw _ (List.mem_of_getElem? (i := 7) rfl)) (hw _ (List.mem_of_getElem? (i := 8) rfl)) (hw _ (List.mem_of_getElem? (i := 5) rfl)) (hw _ (List.mem_of_getElem? (i := 9) rfl)) (by decide) (argsL := [(.int (3 : Int32)), (.int sd)]) (st := [(.int (3 : Int32)), (.ref b)]) rfl (ct_at l Z a0 hw G1 G3 OS 3 sd X29.old (by decide)) (lenOf (pd_17) rfl) rfl (by decide) (by decide) (by decide) (Nat.le_of_ble_eq_true rfl) (pc' := 31) rfl ?_
  intro T34 _ X35 hQ36
  obtain ⟨z3, rfl, e37, az3⟩ := hQ36
  have KK38 := own_keq KK32 e37
  rw [← e37] at V33
  show Ends p e below s Z _ _ _ T34 (mkF m 31 #[.val (.ref b), .val (.int sd)] [(.int z3), (.int (3 : Int32)), (.ref b)])
  refine E_castoreA X35 (y := z3) d_fill_31 (okc_nar az3) V33 ⟨by decide, Int32.lt_of_le_of_lt (by decide : (3 : Int32) ≤ 34) hN⟩ rfl gb (pc' := 32) rfl ?_
  intro T39 X40 K41 V42
  have KK43 := KK38.trans K41 (allS (Or.inl (by simp)) (fun x q => nomatch q))
  have V44 : Arv Z T39.heap b kC .char N [(.int z0), (.int z1), (.int z2), (.int z3)] (.int (0 : Int32)) := V42
  refine E_aloadN X40 d_fill_32 rfl rfl (pc' := 33) rfl ?_
  refine E_iconst X40 (v := (4 : Int32)) d_fill_33 rfl (pc' := 34) rfl ?_
  refine E_iconst X40 (v := (4 : Int32)) d_fill_34 rfl (pc' := 35) rfl ?_
  refine E_iloadN X40 d_fill_35 rfl (pc' := 36) rfl ?_
  refine E_static X40 (rm := rm_at) d_fill_36 (hw _ (List.mem_of_getElem? (i := 7) rfl)) (hw _ (List.mem_of_getElem? (i := 8) rfl)) (hw _ (List.mem_of_getElem? (i := 5) rfl)) (hw _ (List.mem_of_getElem? (i := 9) rfl)) (by decide) (argsL := [(.int (4 : Int32)), (.int sd)]) (st := [(.int (4 : Int32)), (.ref b)]) rfl (ct_at l Z a0 hw G1 G3 OS 4 sd X40.old (by decide)) (lenOf (pd_17) rfl) rfl (by decide) (by decide) (by decide) (Nat.le_of_ble_eq_true rfl) (pc' := 39) rfl ?_
  intro T45 _ X46 hQ47
  obtain ⟨z4, rfl, e48, az4⟩ := hQ47
  have KK49 := own_keq KK43 e48
  rw [← e48] at V44
  show Ends p e below s Z _ _ _ T45 (mkF m 39 #[.val (.ref b), .val (.int sd)] [(.int z4), (.int (4 : Int32)), (.ref b)])
  refine E_castoreA X46 (y := z4) d_fill_39 (okc_nar az4) V44 ⟨by decide, Int32.lt_of_le_of_lt (by decide : (4 : Int32) ≤ 34) hN⟩ rfl gb (pc' := 40) rfl ?_
  intro T50 X51 K52 V53
  have KK54 := KK49.trans K52 (allS (Or.inl (by simp)) (fun x q => nomatch q))
  have V55 : Arv Z T50.heap b kC .char N [(.int z0), (.int z1), (.int z2), (.int z3), (.int z4)] (.int (0 : Int32)) := V53
  refine E_aloadN X51 d_fill_40 rfl rfl (pc' := 41) rfl ?_
  refine E_iconst X51 (v := (5 : Int32)) d_fill_41 rfl (pc' := 42) rfl ?_
  refine E_iconst X51 (v := (5 : Int32)) d_fill_42 rfl (pc' := 43) rfl ?_
  refine E_iloadN X51 d_fill_43 rfl (pc' := 44) rfl ?_
  refine E_static X51 (rm := rm_at) d_fill_44 (hw _ (List.mem_of_getElem? (i := 7) rfl)) (hw _ (List.mem_of_getElem? (i := 8) rfl)) (hw _ (List.mem_of_getElem? (i := 5) rfl)) (hw _ (List.mem_of_getElem? (i := 9) rfl)) (by decide) (argsL := [(.int (5 : Int32)), (.int sd)]) (st := [(.int (5 : Int32)), (.ref b)]) rfl (ct_at l Z a0 hw G1 G3 OS 5 sd X51.old (by decide)) (lenOf (pd_17) rfl) rfl (by decide) (by decide) (by decide) (Nat.le_of_ble_eq_true rfl) (pc' := 47) rfl ?_
  intro T56 _ X57 hQ58
  obtain ⟨z5, rfl, e59, az5⟩ := hQ58
  have KK60 := own_keq KK54 e59
  rw [← e59] at V55
  show Ends p e below s Z _ _ _ T56 (mkF m 47 #[.val (.ref b), .val (.int sd)] [(.int z5), (.int (5 : Int32)), (.ref b)])
  refine E_castoreA X57 (y := z5) d_fill_47 (okc_nar az5) V55 ⟨by decide, Int32.lt_of_le_of_lt (by decide : (5 : Int32) ≤ 34) hN⟩ rfl gb (pc' := 48) rfl ?_
  intro T61 X62 K63 V64
  have KK65 := KK60.trans K63 (allS (Or.inl (by simp)) (fun x q => nomatch q))
  have V66 : Arv Z T61.heap b kC .char N [(.int z0), (.int z1), (.int z2), (.int z3), (.int z4), (.int z5)] (.int (0 : Int32)) := V64
  refine E_aloadN X62 d_fill_48 rfl rfl (pc' := 49) rfl ?_
  refine E_bipush X62 (v := (6 : Int32)) d_fill_49 rfl (pc' := 51) rfl ?_
  refine E_bipush X62 (v := (6 : Int32)) d_fill_51 rfl (pc' := 53) rfl ?_
  refine E_iloadN X62 d_fill_53 rfl (pc' := 54) rfl ?_
  refine E_static X62 (rm := rm_at) d_fill_54 (hw _ (List.mem_of_getElem? (i := 7) rfl)) (hw _ (List.mem_of_getElem? (i := 8) rfl)) (hw _ (List.mem_of_getElem? (i := 5) rfl)) (hw _ (List.mem_of_getElem? (i := 9) rfl)) (by decide) (argsL := [(.int (6 : Int32)), (.int sd)]) (st := [(.int (6 : Int32)), (.ref b)]) rfl (ct_at l Z a0 hw G1 G3 OS 6 sd X62.old (by decide)) (lenOf (pd_17) rfl) rfl (by decide) (by decide) (by decide) (Nat.le_of_ble_eq_true rfl) (pc' := 57) rfl ?_
  intro T67 _ X68 hQ69
  obtain ⟨z6, rfl, e70, az6⟩ := hQ69
  have KK71 := own_keq KK65 e70
  rw [← e70] at V66
  show Ends p e below s Z _ _ _ T67 (mkF m 57 #[.val (.ref b), .val (.int sd)] [(.int z6), (.int (6 : Int32)), (.ref b)])
  refine E_castoreA X68 (y := z6) d_fill_57 (okc_nar az6) V66 ⟨by decide, Int32.lt_of_le_of_lt (by decide : (6 : Int32) ≤ 34) hN⟩ rfl gb (pc' := 58) rfl ?_
  intro T72 X73 K74 V75
  have KK76 := KK71.trans K74 (allS (Or.inl (by simp)) (fun x q => nomatch q))
  have V77 : Arv Z T72.heap b kC .char N [(.int z0), (.int z1), (.int z2), (.int z3), (.int z4), (.int z5), (.int z6)] (.int (0 : Int32)) := V75
  refine E_aloadN X73 d_fill_58 rfl rfl (pc' := 59) rfl ?_
  refine E_bipush X73 (v := (7 : Int32)) d_fill_59 rfl (pc' := 61) rfl ?_
  refine E_bipush X73 (v := (7 : Int32)) d_fill_61 rfl (pc' := 63) rfl ?_
  refine E_iloadN X73 d_fill_63 rfl (pc' := 64) rfl ?_
  refine E_static X73 (rm := rm_at) d_fill_64 (hw _ (List.mem_of_getElem? (i := 7) rfl)) (hw _ (List.mem_of_getElem? (i := 8) rfl)) (hw _ (List.mem_of_getElem? (i := 5) rfl)) (hw _ (List.mem_of_getElem? (i := 9) rfl)) (by decide) (argsL := [(.int (7 : Int32)), (.int sd)]) (st := [(.int (7 : Int32)), (.ref b)]) rfl (ct_at l Z a0 hw G1 G3 OS 7 sd X73.old (by decide)) (lenOf (pd_17) rfl) rfl (by decide) (by decide) (by decide) (Nat.le_of_ble_eq_true rfl) (pc' := 67) rfl ?_
  intro T78 _ X79 hQ80
  obtain ⟨z7, rfl, e81, az7⟩ := hQ80
  have KK82 := own_keq KK76 e81
  rw [← e81] at V77
  show Ends p e below s Z _ _ _ T78 (mkF m 67 #[.val (.ref b), .val (.int sd)] [(.int z7), (.int (7 : Int32)), (.ref b)])
  refine E_castoreA X79 (y := z7) d_fill_67 (okc_nar az7) V77 ⟨by decide, Int32.lt_of_le_of_lt (by decide : (7 : Int32) ≤ 34) hN⟩ rfl gb (pc' := 68) rfl ?_
  intro T83 X84 K85 V86
  have KK87 := KK82.trans K85 (allS (Or.inl (by simp)) (fun x q => nomatch q))
  have V88 : Arv Z T83.heap b kC .char N [(.int z0), (.int z1), (.int z2), (.int z3), (.int z4), (.int z5), (.int z6), (.int z7)] (.int (0 : Int32)) := V86
  refine E_aloadN X84 d_fill_68 rfl rfl (pc' := 69) rfl ?_
  refine E_bipush X84 (v := (8 : Int32)) d_fill_69 rfl (pc' := 71) rfl ?_
  refine E_bipush X84 (v := (8 : Int32)) d_fill_71 rfl (pc' := 73) rfl ?_
  refine E_iloadN X84 d_fill_73 rfl (pc' := 74) rfl ?_
  refine E_static X84 (rm := rm_at) d_fill_74 (hw _ (List.mem_of_getElem? (i := 7) rfl)) (hw _ (List.mem_of_getElem? (i := 8) rfl)) (hw _ (List.mem_of_getElem? (i := 5) rfl)) (hw _ (List.mem_of_getElem? (i := 9) rfl)) (by decide) (argsL := [(.int (8 : Int32)), (.int sd)]) (st := [(.int (8 : Int32)), (.ref b)]) rfl (ct_at l Z a0 hw G1 G3 OS 8 sd X84.old (by decide)) (lenOf (pd_17) rfl) rfl (by decide) (by decide) (by decide) (Nat.le_of_ble_eq_true rfl) (pc' := 77) rfl ?_
  intro T89 _ X90 hQ91
  obtain ⟨z8, rfl, e92, az8⟩ := hQ91
  have KK93 := own_keq KK87 e92
  rw [← e92] at V88
  show Ends p e below s Z _ _ _ T89 (mkF m 77 #[.val (.ref b), .val (.int sd)] [(.int z8), (.int (8 : Int32)), (.ref b)])
  refine E_castoreA X90 (y := z8) d_fill_77 (okc_nar az8) V88 ⟨by decide, Int32.lt_of_le_of_lt (by decide : (8 : Int32) ≤ 34) hN⟩ rfl gb (pc' := 78) rfl ?_
  intro T94 X95 K96 V97
  have KK98 := KK93.trans K96 (allS (Or.inl (by simp)) (fun x q => nomatch q))
  have V99 : Arv Z T94.heap b kC .char N [(.int z0), (.int z1), (.int z2), (.int z3), (.int z4), (.int z5), (.int z6), (.int z7), (.int z8)] (.int (0 : Int32)) := V97
  refine E_aloadN X95 d_fill_78 rfl rfl (pc' := 79) rfl ?_
  refine E_bipush X95 (v := (9 : Int32)) d_fill_79 rfl (pc' := 81) rfl ?_
  refine E_bipush X95 (v := (9 : Int32)) d_fill_81 rfl (pc' := 83) rfl ?_
  refine E_iloadN X95 d_fill_83 rfl (pc' := 84) rfl ?_
  refine E_static X95 (rm := rm_at) d_fill_84 (hw _ (List.mem_of_getElem? (i := 7) rfl)) (hw _ (List.mem_of_getElem? (i := 8) rfl)) (hw _ (List.mem_of_getElem? (i := 5) rfl)) (hw _ (List.mem_of_getElem? (i := 9) rfl)) (by decide) (argsL := [(.int (9 : Int32)), (.int sd)]) (st := [(.int (9 : Int32)), (.ref b)]) rfl (ct_at l Z a0 hw G1 G3 OS 9 sd X95.old (by decide)) (lenOf (pd_17) rfl) rfl (by decide) (by decide) (by decide) (Nat.le_of_ble_eq_true rfl) (pc' := 87) rfl ?_
  intro T100 _ X101 hQ102
  obtain ⟨z9, rfl, e103, az9⟩ := hQ102
  have KK104 := own_keq KK98 e103
  rw [← e103] at V99
  show Ends p e below s Z _ _ _ T100 (mkF m 87 #[.val (.ref b), .val (.int sd)] [(.int z9), (.int (9 : Int32)), (.ref b)])
  refine E_castoreA X101 (y := z9) d_fill_87 (okc_nar az9) V99 ⟨by decide, Int32.lt_of_le_of_lt (by decide : (9 : Int32) ≤ 34) hN⟩ rfl gb (pc' := 88) rfl ?_
  intro T105 X106 K107 V108
  have KK109 := KK104.trans K107 (allS (Or.inl (by simp)) (fun x q => nomatch q))
  have V110 : Arv Z T105.heap b kC .char N [(.int z0), (.int z1), (.int z2), (.int z3), (.int z4), (.int z5), (.int z6), (.int z7), (.int z8), (.int z9)] (.int (0 : Int32)) := V108
  refine E_aloadN X106 d_fill_88 rfl rfl (pc' := 89) rfl ?_
  refine E_bipush X106 (v := (10 : Int32)) d_fill_89 rfl (pc' := 91) rfl ?_
  refine E_bipush X106 (v := (10 : Int32)) d_fill_91 rfl (pc' := 93) rfl ?_
  refine E_iloadN X106 d_fill_93 rfl (pc' := 94) rfl ?_
  refine E_static X106 (rm := rm_at) d_fill_94 (hw _ (List.mem_of_getElem? (i := 7) rfl)) (hw _ (List.mem_of_getElem? (i := 8) rfl)) (hw _ (List.mem_of_getElem? (i := 5) rfl)) (hw _ (List.mem_of_getElem? (i := 9) rfl)) (by decide) (argsL := [(.int (10 : Int32)), (.int sd)]) (st := [(.int (10 : Int32)), (.ref b)]) rfl (ct_at l Z a0 hw G1 G3 OS 10 sd X106.old (by decide)) (lenOf (pd_17) rfl) rfl (by decide) (by decide) (by decide) (Nat.le_of_ble_eq_true rfl) (pc' := 97) rfl ?_
  intro T111 _ X112 hQ113
  obtain ⟨z10, rfl, e114, az10⟩ := hQ113
  have KK115 := own_keq KK109 e114
  rw [← e114] at V110
  show Ends p e below s Z _ _ _ T111 (mkF m 97 #[.val (.ref b), .val (.int sd)] [(.int z10), (.int (10 : Int32)), (.ref b)])
  refine E_castoreA X112 (y := z10) d_fill_97 (okc_nar az10) V110 ⟨by decide, Int32.lt_of_le_of_lt (by decide : (10 : Int32) ≤ 34) hN⟩ rfl gb (pc' := 98) rfl ?_
  intro T116 X117 K118 V119
  have KK120 := KK115.trans K118 (allS (Or.inl (by simp)) (fun x q => nomatch q))
  have V121 : Arv Z T116.heap b kC .char N [(.int z0), (.int z1), (.int z2), (.int z3), (.int z4), (.int z5), (.int z6), (.int z7), (.int z8), (.int z9), (.int z10)] (.int (0 : Int32)) := V119
  refine E_aloadN X117 d_fill_98 rfl rfl (pc' := 99) rfl ?_
  refine E_bipush X117 (v := (11 : Int32)) d_fill_99 rfl (pc' := 101) rfl ?_
  refine E_bipush X117 (v := (11 : Int32)) d_fill_101 rfl (pc' := 103) rfl ?_
  refine E_iloadN X117 d_fill_103 rfl (pc' := 104) rfl ?_
  refine E_static X117 (rm := rm_at) d_fill_104 (hw _ (List.mem_of_getElem? (i := 7) rfl)) (hw _ (List.mem_of_getElem? (i := 8) rfl)) (hw _ (List.mem_of_getElem? (i := 5) rfl)) (hw _ (List.mem_of_getElem? (i := 9) rfl)) (by decide) (argsL := [(.int (11 : Int32)), (.int sd)]) (st := [(.int (11 : Int32)), (.ref b)]) rfl (ct_at l Z a0 hw G1 G3 OS 11 sd X117.old (by decide)) (lenOf (pd_17) rfl) rfl (by decide) (by decide) (by decide) (Nat.le_of_ble_eq_true rfl) (pc' := 107) rfl ?_
  intro T122 _ X123 hQ124
  obtain ⟨z11, rfl, e125, az11⟩ := hQ124
  have KK126 := own_keq KK120 e125
  rw [← e125] at V121
  show Ends p e below s Z _ _ _ T122 (mkF m 107 #[.val (.ref b), .val (.int sd)] [(.int z11), (.int (11 : Int32)), (.ref b)])
  refine E_castoreA X123 (y := z11) d_fill_107 (okc_nar az11) V121 ⟨by decide, Int32.lt_of_le_of_lt (by decide : (11 : Int32) ≤ 34) hN⟩ rfl gb (pc' := 108) rfl ?_
  intro T127 X128 K129 V130
  have KK131 := KK126.trans K129 (allS (Or.inl (by simp)) (fun x q => nomatch q))
  have V132 : Arv Z T127.heap b kC .char N [(.int z0), (.int z1), (.int z2), (.int z3), (.int z4), (.int z5), (.int z6), (.int z7), (.int z8), (.int z9), (.int z10), (.int z11)] (.int (0 : Int32)) := V130
  refine E_aloadN X128 d_fill_108 rfl rfl (pc' := 109) rfl ?_
  refine E_bipush X128 (v := (12 : Int32)) d_fill_109 rfl (pc' := 111) rfl ?_
  refine E_bipush X128 (v := (12 : Int32)) d_fill_111 rfl (pc' := 113) rfl ?_
  refine E_iloadN X128 d_fill_113 rfl (pc' := 114) rfl ?_
  refine E_static X128 (rm := rm_at) d_fill_114 (hw _ (List.mem_of_getElem? (i := 7) rfl)) (hw _ (List.mem_of_getElem? (i := 8) rfl)) (hw _ (List.mem_of_getElem? (i := 5) rfl)) (hw _ (List.mem_of_getElem? (i := 9) rfl)) (by decide) (argsL := [(.int (12 : Int32)), (.int sd)]) (st := [(.int (12 : Int32)), (.ref b)]) rfl (ct_at l Z a0 hw G1 G3 OS 12 sd X128.old (by decide)) (lenOf (pd_17) rfl) rfl (by decide) (by decide) (by decide) (Nat.le_of_ble_eq_true rfl) (pc' := 117) rfl ?_
  intro T133 _ X134 hQ135
  obtain ⟨z12, rfl, e136, az12⟩ := hQ135
  have KK137 := own_keq KK131 e136
  rw [← e136] at V132
  show Ends p e below s Z _ _ _ T133 (mkF m 117 #[.val (.ref b), .val (.int sd)] [(.int z12), (.int (12 : Int32)), (.ref b)])
  refine E_castoreA X134 (y := z12) d_fill_117 (okc_nar az12) V132 ⟨by decide, Int32.lt_of_le_of_lt (by decide : (12 : Int32) ≤ 34) hN⟩ rfl gb (pc' := 118) rfl ?_
  intro T138 X139 K140 V141
  have KK142 := KK137.trans K140 (allS (Or.inl (by simp)) (fun x q => nomatch q))
  have V143 : Arv Z T138.heap b kC .char N [(.int z0), (.int z1), (.int z2), (.int z3), (.int z4), (.int z5), (.int z6), (.int z7), (.int z8), (.int z9), (.int z10), (.int z11), (.int z12)] (.int (0 : Int32)) := V141
  refine E_aloadN X139 d_fill_118 rfl rfl (pc' := 119) rfl ?_
  refine E_bipush X139 (v := (13 : Int32)) d_fill_119 rfl (pc' := 121) rfl ?_
  refine E_bipush X139 (v := (13 : Int32)) d_fill_121 rfl (pc' := 123) rfl ?_
  refine E_iloadN X139 d_fill_123 rfl (pc' := 124) rfl ?_
  refine E_static X139 (rm := rm_at) d_fill_124 (hw _ (List.mem_of_getElem? (i := 7) rfl)) (hw _ (List.mem_of_getElem? (i := 8) rfl)) (hw _ (List.mem_of_getElem? (i := 5) rfl)) (hw _ (List.mem_of_getElem? (i := 9) rfl)) (by decide) (argsL := [(.int (13 : Int32)), (.int sd)]) (st := [(.int (13 : Int32)), (.ref b)]) rfl (ct_at l Z a0 hw G1 G3 OS 13 sd X139.old (by decide)) (lenOf (pd_17) rfl) rfl (by decide) (by decide) (by decide) (Nat.le_of_ble_eq_true rfl) (pc' := 127) rfl ?_
  intro T144 _ X145 hQ146
  obtain ⟨z13, rfl, e147, az13⟩ := hQ146
  have KK148 := own_keq KK142 e147
  rw [← e147] at V143
  show Ends p e below s Z _ _ _ T144 (mkF m 127 #[.val (.ref b), .val (.int sd)] [(.int z13), (.int (13 : Int32)), (.ref b)])
  refine E_castoreA X145 (y := z13) d_fill_127 (okc_nar az13) V143 ⟨by decide, Int32.lt_of_le_of_lt (by decide : (13 : Int32) ≤ 34) hN⟩ rfl gb (pc' := 128) rfl ?_
  intro T149 X150 K151 V152
  have KK153 := KK148.trans K151 (allS (Or.inl (by simp)) (fun x q => nomatch q))
  have V154 : Arv Z T149.heap b kC .char N [(.int z0), (.int z1), (.int z2), (.int z3), (.int z4), (.int z5), (.int z6), (.int z7), (.int z8), (.int z9), (.int z10), (.int z11), (.int z12), (.int z13)] (.int (0 : Int32)) := V152
  refine E_aloadN X150 d_fill_128 rfl rfl (pc' := 129) rfl ?_
  refine E_bipush X150 (v := (14 : Int32)) d_fill_129 rfl (pc' := 131) rfl ?_
  refine E_bipush X150 (v := (14 : Int32)) d_fill_131 rfl (pc' := 133) rfl ?_
  refine E_iloadN X150 d_fill_133 rfl (pc' := 134) rfl ?_
  refine E_static X150 (rm := rm_at) d_fill_134 (hw _ (List.mem_of_getElem? (i := 7) rfl)) (hw _ (List.mem_of_getElem? (i := 8) rfl)) (hw _ (List.mem_of_getElem? (i := 5) rfl)) (hw _ (List.mem_of_getElem? (i := 9) rfl)) (by decide) (argsL := [(.int (14 : Int32)), (.int sd)]) (st := [(.int (14 : Int32)), (.ref b)]) rfl (ct_at l Z a0 hw G1 G3 OS 14 sd X150.old (by decide)) (lenOf (pd_17) rfl) rfl (by decide) (by decide) (by decide) (Nat.le_of_ble_eq_true rfl) (pc' := 137) rfl ?_
  intro T155 _ X156 hQ157
  obtain ⟨z14, rfl, e158, az14⟩ := hQ157
  have KK159 := own_keq KK153 e158
  rw [← e158] at V154
  show Ends p e below s Z _ _ _ T155 (mkF m 137 #[.val (.ref b), .val (.int sd)] [(.int z14), (.int (14 : Int32)), (.ref b)])
  refine E_castoreA X156 (y := z14) d_fill_137 (okc_nar az14) V154 ⟨by decide, Int32.lt_of_le_of_lt (by decide : (14 : Int32) ≤ 34) hN⟩ rfl gb (pc' := 138) rfl ?_
  intro T160 X161 K162 V163
  have KK164 := KK159.trans K162 (allS (Or.inl (by simp)) (fun x q => nomatch q))
  have V165 : Arv Z T160.heap b kC .char N [(.int z0), (.int z1), (.int z2), (.int z3), (.int z4), (.int z5), (.int z6), (.int z7), (.int z8), (.int z9), (.int z10), (.int z11), (.int z12), (.int z13), (.int z14)] (.int (0 : Int32)) := V163
  refine E_aloadN X161 d_fill_138 rfl rfl (pc' := 139) rfl ?_
  refine E_bipush X161 (v := (15 : Int32)) d_fill_139 rfl (pc' := 141) rfl ?_
  refine E_bipush X161 (v := (15 : Int32)) d_fill_141 rfl (pc' := 143) rfl ?_
  refine E_iloadN X161 d_fill_143 rfl (pc' := 144) rfl ?_
  refine E_static X161 (rm := rm_at) d_fill_144 (hw _ (List.mem_of_getElem? (i := 7) rfl)) (hw _ (List.mem_of_getElem? (i := 8) rfl)) (hw _ (List.mem_of_getElem? (i := 5) rfl)) (hw _ (List.mem_of_getElem? (i := 9) rfl)) (by decide) (argsL := [(.int (15 : Int32)), (.int sd)]) (st := [(.int (15 : Int32)), (.ref b)]) rfl (ct_at l Z a0 hw G1 G3 OS 15 sd X161.old (by decide)) (lenOf (pd_17) rfl) rfl (by decide) (by decide) (by decide) (Nat.le_of_ble_eq_true rfl) (pc' := 147) rfl ?_
  intro T166 _ X167 hQ168
  obtain ⟨z15, rfl, e169, az15⟩ := hQ168
  have KK170 := own_keq KK164 e169
  rw [← e169] at V165
  show Ends p e below s Z _ _ _ T166 (mkF m 147 #[.val (.ref b), .val (.int sd)] [(.int z15), (.int (15 : Int32)), (.ref b)])
  refine E_castoreA X167 (y := z15) d_fill_147 (okc_nar az15) V165 ⟨by decide, Int32.lt_of_le_of_lt (by decide : (15 : Int32) ≤ 34) hN⟩ rfl gb (pc' := 148) rfl ?_
  intro T171 X172 K173 V174
  have KK175 := KK170.trans K173 (allS (Or.inl (by simp)) (fun x q => nomatch q))
  have V176 : Arv Z T171.heap b kC .char N [(.int z0), (.int z1), (.int z2), (.int z3), (.int z4), (.int z5), (.int z6), (.int z7), (.int z8), (.int z9), (.int z10), (.int z11), (.int z12), (.int z13), (.int z14), (.int z15)] (.int (0 : Int32)) := V174
  refine E_aloadN X172 d_fill_148 rfl rfl (pc' := 149) rfl ?_
  refine E_bipush X172 (v := (16 : Int32)) d_fill_149 rfl (pc' := 151) rfl ?_
  refine E_bipush X172 (v := (16 : Int32)) d_fill_151 rfl (pc' := 153) rfl ?_
  refine E_iloadN X172 d_fill_153 rfl (pc' := 154) rfl ?_
  refine E_static X172 (rm := rm_at) d_fill_154 (hw _ (List.mem_of_getElem? (i := 7) rfl)) (hw _ (List.mem_of_getElem? (i := 8) rfl)) (hw _ (List.mem_of_getElem? (i := 5) rfl)) (hw _ (List.mem_of_getElem? (i := 9) rfl)) (by decide) (argsL := [(.int (16 : Int32)), (.int sd)]) (st := [(.int (16 : Int32)), (.ref b)]) rfl (ct_at l Z a0 hw G1 G3 OS 16 sd X172.old (by decide)) (lenOf (pd_17) rfl) rfl (by decide) (by decide) (by decide) (Nat.le_of_ble_eq_true rfl) (pc' := 157) rfl ?_
  intro T177 _ X178 hQ179
  obtain ⟨z16, rfl, e180, az16⟩ := hQ179
  have KK181 := own_keq KK175 e180
  rw [← e180] at V176
  show Ends p e below s Z _ _ _ T177 (mkF m 157 #[.val (.ref b), .val (.int sd)] [(.int z16), (.int (16 : Int32)), (.ref b)])
  refine E_castoreA X178 (y := z16) d_fill_157 (okc_nar az16) V176 ⟨by decide, Int32.lt_of_le_of_lt (by decide : (16 : Int32) ≤ 34) hN⟩ rfl gb (pc' := 158) rfl ?_
  intro T182 X183 K184 V185
  have KK186 := KK181.trans K184 (allS (Or.inl (by simp)) (fun x q => nomatch q))
  have V187 : Arv Z T182.heap b kC .char N [(.int z0), (.int z1), (.int z2), (.int z3), (.int z4), (.int z5), (.int z6), (.int z7), (.int z8), (.int z9), (.int z10), (.int z11), (.int z12), (.int z13), (.int z14), (.int z15), (.int z16)] (.int (0 : Int32)) := V185
  refine E_aloadN X183 d_fill_158 rfl rfl (pc' := 159) rfl ?_
  refine E_bipush X183 (v := (17 : Int32)) d_fill_159 rfl (pc' := 161) rfl ?_
  refine E_bipush X183 (v := (17 : Int32)) d_fill_161 rfl (pc' := 163) rfl ?_
  refine E_iloadN X183 d_fill_163 rfl (pc' := 164) rfl ?_
  refine E_static X183 (rm := rm_at) d_fill_164 (hw _ (List.mem_of_getElem? (i := 7) rfl)) (hw _ (List.mem_of_getElem? (i := 8) rfl)) (hw _ (List.mem_of_getElem? (i := 5) rfl)) (hw _ (List.mem_of_getElem? (i := 9) rfl)) (by decide) (argsL := [(.int (17 : Int32)), (.int sd)]) (st := [(.int (17 : Int32)), (.ref b)]) rfl (ct_at l Z a0 hw G1 G3 OS 17 sd X183.old (by decide)) (lenOf (pd_17) rfl) rfl (by decide) (by decide) (by decide) (Nat.le_of_ble_eq_true rfl) (pc' := 167) rfl ?_
  intro T188 _ X189 hQ190
  obtain ⟨z17, rfl, e191, az17⟩ := hQ190
  have KK192 := own_keq KK186 e191
  rw [← e191] at V187
  show Ends p e below s Z _ _ _ T188 (mkF m 167 #[.val (.ref b), .val (.int sd)] [(.int z17), (.int (17 : Int32)), (.ref b)])
  refine E_castoreA X189 (y := z17) d_fill_167 (okc_nar az17) V187 ⟨by decide, Int32.lt_of_le_of_lt (by decide : (17 : Int32) ≤ 34) hN⟩ rfl gb (pc' := 168) rfl ?_
  intro T193 X194 K195 V196
  have KK197 := KK192.trans K195 (allS (Or.inl (by simp)) (fun x q => nomatch q))
  have V198 : Arv Z T193.heap b kC .char N [(.int z0), (.int z1), (.int z2), (.int z3), (.int z4), (.int z5), (.int z6), (.int z7), (.int z8), (.int z9), (.int z10), (.int z11), (.int z12), (.int z13), (.int z14), (.int z15), (.int z16), (.int z17)] (.int (0 : Int32)) := V196
  refine E_aloadN X194 d_fill_168 rfl rfl (pc' := 169) rfl ?_
  refine E_bipush X194 (v := (18 : Int32)) d_fill_169 rfl (pc' := 171) rfl ?_
  refine E_bipush X194 (v := (18 : Int32)) d_fill_171 rfl (pc' := 173) rfl ?_
  refine E_iloadN X194 d_fill_173 rfl (pc' := 174) rfl ?_
  refine E_static X194 (rm := rm_at) d_fill_174 (hw _ (List.mem_of_getElem? (i := 7) rfl)) (hw _ (List.mem_of_getElem? (i := 8) rfl)) (hw _ (List.mem_of_getElem? (i := 5) rfl)) (hw _ (List.mem_of_getElem? (i := 9) rfl)) (by decide) (argsL := [(.int (18 : Int32)), (.int sd)]) (st := [(.int (18 : Int32)), (.ref b)]) rfl (ct_at l Z a0 hw G1 G3 OS 18 sd X194.old (by decide)) (lenOf (pd_17) rfl) rfl (by decide) (by decide) (by decide) (Nat.le_of_ble_eq_true rfl) (pc' := 177) rfl ?_
  intro T199 _ X200 hQ201
  obtain ⟨z18, rfl, e202, az18⟩ := hQ201
  have KK203 := own_keq KK197 e202
  rw [← e202] at V198
  show Ends p e below s Z _ _ _ T199 (mkF m 177 #[.val (.ref b), .val (.int sd)] [(.int z18), (.int (18 : Int32)), (.ref b)])
  refine E_castoreA X200 (y := z18) d_fill_177 (okc_nar az18) V198 ⟨by decide, Int32.lt_of_le_of_lt (by decide : (18 : Int32) ≤ 34) hN⟩ rfl gb (pc' := 178) rfl ?_
  intro T204 X205 K206 V207
  have KK208 := KK203.trans K206 (allS (Or.inl (by simp)) (fun x q => nomatch q))
  have V209 : Arv Z T204.heap b kC .char N [(.int z0), (.int z1), (.int z2), (.int z3), (.int z4), (.int z5), (.int z6), (.int z7), (.int z8), (.int z9), (.int z10), (.int z11), (.int z12), (.int z13), (.int z14), (.int z15), (.int z16), (.int z17), (.int z18)] (.int (0 : Int32)) := V207
  refine E_aloadN X205 d_fill_178 rfl rfl (pc' := 179) rfl ?_
  refine E_bipush X205 (v := (19 : Int32)) d_fill_179 rfl (pc' := 181) rfl ?_
  refine E_bipush X205 (v := (19 : Int32)) d_fill_181 rfl (pc' := 183) rfl ?_
  refine E_iloadN X205 d_fill_183 rfl (pc' := 184) rfl ?_
  refine E_static X205 (rm := rm_at) d_fill_184 (hw _ (List.mem_of_getElem? (i := 7) rfl)) (hw _ (List.mem_of_getElem? (i := 8) rfl)) (hw _ (List.mem_of_getElem? (i := 5) rfl)) (hw _ (List.mem_of_getElem? (i := 9) rfl)) (by decide) (argsL := [(.int (19 : Int32)), (.int sd)]) (st := [(.int (19 : Int32)), (.ref b)]) rfl (ct_at l Z a0 hw G1 G3 OS 19 sd X205.old (by decide)) (lenOf (pd_17) rfl) rfl (by decide) (by decide) (by decide) (Nat.le_of_ble_eq_true rfl) (pc' := 187) rfl ?_
  intro T210 _ X211 hQ212
  obtain ⟨z19, rfl, e213, az19⟩ := hQ212
  have KK214 := own_keq KK208 e213
  rw [← e213] at V209
  show Ends p e below s Z _ _ _ T210 (mkF m 187 #[.val (.ref b), .val (.int sd)] [(.int z19), (.int (19 : Int32)), (.ref b)])
  refine E_castoreA X211 (y := z19) d_fill_187 (okc_nar az19) V209 ⟨by decide, Int32.lt_of_le_of_lt (by decide : (19 : Int32) ≤ 34) hN⟩ rfl gb (pc' := 188) rfl ?_
  intro T215 X216 K217 V218
  have KK219 := KK214.trans K217 (allS (Or.inl (by simp)) (fun x q => nomatch q))
  have V220 : Arv Z T215.heap b kC .char N [(.int z0), (.int z1), (.int z2), (.int z3), (.int z4), (.int z5), (.int z6), (.int z7), (.int z8), (.int z9), (.int z10), (.int z11), (.int z12), (.int z13), (.int z14), (.int z15), (.int z16), (.int z17), (.int z18), (.int z19)] (.int (0 : Int32)) := V218
  refine E_aloadN X216 d_fill_188 rfl rfl (pc' := 189) rfl ?_
  refine E_bipush X216 (v := (20 : Int32)) d_fill_189 rfl (pc' := 191) rfl ?_
  refine E_bipush X216 (v := (20 : Int32)) d_fill_191 rfl (pc' := 193) rfl ?_
  refine E_iloadN X216 d_fill_193 rfl (pc' := 194) rfl ?_
  refine E_static X216 (rm := rm_at) d_fill_194 (hw _ (List.mem_of_getElem? (i := 7) rfl)) (hw _ (List.mem_of_getElem? (i := 8) rfl)) (hw _ (List.mem_of_getElem? (i := 5) rfl)) (hw _ (List.mem_of_getElem? (i := 9) rfl)) (by decide) (argsL := [(.int (20 : Int32)), (.int sd)]) (st := [(.int (20 : Int32)), (.ref b)]) rfl (ct_at l Z a0 hw G1 G3 OS 20 sd X216.old (by decide)) (lenOf (pd_17) rfl) rfl (by decide) (by decide) (by decide) (Nat.le_of_ble_eq_true rfl) (pc' := 197) rfl ?_
  intro T221 _ X222 hQ223
  obtain ⟨z20, rfl, e224, az20⟩ := hQ223
  have KK225 := own_keq KK219 e224
  rw [← e224] at V220
  show Ends p e below s Z _ _ _ T221 (mkF m 197 #[.val (.ref b), .val (.int sd)] [(.int z20), (.int (20 : Int32)), (.ref b)])
  refine E_castoreA X222 (y := z20) d_fill_197 (okc_nar az20) V220 ⟨by decide, Int32.lt_of_le_of_lt (by decide : (20 : Int32) ≤ 34) hN⟩ rfl gb (pc' := 198) rfl ?_
  intro T226 X227 K228 V229
  have KK230 := KK225.trans K228 (allS (Or.inl (by simp)) (fun x q => nomatch q))
  have V231 : Arv Z T226.heap b kC .char N [(.int z0), (.int z1), (.int z2), (.int z3), (.int z4), (.int z5), (.int z6), (.int z7), (.int z8), (.int z9), (.int z10), (.int z11), (.int z12), (.int z13), (.int z14), (.int z15), (.int z16), (.int z17), (.int z18), (.int z19), (.int z20)] (.int (0 : Int32)) := V229
  refine E_aloadN X227 d_fill_198 rfl rfl (pc' := 199) rfl ?_
  refine E_bipush X227 (v := (21 : Int32)) d_fill_199 rfl (pc' := 201) rfl ?_
  refine E_bipush X227 (v := (21 : Int32)) d_fill_201 rfl (pc' := 203) rfl ?_
  refine E_iloadN X227 d_fill_203 rfl (pc' := 204) rfl ?_
  refine E_static X227 (rm := rm_at) d_fill_204 (hw _ (List.mem_of_getElem? (i := 7) rfl)) (hw _ (List.mem_of_getElem? (i := 8) rfl)) (hw _ (List.mem_of_getElem? (i := 5) rfl)) (hw _ (List.mem_of_getElem? (i := 9) rfl)) (by decide) (argsL := [(.int (21 : Int32)), (.int sd)]) (st := [(.int (21 : Int32)), (.ref b)]) rfl (ct_at l Z a0 hw G1 G3 OS 21 sd X227.old (by decide)) (lenOf (pd_17) rfl) rfl (by decide) (by decide) (by decide) (Nat.le_of_ble_eq_true rfl) (pc' := 207) rfl ?_
  intro T232 _ X233 hQ234
  obtain ⟨z21, rfl, e235, az21⟩ := hQ234
  have KK236 := own_keq KK230 e235
  rw [← e235] at V231
  show Ends p e below s Z _ _ _ T232 (mkF m 207 #[.val (.ref b), .val (.int sd)] [(.int z21), (.int (21 : Int32)), (.ref b)])
  refine E_castoreA X233 (y := z21) d_fill_207 (okc_nar az21) V231 ⟨by decide, Int32.lt_of_le_of_lt (by decide : (21 : Int32) ≤ 34) hN⟩ rfl gb (pc' := 208) rfl ?_
  intro T237 X238 K239 V240
  have KK241 := KK236.trans K239 (allS (Or.inl (by simp)) (fun x q => nomatch q))
  have V242 : Arv Z T237.heap b kC .char N [(.int z0), (.int z1), (.int z2), (.int z3), (.int z4), (.int z5), (.int z6), (.int z7), (.int z8), (.int z9), (.int z10), (.int z11), (.int z12), (.int z13), (.int z14), (.int z15), (.int z16), (.int z17), (.int z18), (.int z19), (.int z20), (.int z21)] (.int (0 : Int32)) := V240
  refine E_aloadN X238 d_fill_208 rfl rfl (pc' := 209) rfl ?_
  refine E_bipush X238 (v := (22 : Int32)) d_fill_209 rfl (pc' := 211) rfl ?_
  refine E_bipush X238 (v := (22 : Int32)) d_fill_211 rfl (pc' := 213) rfl ?_
  refine E_iloadN X238 d_fill_213 rfl (pc' := 214) rfl ?_
  refine E_static X238 (rm := rm_at) d_fill_214 (hw _ (List.mem_of_getElem? (i := 7) rfl)) (hw _ (List.mem_of_getElem? (i := 8) rfl)) (hw _ (List.mem_of_getElem? (i := 5) rfl)) (hw _ (List.mem_of_getElem? (i := 9) rfl)) (by decide) (argsL := [(.int (22 : Int32)), (.int sd)]) (st := [(.int (22 : Int32)), (.ref b)]) rfl (ct_at l Z a0 hw G1 G3 OS 22 sd X238.old (by decide)) (lenOf (pd_17) rfl) rfl (by decide) (by decide) (by decide) (Nat.le_of_ble_eq_true rfl) (pc' := 217) rfl ?_
  intro T243 _ X244 hQ245
  obtain ⟨z22, rfl, e246, az22⟩ := hQ245
  have KK247 := own_keq KK241 e246
  rw [← e246] at V242
  show Ends p e below s Z _ _ _ T243 (mkF m 217 #[.val (.ref b), .val (.int sd)] [(.int z22), (.int (22 : Int32)), (.ref b)])
  refine E_castoreA X244 (y := z22) d_fill_217 (okc_nar az22) V242 ⟨by decide, Int32.lt_of_le_of_lt (by decide : (22 : Int32) ≤ 34) hN⟩ rfl gb (pc' := 218) rfl ?_
  intro T248 X249 K250 V251
  have KK252 := KK247.trans K250 (allS (Or.inl (by simp)) (fun x q => nomatch q))
  have V253 : Arv Z T248.heap b kC .char N [(.int z0), (.int z1), (.int z2), (.int z3), (.int z4), (.int z5), (.int z6), (.int z7), (.int z8), (.int z9), (.int z10), (.int z11), (.int z12), (.int z13), (.int z14), (.int z15), (.int z16), (.int z17), (.int z18), (.int z19), (.int z20), (.int z21), (.int z22)] (.int (0 : Int32)) := V251
  refine E_aloadN X249 d_fill_218 rfl rfl (pc' := 219) rfl ?_
  refine E_bipush X249 (v := (23 : Int32)) d_fill_219 rfl (pc' := 221) rfl ?_
  refine E_bipush X249 (v := (23 : Int32)) d_fill_221 rfl (pc' := 223) rfl ?_
  refine E_iloadN X249 d_fill_223 rfl (pc' := 224) rfl ?_
  refine E_static X249 (rm := rm_at) d_fill_224 (hw _ (List.mem_of_getElem? (i := 7) rfl)) (hw _ (List.mem_of_getElem? (i := 8) rfl)) (hw _ (List.mem_of_getElem? (i := 5) rfl)) (hw _ (List.mem_of_getElem? (i := 9) rfl)) (by decide) (argsL := [(.int (23 : Int32)), (.int sd)]) (st := [(.int (23 : Int32)), (.ref b)]) rfl (ct_at l Z a0 hw G1 G3 OS 23 sd X249.old (by decide)) (lenOf (pd_17) rfl) rfl (by decide) (by decide) (by decide) (Nat.le_of_ble_eq_true rfl) (pc' := 227) rfl ?_
  intro T254 _ X255 hQ256
  obtain ⟨z23, rfl, e257, az23⟩ := hQ256
  have KK258 := own_keq KK252 e257
  rw [← e257] at V253
  show Ends p e below s Z _ _ _ T254 (mkF m 227 #[.val (.ref b), .val (.int sd)] [(.int z23), (.int (23 : Int32)), (.ref b)])
  refine E_castoreA X255 (y := z23) d_fill_227 (okc_nar az23) V253 ⟨by decide, Int32.lt_of_le_of_lt (by decide : (23 : Int32) ≤ 34) hN⟩ rfl gb (pc' := 228) rfl ?_
  intro T259 X260 K261 V262
  have KK263 := KK258.trans K261 (allS (Or.inl (by simp)) (fun x q => nomatch q))
  have V264 : Arv Z T259.heap b kC .char N [(.int z0), (.int z1), (.int z2), (.int z3), (.int z4), (.int z5), (.int z6), (.int z7), (.int z8), (.int z9), (.int z10), (.int z11), (.int z12), (.int z13), (.int z14), (.int z15), (.int z16), (.int z17), (.int z18), (.int z19), (.int z20), (.int z21), (.int z22), (.int z23)] (.int (0 : Int32)) := V262
  refine E_aloadN X260 d_fill_228 rfl rfl (pc' := 229) rfl ?_
  refine E_bipush X260 (v := (24 : Int32)) d_fill_229 rfl (pc' := 231) rfl ?_
  refine E_bipush X260 (v := (24 : Int32)) d_fill_231 rfl (pc' := 233) rfl ?_
  refine E_iloadN X260 d_fill_233 rfl (pc' := 234) rfl ?_
  refine E_static X260 (rm := rm_at) d_fill_234 (hw _ (List.mem_of_getElem? (i := 7) rfl)) (hw _ (List.mem_of_getElem? (i := 8) rfl)) (hw _ (List.mem_of_getElem? (i := 5) rfl)) (hw _ (List.mem_of_getElem? (i := 9) rfl)) (by decide) (argsL := [(.int (24 : Int32)), (.int sd)]) (st := [(.int (24 : Int32)), (.ref b)]) rfl (ct_at l Z a0 hw G1 G3 OS 24 sd X260.old (by decide)) (lenOf (pd_17) rfl) rfl (by decide) (by decide) (by decide) (Nat.le_of_ble_eq_true rfl) (pc' := 237) rfl ?_
  intro T265 _ X266 hQ267
  obtain ⟨z24, rfl, e268, az24⟩ := hQ267
  have KK269 := own_keq KK263 e268
  rw [← e268] at V264
  show Ends p e below s Z _ _ _ T265 (mkF m 237 #[.val (.ref b), .val (.int sd)] [(.int z24), (.int (24 : Int32)), (.ref b)])
  refine E_castoreA X266 (y := z24) d_fill_237 (okc_nar az24) V264 ⟨by decide, Int32.lt_of_le_of_lt (by decide : (24 : Int32) ≤ 34) hN⟩ rfl gb (pc' := 238) rfl ?_
  intro T270 X271 K272 V273
  have KK274 := KK269.trans K272 (allS (Or.inl (by simp)) (fun x q => nomatch q))
  have V275 : Arv Z T270.heap b kC .char N [(.int z0), (.int z1), (.int z2), (.int z3), (.int z4), (.int z5), (.int z6), (.int z7), (.int z8), (.int z9), (.int z10), (.int z11), (.int z12), (.int z13), (.int z14), (.int z15), (.int z16), (.int z17), (.int z18), (.int z19), (.int z20), (.int z21), (.int z22), (.int z23), (.int z24)] (.int (0 : Int32)) := V273
  refine E_aloadN X271 d_fill_238 rfl rfl (pc' := 239) rfl ?_
  refine E_bipush X271 (v := (25 : Int32)) d_fill_239 rfl (pc' := 241) rfl ?_
  refine E_bipush X271 (v := (25 : Int32)) d_fill_241 rfl (pc' := 243) rfl ?_
  refine E_iloadN X271 d_fill_243 rfl (pc' := 244) rfl ?_
  refine E_static X271 (rm := rm_at) d_fill_244 (hw _ (List.mem_of_getElem? (i := 7) rfl)) (hw _ (List.mem_of_getElem? (i := 8) rfl)) (hw _ (List.mem_of_getElem? (i := 5) rfl)) (hw _ (List.mem_of_getElem? (i := 9) rfl)) (by decide) (argsL := [(.int (25 : Int32)), (.int sd)]) (st := [(.int (25 : Int32)), (.ref b)]) rfl (ct_at l Z a0 hw G1 G3 OS 25 sd X271.old (by decide)) (lenOf (pd_17) rfl) rfl (by decide) (by decide) (by decide) (Nat.le_of_ble_eq_true rfl) (pc' := 247) rfl ?_
  intro T276 _ X277 hQ278
  obtain ⟨z25, rfl, e279, az25⟩ := hQ278
  have KK280 := own_keq KK274 e279
  rw [← e279] at V275
  show Ends p e below s Z _ _ _ T276 (mkF m 247 #[.val (.ref b), .val (.int sd)] [(.int z25), (.int (25 : Int32)), (.ref b)])
  refine E_castoreA X277 (y := z25) d_fill_247 (okc_nar az25) V275 ⟨by decide, Int32.lt_of_le_of_lt (by decide : (25 : Int32) ≤ 34) hN⟩ rfl gb (pc' := 248) rfl ?_
  intro T281 X282 K283 V284
  have KK285 := KK280.trans K283 (allS (Or.inl (by simp)) (fun x q => nomatch q))
  have V286 : Arv Z T281.heap b kC .char N [(.int z0), (.int z1), (.int z2), (.int z3), (.int z4), (.int z5), (.int z6), (.int z7), (.int z8), (.int z9), (.int z10), (.int z11), (.int z12), (.int z13), (.int z14), (.int z15), (.int z16), (.int z17), (.int z18), (.int z19), (.int z20), (.int z21), (.int z22), (.int z23), (.int z24), (.int z25)] (.int (0 : Int32)) := V284
  refine E_aloadN X282 d_fill_248 rfl rfl (pc' := 249) rfl ?_
  refine E_bipush X282 (v := (26 : Int32)) d_fill_249 rfl (pc' := 251) rfl ?_
  refine E_bipush X282 (v := (26 : Int32)) d_fill_251 rfl (pc' := 253) rfl ?_
  refine E_iloadN X282 d_fill_253 rfl (pc' := 254) rfl ?_
  refine E_static X282 (rm := rm_at) d_fill_254 (hw _ (List.mem_of_getElem? (i := 7) rfl)) (hw _ (List.mem_of_getElem? (i := 8) rfl)) (hw _ (List.mem_of_getElem? (i := 5) rfl)) (hw _ (List.mem_of_getElem? (i := 9) rfl)) (by decide) (argsL := [(.int (26 : Int32)), (.int sd)]) (st := [(.int (26 : Int32)), (.ref b)]) rfl (ct_at l Z a0 hw G1 G3 OS 26 sd X282.old (by decide)) (lenOf (pd_17) rfl) rfl (by decide) (by decide) (by decide) (Nat.le_of_ble_eq_true rfl) (pc' := 257) rfl ?_
  intro T287 _ X288 hQ289
  obtain ⟨z26, rfl, e290, az26⟩ := hQ289
  have KK291 := own_keq KK285 e290
  rw [← e290] at V286
  show Ends p e below s Z _ _ _ T287 (mkF m 257 #[.val (.ref b), .val (.int sd)] [(.int z26), (.int (26 : Int32)), (.ref b)])
  refine E_castoreA X288 (y := z26) d_fill_257 (okc_nar az26) V286 ⟨by decide, Int32.lt_of_le_of_lt (by decide : (26 : Int32) ≤ 34) hN⟩ rfl gb (pc' := 258) rfl ?_
  intro T292 X293 K294 V295
  have KK296 := KK291.trans K294 (allS (Or.inl (by simp)) (fun x q => nomatch q))
  have V297 : Arv Z T292.heap b kC .char N [(.int z0), (.int z1), (.int z2), (.int z3), (.int z4), (.int z5), (.int z6), (.int z7), (.int z8), (.int z9), (.int z10), (.int z11), (.int z12), (.int z13), (.int z14), (.int z15), (.int z16), (.int z17), (.int z18), (.int z19), (.int z20), (.int z21), (.int z22), (.int z23), (.int z24), (.int z25), (.int z26)] (.int (0 : Int32)) := V295
  refine E_aloadN X293 d_fill_258 rfl rfl (pc' := 259) rfl ?_
  refine E_bipush X293 (v := (27 : Int32)) d_fill_259 rfl (pc' := 261) rfl ?_
  refine E_bipush X293 (v := (27 : Int32)) d_fill_261 rfl (pc' := 263) rfl ?_
  refine E_iloadN X293 d_fill_263 rfl (pc' := 264) rfl ?_
  refine E_static X293 (rm := rm_at) d_fill_264 (hw _ (List.mem_of_getElem? (i := 7) rfl)) (hw _ (List.mem_of_getElem? (i := 8) rfl)) (hw _ (List.mem_of_getElem? (i := 5) rfl)) (hw _ (List.mem_of_getElem? (i := 9) rfl)) (by decide) (argsL := [(.int (27 : Int32)), (.int sd)]) (st := [(.int (27 : Int32)), (.ref b)]) rfl (ct_at l Z a0 hw G1 G3 OS 27 sd X293.old (by decide)) (lenOf (pd_17) rfl) rfl (by decide) (by decide) (by decide) (Nat.le_of_ble_eq_true rfl) (pc' := 267) rfl ?_
  intro T298 _ X299 hQ300
  obtain ⟨z27, rfl, e301, az27⟩ := hQ300
  have KK302 := own_keq KK296 e301
  rw [← e301] at V297
  show Ends p e below s Z _ _ _ T298 (mkF m 267 #[.val (.ref b), .val (.int sd)] [(.int z27), (.int (27 : Int32)), (.ref b)])
  refine E_castoreA X299 (y := z27) d_fill_267 (okc_nar az27) V297 ⟨by decide, Int32.lt_of_le_of_lt (by decide : (27 : Int32) ≤ 34) hN⟩ rfl gb (pc' := 268) rfl ?_
  intro T303 X304 K305 V306
  have KK307 := KK302.trans K305 (allS (Or.inl (by simp)) (fun x q => nomatch q))
  have V308 : Arv Z T303.heap b kC .char N [(.int z0), (.int z1), (.int z2), (.int z3), (.int z4), (.int z5), (.int z6), (.int z7), (.int z8), (.int z9), (.int z10), (.int z11), (.int z12), (.int z13), (.int z14), (.int z15), (.int z16), (.int z17), (.int z18), (.int z19), (.int z20), (.int z21), (.int z22), (.int z23), (.int z24), (.int z25), (.int z26), (.int z27)] (.int (0 : Int32)) := V306
  refine E_aloadN X304 d_fill_268 rfl rfl (pc' := 269) rfl ?_
  refine E_bipush X304 (v := (28 : Int32)) d_fill_269 rfl (pc' := 271) rfl ?_
  refine E_bipush X304 (v := (28 : Int32)) d_fill_271 rfl (pc' := 273) rfl ?_
  refine E_iloadN X304 d_fill_273 rfl (pc' := 274) rfl ?_
  refine E_static X304 (rm := rm_at) d_fill_274 (hw _ (List.mem_of_getElem? (i := 7) rfl)) (hw _ (List.mem_of_getElem? (i := 8) rfl)) (hw _ (List.mem_of_getElem? (i := 5) rfl)) (hw _ (List.mem_of_getElem? (i := 9) rfl)) (by decide) (argsL := [(.int (28 : Int32)), (.int sd)]) (st := [(.int (28 : Int32)), (.ref b)]) rfl (ct_at l Z a0 hw G1 G3 OS 28 sd X304.old (by decide)) (lenOf (pd_17) rfl) rfl (by decide) (by decide) (by decide) (Nat.le_of_ble_eq_true rfl) (pc' := 277) rfl ?_
  intro T309 _ X310 hQ311
  obtain ⟨z28, rfl, e312, az28⟩ := hQ311
  have KK313 := own_keq KK307 e312
  rw [← e312] at V308
  show Ends p e below s Z _ _ _ T309 (mkF m 277 #[.val (.ref b), .val (.int sd)] [(.int z28), (.int (28 : Int32)), (.ref b)])
  refine E_castoreA X310 (y := z28) d_fill_277 (okc_nar az28) V308 ⟨by decide, Int32.lt_of_le_of_lt (by decide : (28 : Int32) ≤ 34) hN⟩ rfl gb (pc' := 278) rfl ?_
  intro T314 X315 K316 V317
  have KK318 := KK313.trans K316 (allS (Or.inl (by simp)) (fun x q => nomatch q))
  have V319 : Arv Z T314.heap b kC .char N [(.int z0), (.int z1), (.int z2), (.int z3), (.int z4), (.int z5), (.int z6), (.int z7), (.int z8), (.int z9), (.int z10), (.int z11), (.int z12), (.int z13), (.int z14), (.int z15), (.int z16), (.int z17), (.int z18), (.int z19), (.int z20), (.int z21), (.int z22), (.int z23), (.int z24), (.int z25), (.int z26), (.int z27), (.int z28)] (.int (0 : Int32)) := V317
  refine E_aloadN X315 d_fill_278 rfl rfl (pc' := 279) rfl ?_
  refine E_bipush X315 (v := (29 : Int32)) d_fill_279 rfl (pc' := 281) rfl ?_
  refine E_bipush X315 (v := (29 : Int32)) d_fill_281 rfl (pc' := 283) rfl ?_
  refine E_iloadN X315 d_fill_283 rfl (pc' := 284) rfl ?_
  refine E_static X315 (rm := rm_at) d_fill_284 (hw _ (List.mem_of_getElem? (i := 7) rfl)) (hw _ (List.mem_of_getElem? (i := 8) rfl)) (hw _ (List.mem_of_getElem? (i := 5) rfl)) (hw _ (List.mem_of_getElem? (i := 9) rfl)) (by decide) (argsL := [(.int (29 : Int32)), (.int sd)]) (st := [(.int (29 : Int32)), (.ref b)]) rfl (ct_at l Z a0 hw G1 G3 OS 29 sd X315.old (by decide)) (lenOf (pd_17) rfl) rfl (by decide) (by decide) (by decide) (Nat.le_of_ble_eq_true rfl) (pc' := 287) rfl ?_
  intro T320 _ X321 hQ322
  obtain ⟨z29, rfl, e323, az29⟩ := hQ322
  have KK324 := own_keq KK318 e323
  rw [← e323] at V319
  show Ends p e below s Z _ _ _ T320 (mkF m 287 #[.val (.ref b), .val (.int sd)] [(.int z29), (.int (29 : Int32)), (.ref b)])
  refine E_castoreA X321 (y := z29) d_fill_287 (okc_nar az29) V319 ⟨by decide, Int32.lt_of_le_of_lt (by decide : (29 : Int32) ≤ 34) hN⟩ rfl gb (pc' := 288) rfl ?_
  intro T325 X326 K327 V328
  have KK329 := KK324.trans K327 (allS (Or.inl (by simp)) (fun x q => nomatch q))
  have V330 : Arv Z T325.heap b kC .char N [(.int z0), (.int z1), (.int z2), (.int z3), (.int z4), (.int z5), (.int z6), (.int z7), (.int z8), (.int z9), (.int z10), (.int z11), (.int z12), (.int z13), (.int z14), (.int z15), (.int z16), (.int z17), (.int z18), (.int z19), (.int z20), (.int z21), (.int z22), (.int z23), (.int z24), (.int z25), (.int z26), (.int z27), (.int z28), (.int z29)] (.int (0 : Int32)) := V328
  refine E_aloadN X326 d_fill_288 rfl rfl (pc' := 289) rfl ?_
  refine E_bipush X326 (v := (30 : Int32)) d_fill_289 rfl (pc' := 291) rfl ?_
  refine E_bipush X326 (v := (30 : Int32)) d_fill_291 rfl (pc' := 293) rfl ?_
  refine E_iloadN X326 d_fill_293 rfl (pc' := 294) rfl ?_
  refine E_static X326 (rm := rm_at) d_fill_294 (hw _ (List.mem_of_getElem? (i := 7) rfl)) (hw _ (List.mem_of_getElem? (i := 8) rfl)) (hw _ (List.mem_of_getElem? (i := 5) rfl)) (hw _ (List.mem_of_getElem? (i := 9) rfl)) (by decide) (argsL := [(.int (30 : Int32)), (.int sd)]) (st := [(.int (30 : Int32)), (.ref b)]) rfl (ct_at l Z a0 hw G1 G3 OS 30 sd X326.old (by decide)) (lenOf (pd_17) rfl) rfl (by decide) (by decide) (by decide) (Nat.le_of_ble_eq_true rfl) (pc' := 297) rfl ?_
  intro T331 _ X332 hQ333
  obtain ⟨z30, rfl, e334, az30⟩ := hQ333
  have KK335 := own_keq KK329 e334
  rw [← e334] at V330
  show Ends p e below s Z _ _ _ T331 (mkF m 297 #[.val (.ref b), .val (.int sd)] [(.int z30), (.int (30 : Int32)), (.ref b)])
  refine E_castoreA X332 (y := z30) d_fill_297 (okc_nar az30) V330 ⟨by decide, Int32.lt_of_le_of_lt (by decide : (30 : Int32) ≤ 34) hN⟩ rfl gb (pc' := 298) rfl ?_
  intro T336 X337 K338 V339
  have KK340 := KK335.trans K338 (allS (Or.inl (by simp)) (fun x q => nomatch q))
  have V341 : Arv Z T336.heap b kC .char N [(.int z0), (.int z1), (.int z2), (.int z3), (.int z4), (.int z5), (.int z6), (.int z7), (.int z8), (.int z9), (.int z10), (.int z11), (.int z12), (.int z13), (.int z14), (.int z15), (.int z16), (.int z17), (.int z18), (.int z19), (.int z20), (.int z21), (.int z22), (.int z23), (.int z24), (.int z25), (.int z26), (.int z27), (.int z28), (.int z29), (.int z30)] (.int (0 : Int32)) := V339
  refine E_aloadN X337 d_fill_298 rfl rfl (pc' := 299) rfl ?_
  refine E_bipush X337 (v := (31 : Int32)) d_fill_299 rfl (pc' := 301) rfl ?_
  refine E_bipush X337 (v := (31 : Int32)) d_fill_301 rfl (pc' := 303) rfl ?_
  refine E_iloadN X337 d_fill_303 rfl (pc' := 304) rfl ?_
  refine E_static X337 (rm := rm_at) d_fill_304 (hw _ (List.mem_of_getElem? (i := 7) rfl)) (hw _ (List.mem_of_getElem? (i := 8) rfl)) (hw _ (List.mem_of_getElem? (i := 5) rfl)) (hw _ (List.mem_of_getElem? (i := 9) rfl)) (by decide) (argsL := [(.int (31 : Int32)), (.int sd)]) (st := [(.int (31 : Int32)), (.ref b)]) rfl (ct_at l Z a0 hw G1 G3 OS 31 sd X337.old (by decide)) (lenOf (pd_17) rfl) rfl (by decide) (by decide) (by decide) (Nat.le_of_ble_eq_true rfl) (pc' := 307) rfl ?_
  intro T342 _ X343 hQ344
  obtain ⟨z31, rfl, e345, az31⟩ := hQ344
  have KK346 := own_keq KK340 e345
  rw [← e345] at V341
  show Ends p e below s Z _ _ _ T342 (mkF m 307 #[.val (.ref b), .val (.int sd)] [(.int z31), (.int (31 : Int32)), (.ref b)])
  refine E_castoreA X343 (y := z31) d_fill_307 (okc_nar az31) V341 ⟨by decide, Int32.lt_of_le_of_lt (by decide : (31 : Int32) ≤ 34) hN⟩ rfl gb (pc' := 308) rfl ?_
  intro T347 X348 K349 V350
  have KK351 := KK346.trans K349 (allS (Or.inl (by simp)) (fun x q => nomatch q))
  have V352 : Arv Z T347.heap b kC .char N [(.int z0), (.int z1), (.int z2), (.int z3), (.int z4), (.int z5), (.int z6), (.int z7), (.int z8), (.int z9), (.int z10), (.int z11), (.int z12), (.int z13), (.int z14), (.int z15), (.int z16), (.int z17), (.int z18), (.int z19), (.int z20), (.int z21), (.int z22), (.int z23), (.int z24), (.int z25), (.int z26), (.int z27), (.int z28), (.int z29), (.int z30), (.int z31)] (.int (0 : Int32)) := V350
  refine E_aloadN X348 d_fill_308 rfl rfl (pc' := 309) rfl ?_
  refine E_bipush X348 (v := (32 : Int32)) d_fill_309 rfl (pc' := 311) rfl ?_
  refine E_bipush X348 (v := (32 : Int32)) d_fill_311 rfl (pc' := 313) rfl ?_
  refine E_iloadN X348 d_fill_313 rfl (pc' := 314) rfl ?_
  refine E_static X348 (rm := rm_at) d_fill_314 (hw _ (List.mem_of_getElem? (i := 7) rfl)) (hw _ (List.mem_of_getElem? (i := 8) rfl)) (hw _ (List.mem_of_getElem? (i := 5) rfl)) (hw _ (List.mem_of_getElem? (i := 9) rfl)) (by decide) (argsL := [(.int (32 : Int32)), (.int sd)]) (st := [(.int (32 : Int32)), (.ref b)]) rfl (ct_at l Z a0 hw G1 G3 OS 32 sd X348.old (by decide)) (lenOf (pd_17) rfl) rfl (by decide) (by decide) (by decide) (Nat.le_of_ble_eq_true rfl) (pc' := 317) rfl ?_
  intro T353 _ X354 hQ355
  obtain ⟨z32, rfl, e356, az32⟩ := hQ355
  have KK357 := own_keq KK351 e356
  rw [← e356] at V352
  show Ends p e below s Z _ _ _ T353 (mkF m 317 #[.val (.ref b), .val (.int sd)] [(.int z32), (.int (32 : Int32)), (.ref b)])
  refine E_castoreA X354 (y := z32) d_fill_317 (okc_nar az32) V352 ⟨by decide, Int32.lt_of_le_of_lt (by decide : (32 : Int32) ≤ 34) hN⟩ rfl gb (pc' := 318) rfl ?_
  intro T358 X359 K360 V361
  have KK362 := KK357.trans K360 (allS (Or.inl (by simp)) (fun x q => nomatch q))
  have V363 : Arv Z T358.heap b kC .char N [(.int z0), (.int z1), (.int z2), (.int z3), (.int z4), (.int z5), (.int z6), (.int z7), (.int z8), (.int z9), (.int z10), (.int z11), (.int z12), (.int z13), (.int z14), (.int z15), (.int z16), (.int z17), (.int z18), (.int z19), (.int z20), (.int z21), (.int z22), (.int z23), (.int z24), (.int z25), (.int z26), (.int z27), (.int z28), (.int z29), (.int z30), (.int z31), (.int z32)] (.int (0 : Int32)) := V361
  refine E_aloadN X359 d_fill_318 rfl rfl (pc' := 319) rfl ?_
  refine E_bipush X359 (v := (33 : Int32)) d_fill_319 rfl (pc' := 321) rfl ?_
  refine E_bipush X359 (v := (33 : Int32)) d_fill_321 rfl (pc' := 323) rfl ?_
  refine E_iloadN X359 d_fill_323 rfl (pc' := 324) rfl ?_
  refine E_static X359 (rm := rm_at) d_fill_324 (hw _ (List.mem_of_getElem? (i := 7) rfl)) (hw _ (List.mem_of_getElem? (i := 8) rfl)) (hw _ (List.mem_of_getElem? (i := 5) rfl)) (hw _ (List.mem_of_getElem? (i := 9) rfl)) (by decide) (argsL := [(.int (33 : Int32)), (.int sd)]) (st := [(.int (33 : Int32)), (.ref b)]) rfl (ct_at l Z a0 hw G1 G3 OS 33 sd X359.old (by decide)) (lenOf (pd_17) rfl) rfl (by decide) (by decide) (by decide) (Nat.le_of_ble_eq_true rfl) (pc' := 327) rfl ?_
  intro T364 _ X365 hQ366
  obtain ⟨z33, rfl, e367, az33⟩ := hQ366
  have KK368 := own_keq KK362 e367
  rw [← e367] at V363
  show Ends p e below s Z _ _ _ T364 (mkF m 327 #[.val (.ref b), .val (.int sd)] [(.int z33), (.int (33 : Int32)), (.ref b)])
  refine E_castoreA X365 (y := z33) d_fill_327 (okc_nar az33) V363 ⟨by decide, Int32.lt_of_le_of_lt (by decide : (33 : Int32) ≤ 34) hN⟩ rfl gb (pc' := 328) rfl ?_
  intro T369 X370 K371 V372
  have KK373 := KK368.trans K371 (allS (Or.inl (by simp)) (fun x q => nomatch q))
  have V374 : Arv Z T369.heap b kC .char N [(.int z0), (.int z1), (.int z2), (.int z3), (.int z4), (.int z5), (.int z6), (.int z7), (.int z8), (.int z9), (.int z10), (.int z11), (.int z12), (.int z13), (.int z14), (.int z15), (.int z16), (.int z17), (.int z18), (.int z19), (.int z20), (.int z21), (.int z22), (.int z23), (.int z24), (.int z25), (.int z26), (.int z27), (.int z28), (.int z29), (.int z30), (.int z31), (.int z32), (.int z33)] (.int (0 : Int32)) := V372
  refine E_aloadN X370 d_fill_328 rfl rfl (pc' := 329) rfl ?_
  refine E_bipush X370 (v := (34 : Int32)) d_fill_329 rfl (pc' := 331) rfl ?_
  refine E_bipush X370 (v := (34 : Int32)) d_fill_331 rfl (pc' := 333) rfl ?_
  refine E_iloadN X370 d_fill_333 rfl (pc' := 334) rfl ?_
  refine E_static X370 (rm := rm_at) d_fill_334 (hw _ (List.mem_of_getElem? (i := 7) rfl)) (hw _ (List.mem_of_getElem? (i := 8) rfl)) (hw _ (List.mem_of_getElem? (i := 5) rfl)) (hw _ (List.mem_of_getElem? (i := 9) rfl)) (by decide) (argsL := [(.int (34 : Int32)), (.int sd)]) (st := [(.int (34 : Int32)), (.ref b)]) rfl (ct_at l Z a0 hw G1 G3 OS 34 sd X370.old (by decide)) (lenOf (pd_17) rfl) rfl (by decide) (by decide) (by decide) (Nat.le_of_ble_eq_true rfl) (pc' := 337) rfl ?_
  intro T375 _ X376 hQ377
  obtain ⟨z34, rfl, e378, az34⟩ := hQ377
  have KK379 := own_keq KK373 e378
  rw [← e378] at V374
  show Ends p e below s Z _ _ _ T375 (mkF m 337 #[.val (.ref b), .val (.int sd)] [(.int z34), (.int (34 : Int32)), (.ref b)])
  refine E_castoreA X376 (y := z34) d_fill_337 (okc_nar az34) V374 ⟨by decide, Int32.lt_of_le_of_lt (by decide : (34 : Int32) ≤ 34) hN⟩ rfl gb (pc' := 338) rfl ?_
  intro T380 X381 K382 V383
  have KK384 := KK379.trans K382 (allS (Or.inl (by simp)) (fun x q => nomatch q))
  have V385 : Arv Z T380.heap b kC .char N [(.int z0), (.int z1), (.int z2), (.int z3), (.int z4), (.int z5), (.int z6), (.int z7), (.int z8), (.int z9), (.int z10), (.int z11), (.int z12), (.int z13), (.int z14), (.int z15), (.int z16), (.int z17), (.int z18), (.int z19), (.int z20), (.int z21), (.int z22), (.int z23), (.int z24), (.int z25), (.int z26), (.int z27), (.int z28), (.int z29), (.int z30), (.int z31), (.int z32), (.int z33), (.int z34)] (.int (0 : Int32)) := V383
  refine E_aloadN X381 d_fill_338 rfl rfl (pc' := 339) rfl ?_
  refine E_arraylength X381 d_fill_339 V385 (pc' := 340) rfl ?_
  refine E_bipush X381 (v := (35 : Int32)) d_fill_340 rfl (pc' := 342) rfl ?_
  by_cases hc342 : (35 : Int32) < N
  · skip
    refine E_icF X381 d_fill_342 (XT.ii_le_f hc342) (pc' := 345) rfl ?_
    refine E_aloadN X381 d_fill_345 rfl rfl (pc' := 346) rfl ?_
    refine E_bipush X381 (v := (35 : Int32)) d_fill_346 rfl (pc' := 348) rfl ?_
    refine E_bipush X381 (v := (35 : Int32)) d_fill_348 rfl (pc' := 350) rfl ?_
    refine E_iloadN X381 d_fill_350 rfl (pc' := 351) rfl ?_
    refine E_static X381 (rm := rm_at) d_fill_351 (hw _ (List.mem_of_getElem? (i := 7) rfl)) (hw _ (List.mem_of_getElem? (i := 8) rfl)) (hw _ (List.mem_of_getElem? (i := 5) rfl)) (hw _ (List.mem_of_getElem? (i := 9) rfl)) (by decide) (argsL := [(.int (35 : Int32)), (.int sd)]) (st := [(.int (35 : Int32)), (.ref b)]) rfl (ct_at l Z a0 hw G1 G3 OS 35 sd X381.old (by decide)) (lenOf (pd_17) rfl) rfl (by decide) (by decide) (by decide) (Nat.le_of_ble_eq_true rfl) (pc' := 354) rfl ?_
    intro T386 _ X387 hQ388
    obtain ⟨z35, rfl, e389, az35⟩ := hQ388
    have KK390 := own_keq KK384 e389
    rw [← e389] at V385
    show Ends p e below s Z _ _ _ T386 (mkF m 354 #[.val (.ref b), .val (.int sd)] [(.int z35), (.int (35 : Int32)), (.ref b)])
    refine E_castoreA X387 (y := z35) d_fill_354 (okc_nar az35) V385 ⟨by decide, hc342⟩ rfl gb (pc' := 355) rfl ?_
    intro T391 X392 K393 V394
    have KK395 := KK390.trans K393 (allS (Or.inl (by simp)) (fun x q => nomatch q))
    have V396 : Arv Z T391.heap b kC .char N [(.int z0), (.int z1), (.int z2), (.int z3), (.int z4), (.int z5), (.int z6), (.int z7), (.int z8), (.int z9), (.int z10), (.int z11), (.int z12), (.int z13), (.int z14), (.int z15), (.int z16), (.int z17), (.int z18), (.int z19), (.int z20), (.int z21), (.int z22), (.int z23), (.int z24), (.int z25), (.int z26), (.int z27), (.int z28), (.int z29), (.int z30), (.int z31), (.int z32), (.int z33), (.int z34), (.int z35)] (.int (0 : Int32)) := V394
    exact E_return X392 d_fill_355 rfl (by decide) (by decide) (⟨rfl, KK395, [z0, z1, z2, z3, z4, z5, z6, z7, z8, z9, z10, z11, z12, z13, z14, z15, z16, z17, z18, z19, z20, z21, z22, z23, z24, z25, z26, z27, z28, z29, z30, z31, z32, z33, z34, z35], (if_pos hc342).symm, ⟨az0, ⟨az1, ⟨az2, ⟨az3, ⟨az4, ⟨az5, ⟨az6, ⟨az7, ⟨az8, ⟨az9, ⟨az10, ⟨az11, ⟨az12, ⟨az13, ⟨az14, ⟨az15, ⟨az16, ⟨az17, ⟨az18, ⟨az19, ⟨az20, ⟨az21, ⟨az22, ⟨az23, ⟨az24, ⟨az25, ⟨az26, ⟨az27, ⟨az28, ⟨az29, ⟨az30, ⟨az31, ⟨az32, ⟨az33, ⟨az34, ⟨az35, trivial⟩⟩⟩⟩⟩⟩⟩⟩⟩⟩⟩⟩⟩⟩⟩⟩⟩⟩⟩⟩⟩⟩⟩⟩⟩⟩⟩⟩⟩⟩⟩⟩⟩⟩⟩⟩, V396⟩)
  · skip
    refine E_icT X381 d_fill_342 (XT.ii_le_t hc342) (pc' := 355) (by decide) rfl ?_
    exact E_return X381 d_fill_355 rfl (by decide) (by decide) (⟨rfl, KK384, [z0, z1, z2, z3, z4, z5, z6, z7, z8, z9, z10, z11, z12, z13, z14, z15, z16, z17, z18, z19, z20, z21, z22, z23, z24, z25, z26, z27, z28, z29, z30, z31, z32, z33, z34], (if_neg hc342).symm, ⟨az0, ⟨az1, ⟨az2, ⟨az3, ⟨az4, ⟨az5, ⟨az6, ⟨az7, ⟨az8, ⟨az9, ⟨az10, ⟨az11, ⟨az12, ⟨az13, ⟨az14, ⟨az15, ⟨az16, ⟨az17, ⟨az18, ⟨az19, ⟨az20, ⟨az21, ⟨az22, ⟨az23, ⟨az24, ⟨az25, ⟨az26, ⟨az27, ⟨az28, ⟨az29, ⟨az30, ⟨az31, ⟨az32, ⟨az33, ⟨az34, trivial⟩⟩⟩⟩⟩⟩⟩⟩⟩⟩⟩⟩⟩⟩⟩⟩⟩⟩⟩⟩⟩⟩⟩⟩⟩⟩⟩⟩⟩⟩⟩⟩⟩⟩⟩, V385⟩)
theorem d_wf_0 : decode prog_17_method_3_code 0 = .ok (.aload_n 0, 1) := by decide +kernel
theorem d_wf_1 : decode prog_17_method_3_code 1 = .ok (.invokevirtual 17, 3) := by decide +kernel
theorem d_wf_4 : decode prog_17_method_3_code 4 = .ok (.bipush 36, 2) := by decide +kernel
theorem d_wf_6 : decode prog_17_method_3_code 6 = .ok (.if_icmp .eq 5, 3) := by decide +kernel
theorem d_wf_9 : decode prog_17_method_3_code 9 = .ok (.iconst 0, 1) := by decide +kernel
theorem d_wf_10 : decode prog_17_method_3_code 10 = .ok (.ireturn, 1) := by decide +kernel
theorem d_wf_11 : decode prog_17_method_3_code 11 = .ok (.iconst 0, 1) := by decide +kernel
theorem d_wf_12 : decode prog_17_method_3_code 12 = .ok (.istore_n 1, 1) := by decide +kernel
theorem d_wf_13 : decode prog_17_method_3_code 13 = .ok (.iload_n 1, 1) := by decide +kernel
theorem d_wf_14 : decode prog_17_method_3_code 14 = .ok (.aload_n 0, 1) := by decide +kernel
theorem d_wf_15 : decode prog_17_method_3_code 15 = .ok (.invokevirtual 17, 3) := by decide +kernel
theorem d_wf_18 : decode prog_17_method_3_code 18 = .ok (.if_icmp .ge 76, 3) := by decide +kernel
theorem d_wf_21 : decode prog_17_method_3_code 21 = .ok (.aload_n 0, 1) := by decide +kernel
theorem d_wf_22 : decode prog_17_method_3_code 22 = .ok (.iload_n 1, 1) := by decide +kernel
theorem d_wf_23 : decode prog_17_method_3_code 23 = .ok (.invokevirtual 25, 3) := by decide +kernel
theorem d_wf_26 : decode prog_17_method_3_code 26 = .ok (.istore_n 2, 1) := by decide +kernel
theorem d_wf_27 : decode prog_17_method_3_code 27 = .ok (.iload_n 1, 1) := by decide +kernel
theorem d_wf_28 : decode prog_17_method_3_code 28 = .ok (.bipush 8, 2) := by decide +kernel
theorem d_wf_30 : decode prog_17_method_3_code 30 = .ok (.if_icmp .eq 21, 3) := by decide +kernel
theorem d_wf_33 : decode prog_17_method_3_code 33 = .ok (.iload_n 1, 1) := by decide +kernel
theorem d_wf_34 : decode prog_17_method_3_code 34 = .ok (.bipush 13, 2) := by decide +kernel
theorem d_wf_36 : decode prog_17_method_3_code 36 = .ok (.if_icmp .eq 15, 3) := by decide +kernel
theorem d_wf_39 : decode prog_17_method_3_code 39 = .ok (.iload_n 1, 1) := by decide +kernel
theorem d_wf_40 : decode prog_17_method_3_code 40 = .ok (.bipush 18, 2) := by decide +kernel
theorem d_wf_42 : decode prog_17_method_3_code 42 = .ok (.if_icmp .eq 9, 3) := by decide +kernel
theorem d_wf_45 : decode prog_17_method_3_code 45 = .ok (.iload_n 1, 1) := by decide +kernel
theorem d_wf_46 : decode prog_17_method_3_code 46 = .ok (.bipush 23, 2) := by decide +kernel
theorem d_wf_48 : decode prog_17_method_3_code 48 = .ok (.if_icmp .ne 7, 3) := by decide +kernel
theorem d_wf_51 : decode prog_17_method_3_code 51 = .ok (.iconst 1, 1) := by decide +kernel
theorem d_wf_52 : decode prog_17_method_3_code 52 = .ok (.goto 4, 3) := by decide +kernel
theorem d_wf_55 : decode prog_17_method_3_code 55 = .ok (.iconst 0, 1) := by decide +kernel
theorem d_wf_56 : decode prog_17_method_3_code 56 = .ok (.istore_n 3, 1) := by decide +kernel
theorem d_wf_57 : decode prog_17_method_3_code 57 = .ok (.iload_n 3, 1) := by decide +kernel
theorem d_wf_58 : decode prog_17_method_3_code 58 = .ok (.ifCond .eq 17, 3) := by decide +kernel
theorem d_wf_61 : decode prog_17_method_3_code 61 = .ok (.iload_n 2, 1) := by decide +kernel
theorem d_wf_62 : decode prog_17_method_3_code 62 = .ok (.bipush 45, 2) := by decide +kernel
theorem d_wf_64 : decode prog_17_method_3_code 64 = .ok (.if_icmp .ne 7, 3) := by decide +kernel
theorem d_wf_67 : decode prog_17_method_3_code 67 = .ok (.iconst 1, 1) := by decide +kernel
theorem d_wf_68 : decode prog_17_method_3_code 68 = .ok (.goto 11, 3) := by decide +kernel
theorem d_wf_71 : decode prog_17_method_3_code 71 = .ok (.iconst 0, 1) := by decide +kernel
theorem d_wf_72 : decode prog_17_method_3_code 72 = .ok (.goto 7, 3) := by decide +kernel
theorem d_wf_75 : decode prog_17_method_3_code 75 = .ok (.iload_n 2, 1) := by decide +kernel
theorem d_wf_76 : decode prog_17_method_3_code 76 = .ok (.invokestatic 29, 3) := by decide +kernel
theorem d_wf_79 : decode prog_17_method_3_code 79 = .ok (.istore 4, 2) := by decide +kernel
theorem d_wf_81 : decode prog_17_method_3_code 81 = .ok (.iload 4, 2) := by decide +kernel
theorem d_wf_83 : decode prog_17_method_3_code 83 = .ok (.ifCond .ne 5, 3) := by decide +kernel
theorem d_wf_86 : decode prog_17_method_3_code 86 = .ok (.iconst 0, 1) := by decide +kernel
theorem d_wf_87 : decode prog_17_method_3_code 87 = .ok (.ireturn, 1) := by decide +kernel
theorem d_wf_88 : decode prog_17_method_3_code 88 = .ok (.iinc 1 1, 3) := by decide +kernel
theorem d_wf_91 : decode prog_17_method_3_code 91 = .ok (.goto (-78), 3) := by decide +kernel
theorem d_wf_94 : decode prog_17_method_3_code 94 = .ok (.iconst 1, 1) := by decide +kernel
theorem d_wf_95 : decode prog_17_method_3_code 95 = .ok (.ireturn, 1) := by decide +kernel
abbrev rm_wf : Room := ({ frames := 5, cells := 0, slots := 0, locals := 66 } : Room)
def Q_wf (Z : State) (x t : Addr) (cs : List Int32) (h0 : Heap) (v : Option Value) (h : Heap) : Prop := ∃ z, v = some (.int z) ∧ h = h0 ∧ (Wf cs → z = 1) ∧ (¬ Wf cs → z = 0)
set_option maxRecDepth 65536 in
set_option maxHeartbeats 40000000 in
theorem lp_wf (l : Launch) (Z : State) (a0 : Array Value) (hw : ∀ d ∈ tables_1, d.before a0 Z = true) (G1 : Int32) (G3 : Value) (OS : Sts Z G1 G3) (x t : Addr) (cs : List Int32) {h0 : Heap} {p : Program} {e : Env} {s : State} {m : MethodId} {below : List Frame} {meth : Method} {c : Code} (k : Nat) : ∀ {T0 : State} (i : Nat) (o2 o3 o4 : Slot), Wk l Z rm_wf prog_17_method_3_code 5 (some .boolean) "com/example/detached_state/detachedstate/SessionIds" "isWellFormed" p e s m #[(.ref x)] below meth c T0 0 0 → (i + k = 36) → (cs.length = 36) → (T0.heap = h0) → (OStr Z T0.heap x t cs) → (∀ j, j < i → OkC j (cs.getD j 0)) → (o2 = .unset ∨ ∃ w, o2 = .val w ∧ w.category = 1) → (o3 = .unset ∨ ∃ w, o3 = .val w ∧ w.category = 1) → (o4 = .unset ∨ ∃ w, o4 = .val w ∧ w.category = 1) → Ends p e below s Z (Q_wf Z x t cs h0) rm_wf.cells rm_wf.slots T0 (mkF m 13 #[.val (.ref x), .val (.int (Int32.ofNat i)), o2, o3, o4] []) := by
  induction k with
  | zero =>
    intro T0 i o2 o3 o4 X0 hi hl eh S0 hall hone2 hone3 hone4
    have hik : i = 36 := by omega
    subst hik
    refine E_iloadN X0 d_wf_13 rfl (pc' := 14) rfl ?_
    refine E_aloadN X0 d_wf_14 rfl rfl (pc' := 15) rfl ?_
    refine E_virtual X0 (rm := rm_slen) (a := x) (D := "java/lang/String") d_wf_15 (hw _ (List.mem_of_getElem? (i := 55) rfl)) (hw _ (List.mem_of_getElem? (i := 56) rfl)) (hw _ (List.mem_of_getElem? (i := 58) rfl)) (hw _ (List.mem_of_getElem? (i := 57) rfl)) (notFace_of_selects (args := #[]) (mvT X0.hZ (hw _ (List.mem_of_getElem? (i := 58) rfl)))) (by decide) (OStr.exa S0) (hw _ (List.mem_of_getElem? (i := 24) rfl)) (hw _ (List.mem_of_getElem? (i := 59) rfl)) (argsL := []) (st := [(.int (Int32.ofNat 36))]) rfl (ct_slen l Z a0 hw G1 G3 OS x t cs X0.old S0) (lenOf (pd_18) rfl) rfl (by decide) (by decide) (by decide) (Nat.le_of_ble_eq_true rfl) (pc' := 18) rfl ?_
    intro T1 _ X2 hQ3
    obtain ⟨rfl, e4⟩ := hQ3
    rw [← e4] at S0
    show Ends p e below s Z _ _ _ T1 (mkF m 18 #[.val (.ref x), .val (.int (Int32.ofNat 36)), o2, o3, o4] [(.int (Int32.ofNat cs.length)), (.int (Int32.ofNat 36))])
    refine E_icT X2 d_wf_18 (XT.ii_ge_t (by rw [hl]; exact Int32.lt_irrefl)) (pc' := 94) (by decide) rfl ?_
    refine E_iconst X2 (v := (1 : Int32)) d_wf_94 rfl (pc' := 95) rfl ?_
    exact E_ireturnN X2 (t := .boolean) d_wf_95 rfl (by simp) (by decide) (by decide) (⟨_, rfl, (e4.trans eh), fun _ => rfl, fun q => absurd (⟨hl, hall⟩) q⟩)
  | succ k ih =>
    intro T0 i o2 o3 o4 X0 hi hl eh S0 hall hone2 hone3 hone4
    have hlt : i < cs.length := by omega
    obtain ⟨ch, hch⟩ : ∃ c, c = cs.getD i 0 := ⟨_, rfl⟩
    refine E_iloadN X0 d_wf_13 rfl (pc' := 14) rfl ?_
    refine E_aloadN X0 d_wf_14 rfl rfl (pc' := 15) rfl ?_
    refine E_virtual X0 (rm := rm_slen) (a := x) (D := "java/lang/String") d_wf_15 (hw _ (List.mem_of_getElem? (i := 55) rfl)) (hw _ (List.mem_of_getElem? (i := 56) rfl)) (hw _ (List.mem_of_getElem? (i := 58) rfl)) (hw _ (List.mem_of_getElem? (i := 57) rfl)) (notFace_of_selects (args := #[]) (mvT X0.hZ (hw _ (List.mem_of_getElem? (i := 58) rfl)))) (by decide) (OStr.exa S0) (hw _ (List.mem_of_getElem? (i := 24) rfl)) (hw _ (List.mem_of_getElem? (i := 59) rfl)) (argsL := []) (st := [(.int (Int32.ofNat i))]) rfl (ct_slen l Z a0 hw G1 G3 OS x t cs X0.old S0) (lenOf (pd_18) rfl) rfl (by decide) (by decide) (by decide) (Nat.le_of_ble_eq_true rfl) (pc' := 18) rfl ?_
    intro T1 _ X2 hQ3
    obtain ⟨rfl, e4⟩ := hQ3
    rw [← e4] at S0
    show Ends p e below s Z _ _ _ T1 (mkF m 18 #[.val (.ref x), .val (.int (Int32.ofNat i)), o2, o3, o4] [(.int (Int32.ofNat cs.length)), (.int (Int32.ofNat i))])
    refine E_icF X2 d_wf_18 (XT.ii_ge_f (by rw [hl]; exact o_lt (by omega) (by decide))) (pc' := 21) rfl ?_
    refine E_aloadN X2 d_wf_21 rfl rfl (pc' := 22) rfl ?_
    refine E_iloadN X2 d_wf_22 rfl (pc' := 23) rfl ?_
    refine E_virtual X2 (rm := rm_sch) (a := x) (D := "java/lang/String") d_wf_23 (hw _ (List.mem_of_getElem? (i := 65) rfl)) (hw _ (List.mem_of_getElem? (i := 66) rfl)) (hw _ (List.mem_of_getElem? (i := 68) rfl)) (hw _ (List.mem_of_getElem? (i := 67) rfl)) (notFace_of_selects (args := #[]) (mvT X2.hZ (hw _ (List.mem_of_getElem? (i := 68) rfl)))) (by decide) (OStr.exa S0) (hw _ (List.mem_of_getElem? (i := 24) rfl)) (hw _ (List.mem_of_getElem? (i := 69) rfl)) (argsL := [(.int (Int32.ofNat i))]) (st := []) rfl (ct_sch l Z a0 hw G1 G3 OS x t cs i X2.old S0 hlt) (lenOf (pd_15) rfl) rfl (by decide) (by decide) (by decide) (Nat.le_of_ble_eq_true rfl) (pc' := 26) rfl ?_
    intro T5 _ X6 hQ7
    rw [Q_sch, ← hch] at hQ7
    obtain ⟨rfl, e8⟩ := hQ7
    rw [← e8] at S0
    show Ends p e below s Z _ _ _ T5 (mkF m 26 #[.val (.ref x), .val (.int (Int32.ofNat i)), o2, o3, o4] [(.int ch)])
    refine E_istoreN X6 d_wf_26 (l' := #[.val (.ref x), .val (.int (Int32.ofNat i)), .val (.int ch), o3, o4]) (XS.store1 rfl hone2 rfl) (pc' := 27) rfl ?_
    refine E_iloadN X6 d_wf_27 rfl (pc' := 28) rfl ?_
    refine E_bipush X6 (v := (8 : Int32)) d_wf_28 rfl (pc' := 30) rfl ?_
    by_cases h30 : (Int32.ofNat i) = (8 : Int32)
    · skip
      refine E_icT X6 d_wf_30 (XT.ii_eq_t h30) (pc' := 51) (by decide) rfl ?_
      have qh30 : i = 8 := o_eqi (n := 8) (by omega) (by decide) h30
      have qd : Dsh i := by simp [Dsh, qh30]
      refine E_iconst X6 (v := (1 : Int32)) d_wf_51 rfl (pc' := 52) rfl ?_
      refine E_goto X6 d_wf_52 (pc' := 56) (by decide) rfl ?_
      refine E_istoreN X6 d_wf_56 (l' := #[.val (.ref x), .val (.int (Int32.ofNat i)), .val (.int ch), .val (.int (1 : Int32)), o4]) (XS.store1 rfl hone3 rfl) (pc' := 57) rfl ?_
      refine E_iloadN X6 d_wf_57 rfl (pc' := 58) rfl ?_
      refine E_ifF X6 d_wf_58 (XT.i0_eq_f (by decide)) (pc' := 61) rfl ?_
      refine E_iloadN X6 d_wf_61 rfl (pc' := 62) rfl ?_
      refine E_bipush X6 (v := (45 : Int32)) d_wf_62 rfl (pc' := 64) rfl ?_
      by_cases h64 : ch = (45 : Int32)
      · skip
        refine E_icF X6 d_wf_64 (XT.ii_ne_f h64) (pc' := 67) rfl ?_
        have hok : OkC i ch := Or.inl ⟨qd, h64⟩
        refine E_iconst X6 (v := (1 : Int32)) d_wf_67 rfl (pc' := 68) rfl ?_
        refine E_goto X6 d_wf_68 (pc' := 79) (by decide) rfl ?_
        refine E_istore X6 d_wf_79 (l' := #[.val (.ref x), .val (.int (Int32.ofNat i)), .val (.int ch), .val (.int (1 : Int32)), .val (.int (1 : Int32))]) (XS.store1 rfl hone4 rfl) (pc' := 81) rfl ?_
        refine E_iload X6 d_wf_81 rfl (pc' := 83) rfl ?_
        refine E_ifT X6 d_wf_83 (XT.i0_ne_t (by decide)) (pc' := 88) (by decide) rfl ?_
        refine E_iinc X6 (y := (Int32.ofNat (i + 1))) d_wf_88 o_add rfl (l' := #[.val (.ref x), .val (.int (Int32.ofNat (i + 1))), .val (.int ch), .val (.int (1 : Int32)), .val (.int (1 : Int32))]) rfl (pc' := 91) rfl ?_
        refine E_goto X6 d_wf_91 (pc' := 13) (by decide) rfl ?_
        exact ih (i + 1) (.val (.int ch)) (.val (.int (1 : Int32))) (.val (.int (1 : Int32))) X6 (by omega) hl (e8.trans (e4.trans eh)) S0 (fun j hj => by
            by_cases e : j = i
            · rw [e, ← hch]; exact hok
            · exact hall j (by omega)) (Or.inr ⟨_, rfl, rfl⟩) (Or.inr ⟨_, rfl, rfl⟩) (Or.inr ⟨_, rfl, rfl⟩)
      · skip
        refine E_icT X6 d_wf_64 (XT.ii_ne_t h64) (pc' := 71) (by decide) rfl ?_
        have hno : ¬ OkC i ch := fun q => by rcases q with q | q; exact h64 q.2; exact q.1 qd
        refine E_iconst X6 (v := (0 : Int32)) d_wf_71 rfl (pc' := 72) rfl ?_
        refine E_goto X6 d_wf_72 (pc' := 79) (by decide) rfl ?_
        refine E_istore X6 d_wf_79 (l' := #[.val (.ref x), .val (.int (Int32.ofNat i)), .val (.int ch), .val (.int (1 : Int32)), .val (.int (0 : Int32))]) (XS.store1 rfl hone4 rfl) (pc' := 81) rfl ?_
        refine E_iload X6 d_wf_81 rfl (pc' := 83) rfl ?_
        refine E_ifF X6 d_wf_83 (XT.i0_ne_f (by decide)) (pc' := 86) rfl ?_
        refine E_iconst X6 (v := (0 : Int32)) d_wf_86 rfl (pc' := 87) rfl ?_
        exact E_ireturnN X6 (t := .boolean) d_wf_87 rfl (by simp) (by decide) (by decide) (⟨_, rfl, (e8.trans (e4.trans eh)), fun q => absurd q (fun q : Wf cs => hno (hch ▸ q.2 i (by omega))), fun _ => rfl⟩)
    · skip
      refine E_icF X6 d_wf_30 (XT.ii_eq_f h30) (pc' := 33) rfl ?_
      have qh30 : ¬ i = 8 := fun q => h30 (by rw [q]; rfl)
      refine E_iloadN X6 d_wf_33 rfl (pc' := 34) rfl ?_
      refine E_bipush X6 (v := (13 : Int32)) d_wf_34 rfl (pc' := 36) rfl ?_
      by_cases h36 : (Int32.ofNat i) = (13 : Int32)
      · skip
        refine E_icT X6 d_wf_36 (XT.ii_eq_t h36) (pc' := 51) (by decide) rfl ?_
        have qh36 : i = 13 := o_eqi (n := 13) (by omega) (by decide) h36
        have qd : Dsh i := by simp [Dsh, qh36]
        refine E_iconst X6 (v := (1 : Int32)) d_wf_51 rfl (pc' := 52) rfl ?_
        refine E_goto X6 d_wf_52 (pc' := 56) (by decide) rfl ?_
        refine E_istoreN X6 d_wf_56 (l' := #[.val (.ref x), .val (.int (Int32.ofNat i)), .val (.int ch), .val (.int (1 : Int32)), o4]) (XS.store1 rfl hone3 rfl) (pc' := 57) rfl ?_
        refine E_iloadN X6 d_wf_57 rfl (pc' := 58) rfl ?_
        refine E_ifF X6 d_wf_58 (XT.i0_eq_f (by decide)) (pc' := 61) rfl ?_
        refine E_iloadN X6 d_wf_61 rfl (pc' := 62) rfl ?_
        refine E_bipush X6 (v := (45 : Int32)) d_wf_62 rfl (pc' := 64) rfl ?_
        by_cases h64 : ch = (45 : Int32)
        · skip
          refine E_icF X6 d_wf_64 (XT.ii_ne_f h64) (pc' := 67) rfl ?_
          have hok : OkC i ch := Or.inl ⟨qd, h64⟩
          refine E_iconst X6 (v := (1 : Int32)) d_wf_67 rfl (pc' := 68) rfl ?_
          refine E_goto X6 d_wf_68 (pc' := 79) (by decide) rfl ?_
          refine E_istore X6 d_wf_79 (l' := #[.val (.ref x), .val (.int (Int32.ofNat i)), .val (.int ch), .val (.int (1 : Int32)), .val (.int (1 : Int32))]) (XS.store1 rfl hone4 rfl) (pc' := 81) rfl ?_
          refine E_iload X6 d_wf_81 rfl (pc' := 83) rfl ?_
          refine E_ifT X6 d_wf_83 (XT.i0_ne_t (by decide)) (pc' := 88) (by decide) rfl ?_
          refine E_iinc X6 (y := (Int32.ofNat (i + 1))) d_wf_88 o_add rfl (l' := #[.val (.ref x), .val (.int (Int32.ofNat (i + 1))), .val (.int ch), .val (.int (1 : Int32)), .val (.int (1 : Int32))]) rfl (pc' := 91) rfl ?_
          refine E_goto X6 d_wf_91 (pc' := 13) (by decide) rfl ?_
          exact ih (i + 1) (.val (.int ch)) (.val (.int (1 : Int32))) (.val (.int (1 : Int32))) X6 (by omega) hl (e8.trans (e4.trans eh)) S0 (fun j hj => by
              by_cases e : j = i
              · rw [e, ← hch]; exact hok
              · exact hall j (by omega)) (Or.inr ⟨_, rfl, rfl⟩) (Or.inr ⟨_, rfl, rfl⟩) (Or.inr ⟨_, rfl, rfl⟩)
        · skip
          refine E_icT X6 d_wf_64 (XT.ii_ne_t h64) (pc' := 71) (by decide) rfl ?_
          have hno : ¬ OkC i ch := fun q => by rcases q with q | q; exact h64 q.2; exact q.1 qd
          refine E_iconst X6 (v := (0 : Int32)) d_wf_71 rfl (pc' := 72) rfl ?_
          refine E_goto X6 d_wf_72 (pc' := 79) (by decide) rfl ?_
          refine E_istore X6 d_wf_79 (l' := #[.val (.ref x), .val (.int (Int32.ofNat i)), .val (.int ch), .val (.int (1 : Int32)), .val (.int (0 : Int32))]) (XS.store1 rfl hone4 rfl) (pc' := 81) rfl ?_
          refine E_iload X6 d_wf_81 rfl (pc' := 83) rfl ?_
          refine E_ifF X6 d_wf_83 (XT.i0_ne_f (by decide)) (pc' := 86) rfl ?_
          refine E_iconst X6 (v := (0 : Int32)) d_wf_86 rfl (pc' := 87) rfl ?_
          exact E_ireturnN X6 (t := .boolean) d_wf_87 rfl (by simp) (by decide) (by decide) (⟨_, rfl, (e8.trans (e4.trans eh)), fun q => absurd q (fun q : Wf cs => hno (hch ▸ q.2 i (by omega))), fun _ => rfl⟩)
      · skip
        refine E_icF X6 d_wf_36 (XT.ii_eq_f h36) (pc' := 39) rfl ?_
        have qh36 : ¬ i = 13 := fun q => h36 (by rw [q]; rfl)
        refine E_iloadN X6 d_wf_39 rfl (pc' := 40) rfl ?_
        refine E_bipush X6 (v := (18 : Int32)) d_wf_40 rfl (pc' := 42) rfl ?_
        by_cases h42 : (Int32.ofNat i) = (18 : Int32)
        · skip
          refine E_icT X6 d_wf_42 (XT.ii_eq_t h42) (pc' := 51) (by decide) rfl ?_
          have qh42 : i = 18 := o_eqi (n := 18) (by omega) (by decide) h42
          have qd : Dsh i := by simp [Dsh, qh42]
          refine E_iconst X6 (v := (1 : Int32)) d_wf_51 rfl (pc' := 52) rfl ?_
          refine E_goto X6 d_wf_52 (pc' := 56) (by decide) rfl ?_
          refine E_istoreN X6 d_wf_56 (l' := #[.val (.ref x), .val (.int (Int32.ofNat i)), .val (.int ch), .val (.int (1 : Int32)), o4]) (XS.store1 rfl hone3 rfl) (pc' := 57) rfl ?_
          refine E_iloadN X6 d_wf_57 rfl (pc' := 58) rfl ?_
          refine E_ifF X6 d_wf_58 (XT.i0_eq_f (by decide)) (pc' := 61) rfl ?_
          refine E_iloadN X6 d_wf_61 rfl (pc' := 62) rfl ?_
          refine E_bipush X6 (v := (45 : Int32)) d_wf_62 rfl (pc' := 64) rfl ?_
          by_cases h64 : ch = (45 : Int32)
          · skip
            refine E_icF X6 d_wf_64 (XT.ii_ne_f h64) (pc' := 67) rfl ?_
            have hok : OkC i ch := Or.inl ⟨qd, h64⟩
            refine E_iconst X6 (v := (1 : Int32)) d_wf_67 rfl (pc' := 68) rfl ?_
            refine E_goto X6 d_wf_68 (pc' := 79) (by decide) rfl ?_
            refine E_istore X6 d_wf_79 (l' := #[.val (.ref x), .val (.int (Int32.ofNat i)), .val (.int ch), .val (.int (1 : Int32)), .val (.int (1 : Int32))]) (XS.store1 rfl hone4 rfl) (pc' := 81) rfl ?_
            refine E_iload X6 d_wf_81 rfl (pc' := 83) rfl ?_
            refine E_ifT X6 d_wf_83 (XT.i0_ne_t (by decide)) (pc' := 88) (by decide) rfl ?_
            refine E_iinc X6 (y := (Int32.ofNat (i + 1))) d_wf_88 o_add rfl (l' := #[.val (.ref x), .val (.int (Int32.ofNat (i + 1))), .val (.int ch), .val (.int (1 : Int32)), .val (.int (1 : Int32))]) rfl (pc' := 91) rfl ?_
            refine E_goto X6 d_wf_91 (pc' := 13) (by decide) rfl ?_
            exact ih (i + 1) (.val (.int ch)) (.val (.int (1 : Int32))) (.val (.int (1 : Int32))) X6 (by omega) hl (e8.trans (e4.trans eh)) S0 (fun j hj => by
                by_cases e : j = i
                · rw [e, ← hch]; exact hok
                · exact hall j (by omega)) (Or.inr ⟨_, rfl, rfl⟩) (Or.inr ⟨_, rfl, rfl⟩) (Or.inr ⟨_, rfl, rfl⟩)
          · skip
            refine E_icT X6 d_wf_64 (XT.ii_ne_t h64) (pc' := 71) (by decide) rfl ?_
            have hno : ¬ OkC i ch := fun q => by rcases q with q | q; exact h64 q.2; exact q.1 qd
            refine E_iconst X6 (v := (0 : Int32)) d_wf_71 rfl (pc' := 72) rfl ?_
            refine E_goto X6 d_wf_72 (pc' := 79) (by decide) rfl ?_
            refine E_istore X6 d_wf_79 (l' := #[.val (.ref x), .val (.int (Int32.ofNat i)), .val (.int ch), .val (.int (1 : Int32)), .val (.int (0 : Int32))]) (XS.store1 rfl hone4 rfl) (pc' := 81) rfl ?_
            refine E_iload X6 d_wf_81 rfl (pc' := 83) rfl ?_
            refine E_ifF X6 d_wf_83 (XT.i0_ne_f (by decide)) (pc' := 86) rfl ?_
            refine E_iconst X6 (v := (0 : Int32)) d_wf_86 rfl (pc' := 87) rfl ?_
            exact E_ireturnN X6 (t := .boolean) d_wf_87 rfl (by simp) (by decide) (by decide) (⟨_, rfl, (e8.trans (e4.trans eh)), fun q => absurd q (fun q : Wf cs => hno (hch ▸ q.2 i (by omega))), fun _ => rfl⟩)
        · skip
          refine E_icF X6 d_wf_42 (XT.ii_eq_f h42) (pc' := 45) rfl ?_
          have qh42 : ¬ i = 18 := fun q => h42 (by rw [q]; rfl)
          refine E_iloadN X6 d_wf_45 rfl (pc' := 46) rfl ?_
          refine E_bipush X6 (v := (23 : Int32)) d_wf_46 rfl (pc' := 48) rfl ?_
          by_cases h48 : (Int32.ofNat i) = (23 : Int32)
          · skip
            refine E_icF X6 d_wf_48 (XT.ii_ne_f h48) (pc' := 51) rfl ?_
            have qh48 : i = 23 := o_eqi (n := 23) (by omega) (by decide) h48
            have qd : Dsh i := by simp [Dsh, qh48]
            refine E_iconst X6 (v := (1 : Int32)) d_wf_51 rfl (pc' := 52) rfl ?_
            refine E_goto X6 d_wf_52 (pc' := 56) (by decide) rfl ?_
            refine E_istoreN X6 d_wf_56 (l' := #[.val (.ref x), .val (.int (Int32.ofNat i)), .val (.int ch), .val (.int (1 : Int32)), o4]) (XS.store1 rfl hone3 rfl) (pc' := 57) rfl ?_
            refine E_iloadN X6 d_wf_57 rfl (pc' := 58) rfl ?_
            refine E_ifF X6 d_wf_58 (XT.i0_eq_f (by decide)) (pc' := 61) rfl ?_
            refine E_iloadN X6 d_wf_61 rfl (pc' := 62) rfl ?_
            refine E_bipush X6 (v := (45 : Int32)) d_wf_62 rfl (pc' := 64) rfl ?_
            by_cases h64 : ch = (45 : Int32)
            · skip
              refine E_icF X6 d_wf_64 (XT.ii_ne_f h64) (pc' := 67) rfl ?_
              have hok : OkC i ch := Or.inl ⟨qd, h64⟩
              refine E_iconst X6 (v := (1 : Int32)) d_wf_67 rfl (pc' := 68) rfl ?_
              refine E_goto X6 d_wf_68 (pc' := 79) (by decide) rfl ?_
              refine E_istore X6 d_wf_79 (l' := #[.val (.ref x), .val (.int (Int32.ofNat i)), .val (.int ch), .val (.int (1 : Int32)), .val (.int (1 : Int32))]) (XS.store1 rfl hone4 rfl) (pc' := 81) rfl ?_
              refine E_iload X6 d_wf_81 rfl (pc' := 83) rfl ?_
              refine E_ifT X6 d_wf_83 (XT.i0_ne_t (by decide)) (pc' := 88) (by decide) rfl ?_
              refine E_iinc X6 (y := (Int32.ofNat (i + 1))) d_wf_88 o_add rfl (l' := #[.val (.ref x), .val (.int (Int32.ofNat (i + 1))), .val (.int ch), .val (.int (1 : Int32)), .val (.int (1 : Int32))]) rfl (pc' := 91) rfl ?_
              refine E_goto X6 d_wf_91 (pc' := 13) (by decide) rfl ?_
              exact ih (i + 1) (.val (.int ch)) (.val (.int (1 : Int32))) (.val (.int (1 : Int32))) X6 (by omega) hl (e8.trans (e4.trans eh)) S0 (fun j hj => by
                  by_cases e : j = i
                  · rw [e, ← hch]; exact hok
                  · exact hall j (by omega)) (Or.inr ⟨_, rfl, rfl⟩) (Or.inr ⟨_, rfl, rfl⟩) (Or.inr ⟨_, rfl, rfl⟩)
            · skip
              refine E_icT X6 d_wf_64 (XT.ii_ne_t h64) (pc' := 71) (by decide) rfl ?_
              have hno : ¬ OkC i ch := fun q => by rcases q with q | q; exact h64 q.2; exact q.1 qd
              refine E_iconst X6 (v := (0 : Int32)) d_wf_71 rfl (pc' := 72) rfl ?_
              refine E_goto X6 d_wf_72 (pc' := 79) (by decide) rfl ?_
              refine E_istore X6 d_wf_79 (l' := #[.val (.ref x), .val (.int (Int32.ofNat i)), .val (.int ch), .val (.int (1 : Int32)), .val (.int (0 : Int32))]) (XS.store1 rfl hone4 rfl) (pc' := 81) rfl ?_
              refine E_iload X6 d_wf_81 rfl (pc' := 83) rfl ?_
              refine E_ifF X6 d_wf_83 (XT.i0_ne_f (by decide)) (pc' := 86) rfl ?_
              refine E_iconst X6 (v := (0 : Int32)) d_wf_86 rfl (pc' := 87) rfl ?_
              exact E_ireturnN X6 (t := .boolean) d_wf_87 rfl (by simp) (by decide) (by decide) (⟨_, rfl, (e8.trans (e4.trans eh)), fun q => absurd q (fun q : Wf cs => hno (hch ▸ q.2 i (by omega))), fun _ => rfl⟩)
          · skip
            refine E_icT X6 d_wf_48 (XT.ii_ne_t h48) (pc' := 55) (by decide) rfl ?_
            have qh48 : ¬ i = 23 := fun q => h48 (by rw [q]; rfl)
            have qd : ¬ Dsh i := by simp_all [Dsh]
            refine E_iconst X6 (v := (0 : Int32)) d_wf_55 rfl (pc' := 56) rfl ?_
            refine E_istoreN X6 d_wf_56 (l' := #[.val (.ref x), .val (.int (Int32.ofNat i)), .val (.int ch), .val (.int (0 : Int32)), o4]) (XS.store1 rfl hone3 rfl) (pc' := 57) rfl ?_
            refine E_iloadN X6 d_wf_57 rfl (pc' := 58) rfl ?_
            refine E_ifT X6 d_wf_58 (XT.i0_eq_t (by decide)) (pc' := 75) (by decide) rfl ?_
            refine E_iloadN X6 d_wf_75 rfl (pc' := 76) rfl ?_
            refine E_static X6 (rm := rm_hexd) d_wf_76 (hw _ (List.mem_of_getElem? (i := 87) rfl)) (hw _ (List.mem_of_getElem? (i := 88) rfl)) (hw _ (List.mem_of_getElem? (i := 53) rfl)) (hw _ (List.mem_of_getElem? (i := 89) rfl)) (by decide) (argsL := [(.int ch)]) (st := []) rfl (ct_hexd l Z a0 hw G1 G3 OS ch X6.old) (lenOf (pd_16) rfl) rfl (by decide) (by decide) (by decide) (Nat.le_of_ble_eq_true rfl) (pc' := 79) rfl ?_
            intro T10 _ X11 hQ12
            obtain ⟨z9, rfl, e13, yz9, nz9⟩ := hQ12
            rw [← e13] at S0
            by_cases hx : Hex ch
            · skip
              obtain rfl := yz9 hx
              have hok : OkC i ch := Or.inr ⟨qd, hx⟩
              show Ends p e below s Z _ _ _ T10 (mkF m 79 #[.val (.ref x), .val (.int (Int32.ofNat i)), .val (.int ch), .val (.int (0 : Int32)), o4] [(.int (1 : Int32))])
              refine E_istore X11 d_wf_79 (l' := #[.val (.ref x), .val (.int (Int32.ofNat i)), .val (.int ch), .val (.int (0 : Int32)), .val (.int (1 : Int32))]) (XS.store1 rfl hone4 rfl) (pc' := 81) rfl ?_
              refine E_iload X11 d_wf_81 rfl (pc' := 83) rfl ?_
              refine E_ifT X11 d_wf_83 (XT.i0_ne_t (by decide)) (pc' := 88) (by decide) rfl ?_
              refine E_iinc X11 (y := (Int32.ofNat (i + 1))) d_wf_88 o_add rfl (l' := #[.val (.ref x), .val (.int (Int32.ofNat (i + 1))), .val (.int ch), .val (.int (0 : Int32)), .val (.int (1 : Int32))]) rfl (pc' := 91) rfl ?_
              refine E_goto X11 d_wf_91 (pc' := 13) (by decide) rfl ?_
              exact ih (i + 1) (.val (.int ch)) (.val (.int (0 : Int32))) (.val (.int (1 : Int32))) X11 (by omega) hl (e13.trans (e8.trans (e4.trans eh))) S0 (fun j hj => by
                  by_cases e : j = i
                  · rw [e, ← hch]; exact hok
                  · exact hall j (by omega)) (Or.inr ⟨_, rfl, rfl⟩) (Or.inr ⟨_, rfl, rfl⟩) (Or.inr ⟨_, rfl, rfl⟩)
            · skip
              obtain rfl := nz9 hx
              have hno : ¬ OkC i ch := fun q => by rcases q with q | q; exact qd q.1; exact hx q.2
              show Ends p e below s Z _ _ _ T10 (mkF m 79 #[.val (.ref x), .val (.int (Int32.ofNat i)), .val (.int ch), .val (.int (0 : Int32)), o4] [(.int (0 : Int32))])
              refine E_istore X11 d_wf_79 (l' := #[.val (.ref x), .val (.int (Int32.ofNat i)), .val (.int ch), .val (.int (0 : Int32)), .val (.int (0 : Int32))]) (XS.store1 rfl hone4 rfl) (pc' := 81) rfl ?_
              refine E_iload X11 d_wf_81 rfl (pc' := 83) rfl ?_
              refine E_ifF X11 d_wf_83 (XT.i0_ne_f (by decide)) (pc' := 86) rfl ?_
              refine E_iconst X11 (v := (0 : Int32)) d_wf_86 rfl (pc' := 87) rfl ?_
              exact E_ireturnN X11 (t := .boolean) d_wf_87 rfl (by simp) (by decide) (by decide) (⟨_, rfl, (e13.trans (e8.trans (e4.trans eh))), fun q => absurd q (fun q : Wf cs => hno (hch ▸ q.2 i (by omega))), fun _ => rfl⟩)
set_option maxRecDepth 65536 in
set_option maxHeartbeats 40000000 in
theorem ct_wf (l : Launch) (Z : State) (a0 : Array Value) (hw : ∀ d ∈ tables_1, d.before a0 Z = true) (G1 : Int32) (G3 : Value) (OS : Sts Z G1 G3) (x t : Addr) (cs : List Int32) {h0 : Heap} (O : Ext Z.heap h0) (S0 : OStr Z h0 x t cs) : Ct l Z (⟨"com/example/detached_state/detachedstate/SessionIds", "isWellFormed", "(Ljava/lang/String;)Z"⟩ : MethodName) prog_17_method_3_code 5 (some .boolean) rm_wf #[(.ref x)] h0 (Q_wf Z x t cs h0) := by
  refine Ct.of_body (Ls := #[.val (.ref x), .unset, .unset, .unset, .unset]) (by decide +kernel) O (fun m => by first | rfl | (simp [entryFrame, mkF, argsToLocals, Value.category]; done) | (rcases ref_cases (Sts.ref OS) with rfl | ⟨r, rfl⟩ <;> rfl)) ?_
  intro p e s m below meth c T0 X0 e0
  subst e0
  refine E_aloadN X0 d_wf_0 rfl rfl (pc' := 1) rfl ?_
  refine E_virtual X0 (rm := rm_slen) (a := x) (D := "java/lang/String") d_wf_1 (hw _ (List.mem_of_getElem? (i := 55) rfl)) (hw _ (List.mem_of_getElem? (i := 56) rfl)) (hw _ (List.mem_of_getElem? (i := 58) rfl)) (hw _ (List.mem_of_getElem? (i := 57) rfl)) (notFace_of_selects (args := #[]) (mvT X0.hZ (hw _ (List.mem_of_getElem? (i := 58) rfl)))) (by decide) (OStr.exa S0) (hw _ (List.mem_of_getElem? (i := 24) rfl)) (hw _ (List.mem_of_getElem? (i := 59) rfl)) (argsL := []) (st := []) rfl (ct_slen l Z a0 hw G1 G3 OS x t cs X0.old S0) (lenOf (pd_18) rfl) rfl (by decide) (by decide) (by decide) (Nat.le_of_ble_eq_true rfl) (pc' := 4) rfl ?_
  intro T1 _ X2 hQ3
  obtain ⟨rfl, e4⟩ := hQ3
  rw [← e4] at S0
  show Ends p e below s Z _ _ _ T1 (mkF m 4 #[.val (.ref x), .unset, .unset, .unset, .unset] [(.int (Int32.ofNat cs.length))])
  refine E_bipush X2 (v := (36 : Int32)) d_wf_4 rfl (pc' := 6) rfl ?_
  by_cases h6 : (Int32.ofNat cs.length) = (36 : Int32)
  · skip
    refine E_icT X2 d_wf_6 (XT.ii_eq_t h6) (pc' := 11) (by decide) rfl ?_
    have ls : cs.length ≤ 4000 := by obtain ⟨_, _, _, _, _, _, _, _, _, _, q⟩ := S0; exact q
    have hl : cs.length = 36 := o_eqi (n := 36) (by omega) (by decide) h6
    refine E_iconst X2 (v := (0 : Int32)) d_wf_11 rfl (pc' := 12) rfl ?_
    refine E_istoreN X2 d_wf_12 (l' := #[.val (.ref x), .val (.int (0 : Int32)), .unset, .unset, .unset]) rfl (pc' := 13) rfl ?_
    exact lp_wf l Z a0 hw G1 G3 OS x t cs 36 0 .unset .unset .unset X2 (by omega) hl e4 S0 (fun j hj => absurd hj (Nat.not_lt_zero _)) (Or.inl rfl) (Or.inl rfl) (Or.inl rfl)
  · skip
    refine E_icF X2 d_wf_6 (XT.ii_eq_f h6) (pc' := 9) rfl ?_
    have ls : cs.length ≤ 4000 := by obtain ⟨_, _, _, _, _, _, _, _, _, _, q⟩ := S0; exact q
    have hl : ¬ cs.length = 36 := fun q => h6 (by rw [q]; rfl)
    refine E_iconst X2 (v := (0 : Int32)) d_wf_9 rfl (pc' := 10) rfl ?_
    exact E_ireturnN X2 (t := .boolean) d_wf_10 rfl (by simp) (by decide) (by decide) (⟨_, rfl, e4, fun q => absurd q (fun q => hl q.1), fun _ => rfl⟩)
set_option maxRecDepth 65536 in
set_option maxHeartbeats 40000000 in
theorem ct_law (l : Launch) (Z : State) (a0 : Array Value) (hw : ∀ d ∈ tables_1, d.before a0 Z = true) (p0 p1 p2 p3 p4 p5 : Int32) (G1 : Int32) (G3 : Value) (O : Ext Z.heap Z.heap) (OS : Sts Z G1 G3) : Ct l Z x code maxLocals ret room_1 #[(.int p0), (.int p1), (.int p2), (.int p3), (.int p4), (.int p5)] Z.heap (fun v _ => v = some (.int 1)) := by
  show Ct l Z (⟨"com/example/detached_state/detachedstate/SessionIdsIsWellFormedPinLaw", "law", "(IIIIII)Z"⟩ : MethodName) code 15 (some .boolean) ({ frames := 9, cells := 24, slots := 512, locals := 208 } : Room) _ _ _
  refine Ct.of_body (Ls := #[.val (.int p0), .val (.int p1), .val (.int p2), .val (.int p3), .val (.int p4), .val (.int p5), .unset, .unset, .unset, .unset, .unset, .unset, .unset, .unset, .unset]) (by decide +kernel) O (fun m => by first | rfl | (simp [entryFrame, mkF, argsToLocals, Value.category]; done) | (rcases ref_cases (Sts.ref OS) with rfl | ⟨r, rfl⟩ <;> rfl)) ?_
  intro p e s m below meth c T0 X0 e0
  obtain ⟨cc, hcc⟩ : ∃ z, z = (p3 &&& (65535 : Int32)).toUInt32.toUInt16.toUInt32.toInt32 := ⟨_, rfl⟩
  have bcc : ¬ cc < 0 ∧ ¬ (65535 : Int32) < cc := by rw [hcc]; exact c16_ok p3
  obtain ⟨dd, hdd⟩ : ∃ z, z = (p5 &&& (65535 : Int32)).toUInt32.toUInt16.toUInt32.toInt32 := ⟨_, rfl⟩
  have bdd : ¬ dd < 0 ∧ ¬ (65535 : Int32) < dd := by rw [hdd]; exact c16_ok p5
  obtain ⟨pp, hpp, hpp2⟩ := own_p p2
  obtain ⟨qq, hqq, hqq2⟩ := own_p p4
  refine E_iloadN X0 at_0 rfl (pc' := 1) rfl ?_
  refine E_iconst X0 (v := (3 : Int32)) at_1 rfl (pc' := 2) rfl ?_
  refine E_iand X0 at_2 rfl (pc' := 3) rfl ?_
  refine E_istore X0 at_3 (l' := #[.val (.int p0), .val (.int p1), .val (.int p2), .val (.int p3), .val (.int p4), .val (.int p5), .val (.int (p0 &&& (3 : Int32))), .unset, .unset, .unset, .unset, .unset, .unset, .unset, .unset]) rfl (pc' := 5) rfl ?_
  refine E_iloadN X0 at_5 rfl (pc' := 6) rfl ?_
  refine E_ldcI X0 (v := (65535 : Int32)) at_6 (hw _ (List.mem_of_getElem? (i := 0) rfl)) (pc' := 8) rfl ?_
  refine E_iand X0 at_8 rfl (pc' := 9) rfl ?_
  refine E_i2c X0 (v := cc) at_9 hcc.symm (pc' := 10) rfl ?_
  refine E_istore X0 at_10 (l' := #[.val (.int p0), .val (.int p1), .val (.int p2), .val (.int p3), .val (.int p4), .val (.int p5), .val (.int (p0 &&& (3 : Int32))), .val (.int cc), .unset, .unset, .unset, .unset, .unset, .unset, .unset]) rfl (pc' := 12) rfl ?_
  refine E_iload X0 at_12 rfl (pc' := 14) rfl ?_
  refine E_ldcI X0 (v := (65535 : Int32)) at_14 (hw _ (List.mem_of_getElem? (i := 0) rfl)) (pc' := 16) rfl ?_
  refine E_iand X0 at_16 rfl (pc' := 17) rfl ?_
  refine E_i2c X0 (v := dd) at_17 hdd.symm (pc' := 18) rfl ?_
  refine E_istore X0 at_18 (l' := #[.val (.int p0), .val (.int p1), .val (.int p2), .val (.int p3), .val (.int p4), .val (.int p5), .val (.int (p0 &&& (3 : Int32))), .val (.int cc), .val (.int dd), .unset, .unset, .unset, .unset, .unset, .unset]) rfl (pc' := 20) rfl ?_
  refine E_iloadN X0 at_20 rfl (pc' := 21) rfl ?_
  refine E_ldcI X0 (v := (2147483647 : Int32)) at_21 (hw _ (List.mem_of_getElem? (i := 1) rfl)) (pc' := 23) rfl ?_
  refine E_iand X0 at_23 rfl (pc' := 24) rfl ?_
  refine E_bipush X0 (v := (36 : Int32)) at_24 rfl (pc' := 26) rfl ?_
  refine E_irem X0 (v := (Int32.ofNat pp)) at_26 (by decide) hpp2 (pc' := 27) rfl ?_
  refine E_istore X0 at_27 (l' := #[.val (.int p0), .val (.int p1), .val (.int p2), .val (.int p3), .val (.int p4), .val (.int p5), .val (.int (p0 &&& (3 : Int32))), .val (.int cc), .val (.int dd), .val (.int (Int32.ofNat pp)), .unset, .unset, .unset, .unset, .unset]) rfl (pc' := 29) rfl ?_
  refine E_iload X0 at_29 rfl (pc' := 31) rfl ?_
  refine E_ldcI X0 (v := (2147483647 : Int32)) at_31 (hw _ (List.mem_of_getElem? (i := 1) rfl)) (pc' := 33) rfl ?_
  refine E_iand X0 at_33 rfl (pc' := 34) rfl ?_
  refine E_bipush X0 (v := (36 : Int32)) at_34 rfl (pc' := 36) rfl ?_
  refine E_irem X0 (v := (Int32.ofNat qq)) at_36 (by decide) hqq2 (pc' := 37) rfl ?_
  refine E_istore X0 at_37 (l' := #[.val (.int p0), .val (.int p1), .val (.int p2), .val (.int p3), .val (.int p4), .val (.int p5), .val (.int (p0 &&& (3 : Int32))), .val (.int cc), .val (.int dd), .val (.int (Int32.ofNat pp)), .val (.int (Int32.ofNat qq)), .unset, .unset, .unset, .unset]) rfl (pc' := 39) rfl ?_
  refine E_bipush X0 (v := (35 : Int32)) at_39 rfl (pc' := 41) rfl ?_
  refine E_newarray X0 35 at_41 (hw _ (List.mem_of_getElem? (i := 2) rfl)) (by decide) (by decide) (by decide) (by decide) (by decide) (pc' := 43) rfl ?_
  intro T1 b3 k7 X2 hb4 K5 V6
  have g8 : Z.heap.size ≤ b3 := Nat.le_trans X0.le (Nat.le_of_eq hb4.symm)
  have V9 : Arv Z T1.heap b3 k7 .char (35 : Int32) [(.int (0 : Int32)), (.int (0 : Int32)), (.int (0 : Int32)), (.int (0 : Int32)), (.int (0 : Int32)), (.int (0 : Int32)), (.int (0 : Int32)), (.int (0 : Int32)), (.int (0 : Int32)), (.int (0 : Int32)), (.int (0 : Int32)), (.int (0 : Int32)), (.int (0 : Int32)), (.int (0 : Int32)), (.int (0 : Int32)), (.int (0 : Int32)), (.int (0 : Int32)), (.int (0 : Int32)), (.int (0 : Int32)), (.int (0 : Int32)), (.int (0 : Int32)), (.int (0 : Int32)), (.int (0 : Int32)), (.int (0 : Int32)), (.int (0 : Int32)), (.int (0 : Int32)), (.int (0 : Int32)), (.int (0 : Int32)), (.int (0 : Int32)), (.int (0 : Int32)), (.int (0 : Int32)), (.int (0 : Int32)), (.int (0 : Int32)), (.int (0 : Int32)), (.int (0 : Int32))] (.int (0 : Int32)) := V6.pad (pad_rep [] (.int (0 : Int32)) 35)
  refine E_astore X2 at_43 rfl (l' := #[.val (.int p0), .val (.int p1), .val (.int p2), .val (.int p3), .val (.int p4), .val (.int p5), .val (.int (p0 &&& (3 : Int32))), .val (.int cc), .val (.int dd), .val (.int (Int32.ofNat pp)), .val (.int (Int32.ofNat qq)), .val (.ref b3), .unset, .unset, .unset]) rfl (pc' := 45) rfl ?_
  refine E_bipush X2 (v := (36 : Int32)) at_45 rfl (pc' := 47) rfl ?_
  refine E_newarray X2 36 at_47 (hw _ (List.mem_of_getElem? (i := 2) rfl)) (by decide) (by decide) (by decide) (by decide) (by decide) (pc' := 49) rfl ?_
  intro T10 b12 k16 X11 hb13 K14 V15
  have ne17 : b3 ≠ b12 := Nat.ne_of_lt (Nat.lt_of_lt_of_eq V9.lt hb13.symm)
  have Arv_18 := V9.keep K14 nin0
  have g19 : Z.heap.size ≤ b12 := Nat.le_trans X2.le (Nat.le_of_eq hb13.symm)
  have V20 : Arv Z T10.heap b12 k16 .char (36 : Int32) [(.int (0 : Int32)), (.int (0 : Int32)), (.int (0 : Int32)), (.int (0 : Int32)), (.int (0 : Int32)), (.int (0 : Int32)), (.int (0 : Int32)), (.int (0 : Int32)), (.int (0 : Int32)), (.int (0 : Int32)), (.int (0 : Int32)), (.int (0 : Int32)), (.int (0 : Int32)), (.int (0 : Int32)), (.int (0 : Int32)), (.int (0 : Int32)), (.int (0 : Int32)), (.int (0 : Int32)), (.int (0 : Int32)), (.int (0 : Int32)), (.int (0 : Int32)), (.int (0 : Int32)), (.int (0 : Int32)), (.int (0 : Int32)), (.int (0 : Int32)), (.int (0 : Int32)), (.int (0 : Int32)), (.int (0 : Int32)), (.int (0 : Int32)), (.int (0 : Int32)), (.int (0 : Int32)), (.int (0 : Int32)), (.int (0 : Int32)), (.int (0 : Int32)), (.int (0 : Int32)), (.int (0 : Int32))] (.int (0 : Int32)) := V15.pad (pad_rep [] (.int (0 : Int32)) 36)
  refine E_astore X11 at_49 rfl (l' := #[.val (.int p0), .val (.int p1), .val (.int p2), .val (.int p3), .val (.int p4), .val (.int p5), .val (.int (p0 &&& (3 : Int32))), .val (.int cc), .val (.int dd), .val (.int (Int32.ofNat pp)), .val (.int (Int32.ofNat qq)), .val (.ref b3), .val (.ref b12), .unset, .unset]) rfl (pc' := 51) rfl ?_
  refine E_bipush X11 (v := (37 : Int32)) at_51 rfl (pc' := 53) rfl ?_
  refine E_newarray X11 37 at_53 (hw _ (List.mem_of_getElem? (i := 2) rfl)) (by decide) (by decide) (by decide) (by decide) (by decide) (pc' := 55) rfl ?_
  intro T21 b23 k27 X22 hb24 K25 V26
  have ne28 : b3 ≠ b23 := Nat.ne_of_lt (Nat.lt_of_lt_of_eq Arv_18.lt hb24.symm)
  have ne29 : b12 ≠ b23 := Nat.ne_of_lt (Nat.lt_of_lt_of_eq V20.lt hb24.symm)
  have Arv_30 := Arv_18.keep K25 nin0
  have Arv_31 := V20.keep K25 nin0
  have g32 : Z.heap.size ≤ b23 := Nat.le_trans X11.le (Nat.le_of_eq hb24.symm)
  have V33 : Arv Z T21.heap b23 k27 .char (37 : Int32) [(.int (0 : Int32)), (.int (0 : Int32)), (.int (0 : Int32)), (.int (0 : Int32)), (.int (0 : Int32)), (.int (0 : Int32)), (.int (0 : Int32)), (.int (0 : Int32)), (.int (0 : Int32)), (.int (0 : Int32)), (.int (0 : Int32)), (.int (0 : Int32)), (.int (0 : Int32)), (.int (0 : Int32)), (.int (0 : Int32)), (.int (0 : Int32)), (.int (0 : Int32)), (.int (0 : Int32)), (.int (0 : Int32)), (.int (0 : Int32)), (.int (0 : Int32)), (.int (0 : Int32)), (.int (0 : Int32)), (.int (0 : Int32)), (.int (0 : Int32)), (.int (0 : Int32)), (.int (0 : Int32)), (.int (0 : Int32)), (.int (0 : Int32)), (.int (0 : Int32)), (.int (0 : Int32)), (.int (0 : Int32)), (.int (0 : Int32)), (.int (0 : Int32)), (.int (0 : Int32)), (.int (0 : Int32)), (.int (0 : Int32))] (.int (0 : Int32)) := V26.pad (pad_rep [] (.int (0 : Int32)) 37)
  refine E_astore X22 at_55 rfl (l' := #[.val (.int p0), .val (.int p1), .val (.int p2), .val (.int p3), .val (.int p4), .val (.int p5), .val (.int (p0 &&& (3 : Int32))), .val (.int cc), .val (.int dd), .val (.int (Int32.ofNat pp)), .val (.int (Int32.ofNat qq)), .val (.ref b3), .val (.ref b12), .val (.ref b23), .unset]) rfl (pc' := 57) rfl ?_
  refine E_aload X22 at_57 rfl rfl (pc' := 59) rfl ?_
  refine E_iloadN X22 at_59 rfl (pc' := 60) rfl ?_
  have Efl35 : Arv Z T21.heap b3 k7 .char (35 : Int32) [] (.int (0 : Int32)) := Arv_30.pad (fun i => (pad_rep [] (.int (0 : Int32)) 35 i).symm)
  refine E_static X22 (rm := rm_fill) at_60 (hw _ (List.mem_of_getElem? (i := 3) rfl)) (hw _ (List.mem_of_getElem? (i := 4) rfl)) (hw _ (List.mem_of_getElem? (i := 5) rfl)) (hw _ (List.mem_of_getElem? (i := 6) rfl)) (by decide) (argsL := [(.ref b3), (.int p1)]) (st := []) rfl (ct_fill l Z a0 hw G1 G3 OS b3 k7 (35 : Int32) p1 X22.old Efl35 (by decide) g8) (lenOf (pd_19) rfl) rfl (by decide) (by decide) (by decide) (Nat.le_of_ble_eq_true rfl) (pc' := 63) rfl ?_
  intro T34 _ X35 hQ36
  obtain ⟨rfl, K37, fl35, lfl35, ofl35, V38⟩ := hQ36
  replace lfl35 : fl35.length = 35 := lfl35
  have gfl35 : ∀ i, i < 35 → OkC i (fl35.getD i 0) := fun i hi => by have q := OkL.get ofl35 i (by omega); rwa [Nat.zero_add] at q
  have cfl35 := okl_ch (fun i hi => gfl35 i (by omega))
  have Arv_39 := Arv_31.keep K37 (ninS (Ne.symm ne17) nin0)
  have Arv_40 := V33.keep K37 (ninS (Ne.symm ne28) nin0)
  show Ends p e below s Z _ _ _ T34 (mkF m 63 #[.val (.int p0), .val (.int p1), .val (.int p2), .val (.int p3), .val (.int p4), .val (.int p5), .val (.int (p0 &&& (3 : Int32))), .val (.int cc), .val (.int dd), .val (.int (Int32.ofNat pp)), .val (.int (Int32.ofNat qq)), .val (.ref b3), .val (.ref b12), .val (.ref b23), .unset] [])
  refine E_aload X35 at_63 rfl rfl (pc' := 65) rfl ?_
  refine E_iloadN X35 at_65 rfl (pc' := 66) rfl ?_
  have Efl36 : Arv Z T34.heap b12 k16 .char (36 : Int32) [] (.int (0 : Int32)) := Arv_39.pad (fun i => (pad_rep [] (.int (0 : Int32)) 36 i).symm)
  refine E_static X35 (rm := rm_fill) at_66 (hw _ (List.mem_of_getElem? (i := 3) rfl)) (hw _ (List.mem_of_getElem? (i := 4) rfl)) (hw _ (List.mem_of_getElem? (i := 5) rfl)) (hw _ (List.mem_of_getElem? (i := 6) rfl)) (by decide) (argsL := [(.ref b12), (.int p1)]) (st := []) rfl (ct_fill l Z a0 hw G1 G3 OS b12 k16 (36 : Int32) p1 X35.old Efl36 (by decide) g19) (lenOf (pd_19) rfl) rfl (by decide) (by decide) (by decide) (Nat.le_of_ble_eq_true rfl) (pc' := 69) rfl ?_
  intro T41 _ X42 hQ43
  obtain ⟨rfl, K44, fl36, lfl36, ofl36, V45⟩ := hQ43
  replace lfl36 : fl36.length = 36 := lfl36
  have gfl36 : ∀ i, i < 36 → OkC i (fl36.getD i 0) := fun i hi => by have q := OkL.get ofl36 i (by omega); rwa [Nat.zero_add] at q
  have cfl36 := okl_ch (fun i hi => gfl36 i (by omega))
  have Arv_46 := Arv_40.keep K44 (ninS (Ne.symm ne29) nin0)
  have Arv_47 := V38.keep K44 (ninS ne17 nin0)
  show Ends p e below s Z _ _ _ T41 (mkF m 69 #[.val (.int p0), .val (.int p1), .val (.int p2), .val (.int p3), .val (.int p4), .val (.int p5), .val (.int (p0 &&& (3 : Int32))), .val (.int cc), .val (.int dd), .val (.int (Int32.ofNat pp)), .val (.int (Int32.ofNat qq)), .val (.ref b3), .val (.ref b12), .val (.ref b23), .unset] [])
  refine E_aload X42 at_69 rfl rfl (pc' := 71) rfl ?_
  refine E_iloadN X42 at_71 rfl (pc' := 72) rfl ?_
  have Efl37 : Arv Z T41.heap b23 k27 .char (37 : Int32) [] (.int (0 : Int32)) := Arv_46.pad (fun i => (pad_rep [] (.int (0 : Int32)) 37 i).symm)
  refine E_static X42 (rm := rm_fill) at_72 (hw _ (List.mem_of_getElem? (i := 3) rfl)) (hw _ (List.mem_of_getElem? (i := 4) rfl)) (hw _ (List.mem_of_getElem? (i := 5) rfl)) (hw _ (List.mem_of_getElem? (i := 6) rfl)) (by decide) (argsL := [(.ref b23), (.int p1)]) (st := []) rfl (ct_fill l Z a0 hw G1 G3 OS b23 k27 (37 : Int32) p1 X42.old Efl37 (by decide) g32) (lenOf (pd_19) rfl) rfl (by decide) (by decide) (by decide) (Nat.le_of_ble_eq_true rfl) (pc' := 75) rfl ?_
  intro T48 _ X49 hQ50
  obtain ⟨rfl, K51, fl37, lfl37, ofl37, V52⟩ := hQ50
  replace lfl37 : fl37.length = 36 := lfl37
  have gfl37 : ∀ i, i < 36 → OkC i (fl37.getD i 0) := fun i hi => by have q := OkL.get ofl37 i (by omega); rwa [Nat.zero_add] at q
  have cfl37 := okl_ch (fun i hi => gfl37 i (by omega))
  have Arv_53 := Arv_47.keep K51 (ninS ne28 nin0)
  have Arv_54 := V45.keep K51 (ninS ne29 nin0)
  show Ends p e below s Z _ _ _ T48 (mkF m 75 #[.val (.int p0), .val (.int p1), .val (.int p2), .val (.int p3), .val (.int p4), .val (.int p5), .val (.int (p0 &&& (3 : Int32))), .val (.int cc), .val (.int dd), .val (.int (Int32.ofNat pp)), .val (.int (Int32.ofNat qq)), .val (.ref b3), .val (.ref b12), .val (.ref b23), .unset] [])
  refine E_aload X49 at_75 rfl rfl (pc' := 77) rfl ?_
  refine E_bipush X49 (v := (36 : Int32)) at_77 rfl (pc' := 79) rfl ?_
  refine E_iload X49 at_79 rfl (pc' := 81) rfl ?_
  refine E_castoreA X49 (y := cc) at_81 (o_nar bcc.1 bcc.2) V52 ⟨by decide, by decide⟩ (by rw [List.length_map, lfl37]; rfl) g32 (pc' := 82) rfl ?_
  intro T55 X56 K57 V58
  have Arv_59 := Arv_53.keep K57 (ninS ne28 nin0)
  have Arv_60 := Arv_54.keep K57 (ninS ne29 nin0)
  have V61 : Arv Z T55.heap b23 k27 .char (37 : Int32) ((fl37 ++ [cc]).map Value.int) (.int (0 : Int32)) := (by have q := V58; rw [List.map_append]; exact q)
  refine E_iload X56 at_82 rfl (pc' := 84) rfl ?_
  refine E_iconst X56 (v := (1 : Int32)) at_84 rfl (pc' := 85) rfl ?_
  by_cases hm1 : (p0 &&& (3 : Int32)) = (1 : Int32)
  · skip
    refine E_icF X56 at_85 (XT.ii_ne_f hm1) (pc' := 88) rfl ?_
    refine E_new X56 at_88 (hw _ (List.mem_of_getElem? (i := 22) rfl)) (hw _ (List.mem_of_getElem? (i := 23) rfl)) (hw _ (List.mem_of_getElem? (i := 24) rfl)) (by decide) (by decide) (pc' := 91) rfl ?_
    intro T62 b64 X63 hb65 K66 E67 D68
    have ne69 : b3 ≠ b64 := Nat.ne_of_lt (Nat.lt_of_lt_of_eq Arv_59.lt hb65.symm)
    have ne70 : b12 ≠ b64 := Nat.ne_of_lt (Nat.lt_of_lt_of_eq Arv_60.lt hb65.symm)
    have ne71 : b23 ≠ b64 := Nat.ne_of_lt (Nat.lt_of_lt_of_eq V61.lt hb65.symm)
    have Arv_72 := Arv_59.keep K66 nin0
    have Arv_73 := Arv_60.keep K66 nin0
    have Arv_74 := V61.keep K66 nin0
    have g75 : Z.heap.size ≤ b64 := Nat.le_trans X56.le (Nat.le_of_eq hb65.symm)
    have F76 : Fld Z T62.heap b64 "java/lang/String" "coder" "B" (.int (0 : Int32)) := D68 (Or.inr (hw _ (List.mem_of_getElem? (i := 48) rfl))) (ty := .byte) (by decide)
    have F77 : Fld Z T62.heap b64 "java/lang/String" "value" "[B" .null := D68 (Or.inr (hw _ (List.mem_of_getElem? (i := 50) rfl))) (ty := (.array .byte)) (by decide)
    refine E_dup X63 at_91 rfl (pc' := 92) rfl ?_
    refine E_aload X63 at_92 rfl rfl (pc' := 94) rfl ?_
    have LG : ((fl37 ++ [cc])).length = 37 := by simp [lfl37]
    have VS78 : Arv Z T62.heap b23 k27 .char (Int32.ofNat ((fl37 ++ [cc])).length) (((fl37 ++ [cc])).map Value.int) (.int (0 : Int32)) := by rw [LG]; exact Arv_74
    refine E_special X63 (rm := rm_sinit) (a := b64) at_94 rfl rfl (hw _ (List.mem_of_getElem? (i := 25) rfl)) (hw _ (List.mem_of_getElem? (i := 26) rfl)) (hw _ (List.mem_of_getElem? (i := 27) rfl)) (by decide) (hw _ (List.mem_of_getElem? (i := 24) rfl)) (argsL := [(.ref b23)]) (st := [(.ref b64)]) rfl (ct_sinit l Z a0 hw G1 G3 OS b64 b23 k27 (fl37 ++ [cc]) (.int (0 : Int32)) .null (.int (0 : Int32)) X63.old (by rw [LG]; decide) (by rw [LG]; decide) (app_ch cfl37 bcc) E67 F77 F76 g75 VS78) (lenOf (pd_20) rfl) rfl (by decide) (by decide) (by decide) (Nat.le_of_ble_eq_true rfl) (pc' := 97) rfl ?_
    intro T79 _ X80 hQ81
    obtain ⟨rfl, K82, t83, sz84, S85⟩ := hQ81
    have ne86 : b3 ≠ t83 := Nat.ne_of_lt (Nat.lt_of_lt_of_le Arv_72.lt sz84)
    have ne87 : b12 ≠ t83 := Nat.ne_of_lt (Nat.lt_of_lt_of_le Arv_73.lt sz84)
    have ne88 : b23 ≠ t83 := Nat.ne_of_lt (Nat.lt_of_lt_of_le Arv_74.lt sz84)
    have ne89 : b64 ≠ t83 := Nat.ne_of_lt (Nat.lt_of_lt_of_le E67.lt sz84)
    have Arv_90 := Arv_72.keep K82 (ninS ne69 nin0)
    have Arv_91 := Arv_73.keep K82 (ninS ne70 nin0)
    have Arv_92 := Arv_74.keep K82 (ninS ne71 nin0)
    show Ends p e below s Z _ _ _ T79 (mkF m 97 #[.val (.int p0), .val (.int p1), .val (.int p2), .val (.int p3), .val (.int p4), .val (.int p5), .val (.int (p0 &&& (3 : Int32))), .val (.int cc), .val (.int dd), .val (.int (Int32.ofNat pp)), .val (.int (Int32.ofNat qq)), .val (.ref b3), .val (.ref b12), .val (.ref b23), .unset] [(.ref b64)])
    refine E_static X80 (rm := rm_wf) at_97 (hw _ (List.mem_of_getElem? (i := 51) rfl)) (hw _ (List.mem_of_getElem? (i := 52) rfl)) (hw _ (List.mem_of_getElem? (i := 53) rfl)) (hw _ (List.mem_of_getElem? (i := 54) rfl)) (by decide) (argsL := [(.ref b64)]) (st := []) rfl (ct_wf l Z a0 hw G1 G3 OS b64 t83 (fl37 ++ [cc]) X80.old S85) (lenOf (pd_21) rfl) rfl (by decide) (by decide) (by decide) (Nat.le_of_ble_eq_true rfl) (pc' := 100) rfl ?_
    intro T94 _ X95 hQ96
    obtain ⟨z93, rfl, e97, yz93, nz93⟩ := hQ96
    rw [← e97] at Arv_90 Arv_91 Arv_92 S85
    obtain rfl := nz93 (fun q => by have q1 := q.1; rw [LG] at q1; exact absurd q1 (by decide))
    show Ends p e below s Z _ _ _ T94 (mkF m 100 #[.val (.int p0), .val (.int p1), .val (.int p2), .val (.int p3), .val (.int p4), .val (.int p5), .val (.int (p0 &&& (3 : Int32))), .val (.int cc), .val (.int dd), .val (.int (Int32.ofNat pp)), .val (.int (Int32.ofNat qq)), .val (.ref b3), .val (.ref b12), .val (.ref b23), .unset] [(.int (0 : Int32))])
    refine E_ifF X95 at_100 (XT.i0_ne_f (by decide)) (pc' := 103) rfl ?_
    refine E_iconst X95 (v := (1 : Int32)) at_103 rfl (pc' := 104) rfl ?_
    refine E_goto X95 at_104 (pc' := 108) (by decide) rfl ?_
    exact E_ireturnN X95 (t := .boolean) at_108 rfl (by simp) (by decide) (by decide) (rfl)
  · skip
    refine E_icT X56 at_85 (XT.ii_ne_t hm1) (pc' := 109) (by decide) rfl ?_
    refine E_iload X56 at_109 rfl (pc' := 111) rfl ?_
    refine E_iconst X56 (v := (2 : Int32)) at_111 rfl (pc' := 112) rfl ?_
    by_cases hm2 : (p0 &&& (3 : Int32)) = (2 : Int32)
    · skip
      refine E_icF X56 at_112 (XT.ii_ne_f hm2) (pc' := 115) rfl ?_
      refine E_new X56 at_115 (hw _ (List.mem_of_getElem? (i := 22) rfl)) (hw _ (List.mem_of_getElem? (i := 23) rfl)) (hw _ (List.mem_of_getElem? (i := 24) rfl)) (by decide) (by decide) (pc' := 118) rfl ?_
      intro T98 b100 X99 hb101 K102 E103 D104
      have ne105 : b3 ≠ b100 := Nat.ne_of_lt (Nat.lt_of_lt_of_eq Arv_59.lt hb101.symm)
      have ne106 : b12 ≠ b100 := Nat.ne_of_lt (Nat.lt_of_lt_of_eq Arv_60.lt hb101.symm)
      have ne107 : b23 ≠ b100 := Nat.ne_of_lt (Nat.lt_of_lt_of_eq V61.lt hb101.symm)
      have Arv_108 := Arv_59.keep K102 nin0
      have Arv_109 := Arv_60.keep K102 nin0
      have Arv_110 := V61.keep K102 nin0
      have g111 : Z.heap.size ≤ b100 := Nat.le_trans X56.le (Nat.le_of_eq hb101.symm)
      have F112 : Fld Z T98.heap b100 "java/lang/String" "coder" "B" (.int (0 : Int32)) := D104 (Or.inr (hw _ (List.mem_of_getElem? (i := 48) rfl))) (ty := .byte) (by decide)
      have F113 : Fld Z T98.heap b100 "java/lang/String" "value" "[B" .null := D104 (Or.inr (hw _ (List.mem_of_getElem? (i := 50) rfl))) (ty := (.array .byte)) (by decide)
      refine E_dup X99 at_118 rfl (pc' := 119) rfl ?_
      refine E_aload X99 at_119 rfl rfl (pc' := 121) rfl ?_
      have LG : (fl35).length = 35 := by simp [lfl35]
      have VS114 : Arv Z T98.heap b3 k7 .char (Int32.ofNat (fl35).length) ((fl35).map Value.int) (.int (0 : Int32)) := by rw [LG]; exact Arv_108
      refine E_special X99 (rm := rm_sinit) (a := b100) at_121 rfl rfl (hw _ (List.mem_of_getElem? (i := 25) rfl)) (hw _ (List.mem_of_getElem? (i := 26) rfl)) (hw _ (List.mem_of_getElem? (i := 27) rfl)) (by decide) (hw _ (List.mem_of_getElem? (i := 24) rfl)) (argsL := [(.ref b3)]) (st := [(.ref b100)]) rfl (ct_sinit l Z a0 hw G1 G3 OS b100 b3 k7 fl35 (.int (0 : Int32)) .null (.int (0 : Int32)) X99.old (by rw [LG]; decide) (by rw [LG]; decide) cfl35 E103 F113 F112 g111 VS114) (lenOf (pd_20) rfl) rfl (by decide) (by decide) (by decide) (Nat.le_of_ble_eq_true rfl) (pc' := 124) rfl ?_
      intro T115 _ X116 hQ117
      obtain ⟨rfl, K118, t119, sz120, S121⟩ := hQ117
      have ne122 : b3 ≠ t119 := Nat.ne_of_lt (Nat.lt_of_lt_of_le Arv_108.lt sz120)
      have ne123 : b12 ≠ t119 := Nat.ne_of_lt (Nat.lt_of_lt_of_le Arv_109.lt sz120)
      have ne124 : b23 ≠ t119 := Nat.ne_of_lt (Nat.lt_of_lt_of_le Arv_110.lt sz120)
      have ne125 : b100 ≠ t119 := Nat.ne_of_lt (Nat.lt_of_lt_of_le E103.lt sz120)
      have Arv_126 := Arv_108.keep K118 (ninS ne105 nin0)
      have Arv_127 := Arv_109.keep K118 (ninS ne106 nin0)
      have Arv_128 := Arv_110.keep K118 (ninS ne107 nin0)
      show Ends p e below s Z _ _ _ T115 (mkF m 124 #[.val (.int p0), .val (.int p1), .val (.int p2), .val (.int p3), .val (.int p4), .val (.int p5), .val (.int (p0 &&& (3 : Int32))), .val (.int cc), .val (.int dd), .val (.int (Int32.ofNat pp)), .val (.int (Int32.ofNat qq)), .val (.ref b3), .val (.ref b12), .val (.ref b23), .unset] [(.ref b100)])
      refine E_static X116 (rm := rm_wf) at_124 (hw _ (List.mem_of_getElem? (i := 51) rfl)) (hw _ (List.mem_of_getElem? (i := 52) rfl)) (hw _ (List.mem_of_getElem? (i := 53) rfl)) (hw _ (List.mem_of_getElem? (i := 54) rfl)) (by decide) (argsL := [(.ref b100)]) (st := []) rfl (ct_wf l Z a0 hw G1 G3 OS b100 t119 fl35 X116.old S121) (lenOf (pd_21) rfl) rfl (by decide) (by decide) (by decide) (Nat.le_of_ble_eq_true rfl) (pc' := 127) rfl ?_
      intro T130 _ X131 hQ132
      obtain ⟨z129, rfl, e133, yz129, nz129⟩ := hQ132
      rw [← e133] at Arv_126 Arv_127 Arv_128 S121
      obtain rfl := nz129 (fun q => by have q1 := q.1; rw [LG] at q1; exact absurd q1 (by decide))
      show Ends p e below s Z _ _ _ T130 (mkF m 127 #[.val (.int p0), .val (.int p1), .val (.int p2), .val (.int p3), .val (.int p4), .val (.int p5), .val (.int (p0 &&& (3 : Int32))), .val (.int cc), .val (.int dd), .val (.int (Int32.ofNat pp)), .val (.int (Int32.ofNat qq)), .val (.ref b3), .val (.ref b12), .val (.ref b23), .unset] [(.int (0 : Int32))])
      refine E_ifF X131 at_127 (XT.i0_ne_f (by decide)) (pc' := 130) rfl ?_
      refine E_iconst X131 (v := (1 : Int32)) at_130 rfl (pc' := 131) rfl ?_
      refine E_goto X131 at_131 (pc' := 135) (by decide) rfl ?_
      exact E_ireturnN X131 (t := .boolean) at_135 rfl (by simp) (by decide) (by decide) (rfl)
    · skip
      refine E_icT X56 at_112 (XT.ii_ne_t hm2) (pc' := 136) (by decide) rfl ?_
      refine E_aload X56 at_136 rfl rfl (pc' := 138) rfl ?_
      refine E_iload X56 at_138 rfl (pc' := 140) rfl ?_
      refine E_iload X56 at_140 rfl (pc' := 142) rfl ?_
      refine E_castore X56 (pp) (y := cc) at_142 (o_nar bcc.1 bcc.2) Arv_60 ⟨o_nn (by omega), o_lt (n := 36) hpp (by decide)⟩ (o_cl (by omega)) (by simp only [List.length_map, List.length_set, lfl36]; exact hpp) g19 (pc' := 143) rfl ?_
      intro T134 X135 K136 V137
      have Arv_138 := Arv_59.keep K136 (ninS ne17 nin0)
      have Arv_139 := V61.keep K136 (ninS (Ne.symm ne29) nin0)
      have V140 : Arv Z T134.heap b12 k16 .char (36 : Int32) ((fl36.set pp cc).map Value.int) (.int (0 : Int32)) := (by rw [List.map_set]; exact V137)
      refine E_iload X135 at_143 rfl (pc' := 145) rfl ?_
      refine E_iconst X135 (v := (3 : Int32)) at_145 rfl (pc' := 146) rfl ?_
      by_cases hm3 : (p0 &&& (3 : Int32)) = (3 : Int32)
      · skip
        refine E_icF X135 at_146 (XT.ii_ne_f hm3) (pc' := 149) rfl ?_
        refine E_aload X135 at_149 rfl rfl (pc' := 151) rfl ?_
        refine E_iload X135 at_151 rfl (pc' := 153) rfl ?_
        refine E_iload X135 at_153 rfl (pc' := 155) rfl ?_
        refine E_castore X135 (qq) (y := dd) at_155 (o_nar bdd.1 bdd.2) V140 ⟨o_nn (by omega), o_lt (n := 36) hqq (by decide)⟩ (o_cl (by omega)) (by simp only [List.length_map, List.length_set, lfl36]; exact hqq) g19 (pc' := 156) rfl ?_
        intro T141 X142 K143 V144
        have Arv_145 := Arv_138.keep K143 (ninS ne17 nin0)
        have Arv_146 := Arv_139.keep K143 (ninS (Ne.symm ne29) nin0)
        have V147 : Arv Z T141.heap b12 k16 .char (36 : Int32) (((fl36.set pp cc).set qq dd).map Value.int) (.int (0 : Int32)) := (by rw [List.map_set]; exact V144)
        refine E_iload X142 at_156 rfl (pc' := 158) rfl ?_
        refine E_aload X142 at_158 rfl rfl (pc' := 160) rfl ?_
        refine E_iload X142 at_160 rfl (pc' := 162) rfl ?_
        refine E_caload X142 (v := (.int (((fl36.set pp cc).set qq dd).getD pp 0))) at_162 V147 ⟨o_nn (by omega), o_lt (n := 36) hpp (by decide)⟩ (own_getD Value.int (by simp only [List.length_set, lfl36]; exact hpp) (by simp only [List.length_set, lfl36]; decide)) (pc' := 163) rfl ?_
        refine E_static X142 (rm := rm_okat) at_163 (hw _ (List.mem_of_getElem? (i := 16) rfl)) (hw _ (List.mem_of_getElem? (i := 17) rfl)) (hw _ (List.mem_of_getElem? (i := 5) rfl)) (hw _ (List.mem_of_getElem? (i := 18) rfl)) (by decide) (argsL := [(.int (Int32.ofNat pp)), (.int (((fl36.set pp cc).set qq dd).getD pp 0))]) (st := []) rfl (ct_okat l Z a0 hw G1 G3 OS pp (((fl36.set pp cc).set qq dd).getD pp 0) X142.old (by omega) ((set_ch (set_ch cfl36 bcc) bdd) _ (own_mem (by simp only [List.length_set, lfl36]; exact hpp)))) (lenOf (pd_22) rfl) rfl (by decide) (by decide) (by decide) (Nat.le_of_ble_eq_true rfl) (pc' := 166) rfl ?_
        intro T150 _ X151 hQ152
        obtain ⟨z148, rfl, e153, yz148, nz148⟩ := hQ152
        rw [← e153] at Arv_145 Arv_146 V147
        by_cases hd149 : OkC pp (((fl36.set pp cc).set qq dd).getD pp 0)
        · skip
          obtain rfl := yz148 hd149
          show Ends p e below s Z _ _ _ T150 (mkF m 166 #[.val (.int p0), .val (.int p1), .val (.int p2), .val (.int p3), .val (.int p4), .val (.int p5), .val (.int (p0 &&& (3 : Int32))), .val (.int cc), .val (.int dd), .val (.int (Int32.ofNat pp)), .val (.int (Int32.ofNat qq)), .val (.ref b3), .val (.ref b12), .val (.ref b23), .unset] [(.int (1 : Int32))])
          refine E_ifF X151 at_166 (XT.i0_eq_f (by decide)) (pc' := 169) rfl ?_
          refine E_iload X151 at_169 rfl (pc' := 171) rfl ?_
          refine E_aload X151 at_171 rfl rfl (pc' := 173) rfl ?_
          refine E_iload X151 at_173 rfl (pc' := 175) rfl ?_
          refine E_caload X151 (v := (.int (((fl36.set pp cc).set qq dd).getD qq 0))) at_175 V147 ⟨o_nn (by omega), o_lt (n := 36) hqq (by decide)⟩ (own_getD Value.int (by simp only [List.length_set, lfl36]; exact hqq) (by simp only [List.length_set, lfl36]; decide)) (pc' := 176) rfl ?_
          refine E_static X151 (rm := rm_okat) at_176 (hw _ (List.mem_of_getElem? (i := 16) rfl)) (hw _ (List.mem_of_getElem? (i := 17) rfl)) (hw _ (List.mem_of_getElem? (i := 5) rfl)) (hw _ (List.mem_of_getElem? (i := 18) rfl)) (by decide) (argsL := [(.int (Int32.ofNat qq)), (.int (((fl36.set pp cc).set qq dd).getD qq 0))]) (st := []) rfl (ct_okat l Z a0 hw G1 G3 OS qq (((fl36.set pp cc).set qq dd).getD qq 0) X151.old (by omega) ((set_ch (set_ch cfl36 bcc) bdd) _ (own_mem (by simp only [List.length_set, lfl36]; exact hqq)))) (lenOf (pd_22) rfl) rfl (by decide) (by decide) (by decide) (Nat.le_of_ble_eq_true rfl) (pc' := 179) rfl ?_
          intro T156 _ X157 hQ158
          obtain ⟨z154, rfl, e159, yz154, nz154⟩ := hQ158
          rw [← e159] at Arv_145 Arv_146 V147
          by_cases hd155 : OkC qq (((fl36.set pp cc).set qq dd).getD qq 0)
          · skip
            obtain rfl := yz154 hd155
            show Ends p e below s Z _ _ _ T156 (mkF m 179 #[.val (.int p0), .val (.int p1), .val (.int p2), .val (.int p3), .val (.int p4), .val (.int p5), .val (.int (p0 &&& (3 : Int32))), .val (.int cc), .val (.int dd), .val (.int (Int32.ofNat pp)), .val (.int (Int32.ofNat qq)), .val (.ref b3), .val (.ref b12), .val (.ref b23), .unset] [(.int (1 : Int32))])
            refine E_ifF X157 at_179 (XT.i0_eq_f (by decide)) (pc' := 182) rfl ?_
            refine E_iconst X157 (v := (1 : Int32)) at_182 rfl (pc' := 183) rfl ?_
            refine E_goto X157 at_183 (pc' := 187) (by decide) rfl ?_
            refine E_istore X157 at_187 (l' := #[.val (.int p0), .val (.int p1), .val (.int p2), .val (.int p3), .val (.int p4), .val (.int p5), .val (.int (p0 &&& (3 : Int32))), .val (.int cc), .val (.int dd), .val (.int (Int32.ofNat pp)), .val (.int (Int32.ofNat qq)), .val (.ref b3), .val (.ref b12), .val (.ref b23), .val (.int (1 : Int32))]) rfl (pc' := 189) rfl ?_
            refine E_new X157 at_189 (hw _ (List.mem_of_getElem? (i := 22) rfl)) (hw _ (List.mem_of_getElem? (i := 23) rfl)) (hw _ (List.mem_of_getElem? (i := 24) rfl)) (by decide) (by decide) (pc' := 192) rfl ?_
            intro T160 b162 X161 hb163 K164 E165 D166
            have ne167 : b3 ≠ b162 := Nat.ne_of_lt (Nat.lt_of_lt_of_eq Arv_145.lt hb163.symm)
            have ne168 : b23 ≠ b162 := Nat.ne_of_lt (Nat.lt_of_lt_of_eq Arv_146.lt hb163.symm)
            have ne169 : b12 ≠ b162 := Nat.ne_of_lt (Nat.lt_of_lt_of_eq V147.lt hb163.symm)
            have Arv_170 := Arv_145.keep K164 nin0
            have Arv_171 := Arv_146.keep K164 nin0
            have Arv_172 := V147.keep K164 nin0
            have g173 : Z.heap.size ≤ b162 := Nat.le_trans X157.le (Nat.le_of_eq hb163.symm)
            have F174 : Fld Z T160.heap b162 "java/lang/String" "coder" "B" (.int (0 : Int32)) := D166 (Or.inr (hw _ (List.mem_of_getElem? (i := 48) rfl))) (ty := .byte) (by decide)
            have F175 : Fld Z T160.heap b162 "java/lang/String" "value" "[B" .null := D166 (Or.inr (hw _ (List.mem_of_getElem? (i := 50) rfl))) (ty := (.array .byte)) (by decide)
            refine E_dup X161 at_192 rfl (pc' := 193) rfl ?_
            refine E_aload X161 at_193 rfl rfl (pc' := 195) rfl ?_
            have LG : (((fl36.set pp cc).set qq dd)).length = 36 := by simp [lfl36]
            have VS176 : Arv Z T160.heap b12 k16 .char (Int32.ofNat (((fl36.set pp cc).set qq dd)).length) ((((fl36.set pp cc).set qq dd)).map Value.int) (.int (0 : Int32)) := by rw [LG]; exact Arv_172
            refine E_special X161 (rm := rm_sinit) (a := b162) at_195 rfl rfl (hw _ (List.mem_of_getElem? (i := 25) rfl)) (hw _ (List.mem_of_getElem? (i := 26) rfl)) (hw _ (List.mem_of_getElem? (i := 27) rfl)) (by decide) (hw _ (List.mem_of_getElem? (i := 24) rfl)) (argsL := [(.ref b12)]) (st := [(.ref b162)]) rfl (ct_sinit l Z a0 hw G1 G3 OS b162 b12 k16 ((fl36.set pp cc).set qq dd) (.int (0 : Int32)) .null (.int (0 : Int32)) X161.old (by rw [LG]; decide) (by rw [LG]; decide) (set_ch (set_ch cfl36 bcc) bdd) E165 F175 F174 g173 VS176) (lenOf (pd_20) rfl) rfl (by decide) (by decide) (by decide) (Nat.le_of_ble_eq_true rfl) (pc' := 198) rfl ?_
            intro T177 _ X178 hQ179
            obtain ⟨rfl, K180, t181, sz182, S183⟩ := hQ179
            have ne184 : b3 ≠ t181 := Nat.ne_of_lt (Nat.lt_of_lt_of_le Arv_170.lt sz182)
            have ne185 : b23 ≠ t181 := Nat.ne_of_lt (Nat.lt_of_lt_of_le Arv_171.lt sz182)
            have ne186 : b12 ≠ t181 := Nat.ne_of_lt (Nat.lt_of_lt_of_le Arv_172.lt sz182)
            have ne187 : b162 ≠ t181 := Nat.ne_of_lt (Nat.lt_of_lt_of_le E165.lt sz182)
            have Arv_188 := Arv_170.keep K180 (ninS ne167 nin0)
            have Arv_189 := Arv_171.keep K180 (ninS ne168 nin0)
            have Arv_190 := Arv_172.keep K180 (ninS ne169 nin0)
            show Ends p e below s Z _ _ _ T177 (mkF m 198 #[.val (.int p0), .val (.int p1), .val (.int p2), .val (.int p3), .val (.int p4), .val (.int p5), .val (.int (p0 &&& (3 : Int32))), .val (.int cc), .val (.int dd), .val (.int (Int32.ofNat pp)), .val (.int (Int32.ofNat qq)), .val (.ref b3), .val (.ref b12), .val (.ref b23), .val (.int (1 : Int32))] [(.ref b162)])
            refine E_static X178 (rm := rm_wf) at_198 (hw _ (List.mem_of_getElem? (i := 51) rfl)) (hw _ (List.mem_of_getElem? (i := 52) rfl)) (hw _ (List.mem_of_getElem? (i := 53) rfl)) (hw _ (List.mem_of_getElem? (i := 54) rfl)) (by decide) (argsL := [(.ref b162)]) (st := []) rfl (ct_wf l Z a0 hw G1 G3 OS b162 t181 ((fl36.set pp cc).set qq dd) X178.old S183) (lenOf (pd_21) rfl) rfl (by decide) (by decide) (by decide) (Nat.le_of_ble_eq_true rfl) (pc' := 201) rfl ?_
            intro T192 _ X193 hQ194
            obtain ⟨z191, rfl, e195, yz191, nz191⟩ := hQ194
            rw [← e195] at Arv_188 Arv_189 Arv_190 S183
            have hW := wf_iff (g := ((fl36.set pp cc).set qq dd)) LG (fun i hi e1 e2 => by rw [set_get e2, set_get e1]; exact gfl36 i hi) hpp hqq
            obtain rfl := yz191 (hW.mpr ⟨hd149, hd155⟩)
            show Ends p e below s Z _ _ _ T192 (mkF m 201 #[.val (.int p0), .val (.int p1), .val (.int p2), .val (.int p3), .val (.int p4), .val (.int p5), .val (.int (p0 &&& (3 : Int32))), .val (.int cc), .val (.int dd), .val (.int (Int32.ofNat pp)), .val (.int (Int32.ofNat qq)), .val (.ref b3), .val (.ref b12), .val (.ref b23), .val (.int (1 : Int32))] [(.int (1 : Int32))])
            refine E_iload X193 at_201 rfl (pc' := 203) rfl ?_
            refine E_icF X193 at_203 (XT.ii_ne_f (by decide)) (pc' := 206) rfl ?_
            refine E_iconst X193 (v := (1 : Int32)) at_206 rfl (pc' := 207) rfl ?_
            refine E_goto X193 at_207 (pc' := 211) (by decide) rfl ?_
            exact E_ireturnN X193 (t := .boolean) at_211 rfl (by simp) (by decide) (by decide) (rfl)
          · skip
            obtain rfl := nz154 hd155
            show Ends p e below s Z _ _ _ T156 (mkF m 179 #[.val (.int p0), .val (.int p1), .val (.int p2), .val (.int p3), .val (.int p4), .val (.int p5), .val (.int (p0 &&& (3 : Int32))), .val (.int cc), .val (.int dd), .val (.int (Int32.ofNat pp)), .val (.int (Int32.ofNat qq)), .val (.ref b3), .val (.ref b12), .val (.ref b23), .unset] [(.int (0 : Int32))])
            refine E_ifT X157 at_179 (XT.i0_eq_t (by decide)) (pc' := 186) (by decide) rfl ?_
            refine E_iconst X157 (v := (0 : Int32)) at_186 rfl (pc' := 187) rfl ?_
            refine E_istore X157 at_187 (l' := #[.val (.int p0), .val (.int p1), .val (.int p2), .val (.int p3), .val (.int p4), .val (.int p5), .val (.int (p0 &&& (3 : Int32))), .val (.int cc), .val (.int dd), .val (.int (Int32.ofNat pp)), .val (.int (Int32.ofNat qq)), .val (.ref b3), .val (.ref b12), .val (.ref b23), .val (.int (0 : Int32))]) rfl (pc' := 189) rfl ?_
            refine E_new X157 at_189 (hw _ (List.mem_of_getElem? (i := 22) rfl)) (hw _ (List.mem_of_getElem? (i := 23) rfl)) (hw _ (List.mem_of_getElem? (i := 24) rfl)) (by decide) (by decide) (pc' := 192) rfl ?_
            intro T196 b198 X197 hb199 K200 E201 D202
            have ne203 : b3 ≠ b198 := Nat.ne_of_lt (Nat.lt_of_lt_of_eq Arv_145.lt hb199.symm)
            have ne204 : b23 ≠ b198 := Nat.ne_of_lt (Nat.lt_of_lt_of_eq Arv_146.lt hb199.symm)
            have ne205 : b12 ≠ b198 := Nat.ne_of_lt (Nat.lt_of_lt_of_eq V147.lt hb199.symm)
            have Arv_206 := Arv_145.keep K200 nin0
            have Arv_207 := Arv_146.keep K200 nin0
            have Arv_208 := V147.keep K200 nin0
            have g209 : Z.heap.size ≤ b198 := Nat.le_trans X157.le (Nat.le_of_eq hb199.symm)
            have F210 : Fld Z T196.heap b198 "java/lang/String" "coder" "B" (.int (0 : Int32)) := D202 (Or.inr (hw _ (List.mem_of_getElem? (i := 48) rfl))) (ty := .byte) (by decide)
            have F211 : Fld Z T196.heap b198 "java/lang/String" "value" "[B" .null := D202 (Or.inr (hw _ (List.mem_of_getElem? (i := 50) rfl))) (ty := (.array .byte)) (by decide)
            refine E_dup X197 at_192 rfl (pc' := 193) rfl ?_
            refine E_aload X197 at_193 rfl rfl (pc' := 195) rfl ?_
            have LG : (((fl36.set pp cc).set qq dd)).length = 36 := by simp [lfl36]
            have VS212 : Arv Z T196.heap b12 k16 .char (Int32.ofNat (((fl36.set pp cc).set qq dd)).length) ((((fl36.set pp cc).set qq dd)).map Value.int) (.int (0 : Int32)) := by rw [LG]; exact Arv_208
            refine E_special X197 (rm := rm_sinit) (a := b198) at_195 rfl rfl (hw _ (List.mem_of_getElem? (i := 25) rfl)) (hw _ (List.mem_of_getElem? (i := 26) rfl)) (hw _ (List.mem_of_getElem? (i := 27) rfl)) (by decide) (hw _ (List.mem_of_getElem? (i := 24) rfl)) (argsL := [(.ref b12)]) (st := [(.ref b198)]) rfl (ct_sinit l Z a0 hw G1 G3 OS b198 b12 k16 ((fl36.set pp cc).set qq dd) (.int (0 : Int32)) .null (.int (0 : Int32)) X197.old (by rw [LG]; decide) (by rw [LG]; decide) (set_ch (set_ch cfl36 bcc) bdd) E201 F211 F210 g209 VS212) (lenOf (pd_20) rfl) rfl (by decide) (by decide) (by decide) (Nat.le_of_ble_eq_true rfl) (pc' := 198) rfl ?_
            intro T213 _ X214 hQ215
            obtain ⟨rfl, K216, t217, sz218, S219⟩ := hQ215
            have ne220 : b3 ≠ t217 := Nat.ne_of_lt (Nat.lt_of_lt_of_le Arv_206.lt sz218)
            have ne221 : b23 ≠ t217 := Nat.ne_of_lt (Nat.lt_of_lt_of_le Arv_207.lt sz218)
            have ne222 : b12 ≠ t217 := Nat.ne_of_lt (Nat.lt_of_lt_of_le Arv_208.lt sz218)
            have ne223 : b198 ≠ t217 := Nat.ne_of_lt (Nat.lt_of_lt_of_le E201.lt sz218)
            have Arv_224 := Arv_206.keep K216 (ninS ne203 nin0)
            have Arv_225 := Arv_207.keep K216 (ninS ne204 nin0)
            have Arv_226 := Arv_208.keep K216 (ninS ne205 nin0)
            show Ends p e below s Z _ _ _ T213 (mkF m 198 #[.val (.int p0), .val (.int p1), .val (.int p2), .val (.int p3), .val (.int p4), .val (.int p5), .val (.int (p0 &&& (3 : Int32))), .val (.int cc), .val (.int dd), .val (.int (Int32.ofNat pp)), .val (.int (Int32.ofNat qq)), .val (.ref b3), .val (.ref b12), .val (.ref b23), .val (.int (0 : Int32))] [(.ref b198)])
            refine E_static X214 (rm := rm_wf) at_198 (hw _ (List.mem_of_getElem? (i := 51) rfl)) (hw _ (List.mem_of_getElem? (i := 52) rfl)) (hw _ (List.mem_of_getElem? (i := 53) rfl)) (hw _ (List.mem_of_getElem? (i := 54) rfl)) (by decide) (argsL := [(.ref b198)]) (st := []) rfl (ct_wf l Z a0 hw G1 G3 OS b198 t217 ((fl36.set pp cc).set qq dd) X214.old S219) (lenOf (pd_21) rfl) rfl (by decide) (by decide) (by decide) (Nat.le_of_ble_eq_true rfl) (pc' := 201) rfl ?_
            intro T228 _ X229 hQ230
            obtain ⟨z227, rfl, e231, yz227, nz227⟩ := hQ230
            rw [← e231] at Arv_224 Arv_225 Arv_226 S219
            have hW := wf_iff (g := ((fl36.set pp cc).set qq dd)) LG (fun i hi e1 e2 => by rw [set_get e2, set_get e1]; exact gfl36 i hi) hpp hqq
            obtain rfl := nz227 (fun q => hd155 (hW.mp q).2)
            show Ends p e below s Z _ _ _ T228 (mkF m 201 #[.val (.int p0), .val (.int p1), .val (.int p2), .val (.int p3), .val (.int p4), .val (.int p5), .val (.int (p0 &&& (3 : Int32))), .val (.int cc), .val (.int dd), .val (.int (Int32.ofNat pp)), .val (.int (Int32.ofNat qq)), .val (.ref b3), .val (.ref b12), .val (.ref b23), .val (.int (0 : Int32))] [(.int (0 : Int32))])
            refine E_iload X229 at_201 rfl (pc' := 203) rfl ?_
            refine E_icF X229 at_203 (XT.ii_ne_f (by decide)) (pc' := 206) rfl ?_
            refine E_iconst X229 (v := (1 : Int32)) at_206 rfl (pc' := 207) rfl ?_
            refine E_goto X229 at_207 (pc' := 211) (by decide) rfl ?_
            exact E_ireturnN X229 (t := .boolean) at_211 rfl (by simp) (by decide) (by decide) (rfl)
        · skip
          obtain rfl := nz148 hd149
          show Ends p e below s Z _ _ _ T150 (mkF m 166 #[.val (.int p0), .val (.int p1), .val (.int p2), .val (.int p3), .val (.int p4), .val (.int p5), .val (.int (p0 &&& (3 : Int32))), .val (.int cc), .val (.int dd), .val (.int (Int32.ofNat pp)), .val (.int (Int32.ofNat qq)), .val (.ref b3), .val (.ref b12), .val (.ref b23), .unset] [(.int (0 : Int32))])
          refine E_ifT X151 at_166 (XT.i0_eq_t (by decide)) (pc' := 186) (by decide) rfl ?_
          refine E_iconst X151 (v := (0 : Int32)) at_186 rfl (pc' := 187) rfl ?_
          refine E_istore X151 at_187 (l' := #[.val (.int p0), .val (.int p1), .val (.int p2), .val (.int p3), .val (.int p4), .val (.int p5), .val (.int (p0 &&& (3 : Int32))), .val (.int cc), .val (.int dd), .val (.int (Int32.ofNat pp)), .val (.int (Int32.ofNat qq)), .val (.ref b3), .val (.ref b12), .val (.ref b23), .val (.int (0 : Int32))]) rfl (pc' := 189) rfl ?_
          refine E_new X151 at_189 (hw _ (List.mem_of_getElem? (i := 22) rfl)) (hw _ (List.mem_of_getElem? (i := 23) rfl)) (hw _ (List.mem_of_getElem? (i := 24) rfl)) (by decide) (by decide) (pc' := 192) rfl ?_
          intro T232 b234 X233 hb235 K236 E237 D238
          have ne239 : b3 ≠ b234 := Nat.ne_of_lt (Nat.lt_of_lt_of_eq Arv_145.lt hb235.symm)
          have ne240 : b23 ≠ b234 := Nat.ne_of_lt (Nat.lt_of_lt_of_eq Arv_146.lt hb235.symm)
          have ne241 : b12 ≠ b234 := Nat.ne_of_lt (Nat.lt_of_lt_of_eq V147.lt hb235.symm)
          have Arv_242 := Arv_145.keep K236 nin0
          have Arv_243 := Arv_146.keep K236 nin0
          have Arv_244 := V147.keep K236 nin0
          have g245 : Z.heap.size ≤ b234 := Nat.le_trans X151.le (Nat.le_of_eq hb235.symm)
          have F246 : Fld Z T232.heap b234 "java/lang/String" "coder" "B" (.int (0 : Int32)) := D238 (Or.inr (hw _ (List.mem_of_getElem? (i := 48) rfl))) (ty := .byte) (by decide)
          have F247 : Fld Z T232.heap b234 "java/lang/String" "value" "[B" .null := D238 (Or.inr (hw _ (List.mem_of_getElem? (i := 50) rfl))) (ty := (.array .byte)) (by decide)
          refine E_dup X233 at_192 rfl (pc' := 193) rfl ?_
          refine E_aload X233 at_193 rfl rfl (pc' := 195) rfl ?_
          have LG : (((fl36.set pp cc).set qq dd)).length = 36 := by simp [lfl36]
          have VS248 : Arv Z T232.heap b12 k16 .char (Int32.ofNat (((fl36.set pp cc).set qq dd)).length) ((((fl36.set pp cc).set qq dd)).map Value.int) (.int (0 : Int32)) := by rw [LG]; exact Arv_244
          refine E_special X233 (rm := rm_sinit) (a := b234) at_195 rfl rfl (hw _ (List.mem_of_getElem? (i := 25) rfl)) (hw _ (List.mem_of_getElem? (i := 26) rfl)) (hw _ (List.mem_of_getElem? (i := 27) rfl)) (by decide) (hw _ (List.mem_of_getElem? (i := 24) rfl)) (argsL := [(.ref b12)]) (st := [(.ref b234)]) rfl (ct_sinit l Z a0 hw G1 G3 OS b234 b12 k16 ((fl36.set pp cc).set qq dd) (.int (0 : Int32)) .null (.int (0 : Int32)) X233.old (by rw [LG]; decide) (by rw [LG]; decide) (set_ch (set_ch cfl36 bcc) bdd) E237 F247 F246 g245 VS248) (lenOf (pd_20) rfl) rfl (by decide) (by decide) (by decide) (Nat.le_of_ble_eq_true rfl) (pc' := 198) rfl ?_
          intro T249 _ X250 hQ251
          obtain ⟨rfl, K252, t253, sz254, S255⟩ := hQ251
          have ne256 : b3 ≠ t253 := Nat.ne_of_lt (Nat.lt_of_lt_of_le Arv_242.lt sz254)
          have ne257 : b23 ≠ t253 := Nat.ne_of_lt (Nat.lt_of_lt_of_le Arv_243.lt sz254)
          have ne258 : b12 ≠ t253 := Nat.ne_of_lt (Nat.lt_of_lt_of_le Arv_244.lt sz254)
          have ne259 : b234 ≠ t253 := Nat.ne_of_lt (Nat.lt_of_lt_of_le E237.lt sz254)
          have Arv_260 := Arv_242.keep K252 (ninS ne239 nin0)
          have Arv_261 := Arv_243.keep K252 (ninS ne240 nin0)
          have Arv_262 := Arv_244.keep K252 (ninS ne241 nin0)
          show Ends p e below s Z _ _ _ T249 (mkF m 198 #[.val (.int p0), .val (.int p1), .val (.int p2), .val (.int p3), .val (.int p4), .val (.int p5), .val (.int (p0 &&& (3 : Int32))), .val (.int cc), .val (.int dd), .val (.int (Int32.ofNat pp)), .val (.int (Int32.ofNat qq)), .val (.ref b3), .val (.ref b12), .val (.ref b23), .val (.int (0 : Int32))] [(.ref b234)])
          refine E_static X250 (rm := rm_wf) at_198 (hw _ (List.mem_of_getElem? (i := 51) rfl)) (hw _ (List.mem_of_getElem? (i := 52) rfl)) (hw _ (List.mem_of_getElem? (i := 53) rfl)) (hw _ (List.mem_of_getElem? (i := 54) rfl)) (by decide) (argsL := [(.ref b234)]) (st := []) rfl (ct_wf l Z a0 hw G1 G3 OS b234 t253 ((fl36.set pp cc).set qq dd) X250.old S255) (lenOf (pd_21) rfl) rfl (by decide) (by decide) (by decide) (Nat.le_of_ble_eq_true rfl) (pc' := 201) rfl ?_
          intro T264 _ X265 hQ266
          obtain ⟨z263, rfl, e267, yz263, nz263⟩ := hQ266
          rw [← e267] at Arv_260 Arv_261 Arv_262 S255
          have hW := wf_iff (g := ((fl36.set pp cc).set qq dd)) LG (fun i hi e1 e2 => by rw [set_get e2, set_get e1]; exact gfl36 i hi) hpp hqq
          obtain rfl := nz263 (fun q => hd149 (hW.mp q).1)
          show Ends p e below s Z _ _ _ T264 (mkF m 201 #[.val (.int p0), .val (.int p1), .val (.int p2), .val (.int p3), .val (.int p4), .val (.int p5), .val (.int (p0 &&& (3 : Int32))), .val (.int cc), .val (.int dd), .val (.int (Int32.ofNat pp)), .val (.int (Int32.ofNat qq)), .val (.ref b3), .val (.ref b12), .val (.ref b23), .val (.int (0 : Int32))] [(.int (0 : Int32))])
          refine E_iload X265 at_201 rfl (pc' := 203) rfl ?_
          refine E_icF X265 at_203 (XT.ii_ne_f (by decide)) (pc' := 206) rfl ?_
          refine E_iconst X265 (v := (1 : Int32)) at_206 rfl (pc' := 207) rfl ?_
          refine E_goto X265 at_207 (pc' := 211) (by decide) rfl ?_
          exact E_ireturnN X265 (t := .boolean) at_211 rfl (by simp) (by decide) (by decide) (rfl)
      · skip
        refine E_icT X135 at_146 (XT.ii_ne_t hm3) (pc' := 156) (by decide) rfl ?_
        refine E_iload X135 at_156 rfl (pc' := 158) rfl ?_
        refine E_aload X135 at_158 rfl rfl (pc' := 160) rfl ?_
        refine E_iload X135 at_160 rfl (pc' := 162) rfl ?_
        refine E_caload X135 (v := (.int ((fl36.set pp cc).getD pp 0))) at_162 V140 ⟨o_nn (by omega), o_lt (n := 36) hpp (by decide)⟩ (own_getD Value.int (by simp only [List.length_set, lfl36]; exact hpp) (by simp only [List.length_set, lfl36]; decide)) (pc' := 163) rfl ?_
        refine E_static X135 (rm := rm_okat) at_163 (hw _ (List.mem_of_getElem? (i := 16) rfl)) (hw _ (List.mem_of_getElem? (i := 17) rfl)) (hw _ (List.mem_of_getElem? (i := 5) rfl)) (hw _ (List.mem_of_getElem? (i := 18) rfl)) (by decide) (argsL := [(.int (Int32.ofNat pp)), (.int ((fl36.set pp cc).getD pp 0))]) (st := []) rfl (ct_okat l Z a0 hw G1 G3 OS pp ((fl36.set pp cc).getD pp 0) X135.old (by omega) ((set_ch cfl36 bcc) _ (own_mem (by simp only [List.length_set, lfl36]; exact hpp)))) (lenOf (pd_22) rfl) rfl (by decide) (by decide) (by decide) (Nat.le_of_ble_eq_true rfl) (pc' := 166) rfl ?_
        intro T270 _ X271 hQ272
        obtain ⟨z268, rfl, e273, yz268, nz268⟩ := hQ272
        rw [← e273] at Arv_138 Arv_139 V140
        by_cases hd269 : OkC pp ((fl36.set pp cc).getD pp 0)
        · skip
          obtain rfl := yz268 hd269
          show Ends p e below s Z _ _ _ T270 (mkF m 166 #[.val (.int p0), .val (.int p1), .val (.int p2), .val (.int p3), .val (.int p4), .val (.int p5), .val (.int (p0 &&& (3 : Int32))), .val (.int cc), .val (.int dd), .val (.int (Int32.ofNat pp)), .val (.int (Int32.ofNat qq)), .val (.ref b3), .val (.ref b12), .val (.ref b23), .unset] [(.int (1 : Int32))])
          refine E_ifF X271 at_166 (XT.i0_eq_f (by decide)) (pc' := 169) rfl ?_
          refine E_iload X271 at_169 rfl (pc' := 171) rfl ?_
          refine E_aload X271 at_171 rfl rfl (pc' := 173) rfl ?_
          refine E_iload X271 at_173 rfl (pc' := 175) rfl ?_
          refine E_caload X271 (v := (.int ((fl36.set pp cc).getD qq 0))) at_175 V140 ⟨o_nn (by omega), o_lt (n := 36) hqq (by decide)⟩ (own_getD Value.int (by simp only [List.length_set, lfl36]; exact hqq) (by simp only [List.length_set, lfl36]; decide)) (pc' := 176) rfl ?_
          refine E_static X271 (rm := rm_okat) at_176 (hw _ (List.mem_of_getElem? (i := 16) rfl)) (hw _ (List.mem_of_getElem? (i := 17) rfl)) (hw _ (List.mem_of_getElem? (i := 5) rfl)) (hw _ (List.mem_of_getElem? (i := 18) rfl)) (by decide) (argsL := [(.int (Int32.ofNat qq)), (.int ((fl36.set pp cc).getD qq 0))]) (st := []) rfl (ct_okat l Z a0 hw G1 G3 OS qq ((fl36.set pp cc).getD qq 0) X271.old (by omega) ((set_ch cfl36 bcc) _ (own_mem (by simp only [List.length_set, lfl36]; exact hqq)))) (lenOf (pd_22) rfl) rfl (by decide) (by decide) (by decide) (Nat.le_of_ble_eq_true rfl) (pc' := 179) rfl ?_
          intro T276 _ X277 hQ278
          obtain ⟨z274, rfl, e279, yz274, nz274⟩ := hQ278
          rw [← e279] at Arv_138 Arv_139 V140
          by_cases hd275 : OkC qq ((fl36.set pp cc).getD qq 0)
          · skip
            obtain rfl := yz274 hd275
            show Ends p e below s Z _ _ _ T276 (mkF m 179 #[.val (.int p0), .val (.int p1), .val (.int p2), .val (.int p3), .val (.int p4), .val (.int p5), .val (.int (p0 &&& (3 : Int32))), .val (.int cc), .val (.int dd), .val (.int (Int32.ofNat pp)), .val (.int (Int32.ofNat qq)), .val (.ref b3), .val (.ref b12), .val (.ref b23), .unset] [(.int (1 : Int32))])
            refine E_ifF X277 at_179 (XT.i0_eq_f (by decide)) (pc' := 182) rfl ?_
            refine E_iconst X277 (v := (1 : Int32)) at_182 rfl (pc' := 183) rfl ?_
            refine E_goto X277 at_183 (pc' := 187) (by decide) rfl ?_
            refine E_istore X277 at_187 (l' := #[.val (.int p0), .val (.int p1), .val (.int p2), .val (.int p3), .val (.int p4), .val (.int p5), .val (.int (p0 &&& (3 : Int32))), .val (.int cc), .val (.int dd), .val (.int (Int32.ofNat pp)), .val (.int (Int32.ofNat qq)), .val (.ref b3), .val (.ref b12), .val (.ref b23), .val (.int (1 : Int32))]) rfl (pc' := 189) rfl ?_
            refine E_new X277 at_189 (hw _ (List.mem_of_getElem? (i := 22) rfl)) (hw _ (List.mem_of_getElem? (i := 23) rfl)) (hw _ (List.mem_of_getElem? (i := 24) rfl)) (by decide) (by decide) (pc' := 192) rfl ?_
            intro T280 b282 X281 hb283 K284 E285 D286
            have ne287 : b3 ≠ b282 := Nat.ne_of_lt (Nat.lt_of_lt_of_eq Arv_138.lt hb283.symm)
            have ne288 : b23 ≠ b282 := Nat.ne_of_lt (Nat.lt_of_lt_of_eq Arv_139.lt hb283.symm)
            have ne289 : b12 ≠ b282 := Nat.ne_of_lt (Nat.lt_of_lt_of_eq V140.lt hb283.symm)
            have Arv_290 := Arv_138.keep K284 nin0
            have Arv_291 := Arv_139.keep K284 nin0
            have Arv_292 := V140.keep K284 nin0
            have g293 : Z.heap.size ≤ b282 := Nat.le_trans X277.le (Nat.le_of_eq hb283.symm)
            have F294 : Fld Z T280.heap b282 "java/lang/String" "coder" "B" (.int (0 : Int32)) := D286 (Or.inr (hw _ (List.mem_of_getElem? (i := 48) rfl))) (ty := .byte) (by decide)
            have F295 : Fld Z T280.heap b282 "java/lang/String" "value" "[B" .null := D286 (Or.inr (hw _ (List.mem_of_getElem? (i := 50) rfl))) (ty := (.array .byte)) (by decide)
            refine E_dup X281 at_192 rfl (pc' := 193) rfl ?_
            refine E_aload X281 at_193 rfl rfl (pc' := 195) rfl ?_
            have LG : ((fl36.set pp cc)).length = 36 := by simp [lfl36]
            have VS296 : Arv Z T280.heap b12 k16 .char (Int32.ofNat ((fl36.set pp cc)).length) (((fl36.set pp cc)).map Value.int) (.int (0 : Int32)) := by rw [LG]; exact Arv_292
            refine E_special X281 (rm := rm_sinit) (a := b282) at_195 rfl rfl (hw _ (List.mem_of_getElem? (i := 25) rfl)) (hw _ (List.mem_of_getElem? (i := 26) rfl)) (hw _ (List.mem_of_getElem? (i := 27) rfl)) (by decide) (hw _ (List.mem_of_getElem? (i := 24) rfl)) (argsL := [(.ref b12)]) (st := [(.ref b282)]) rfl (ct_sinit l Z a0 hw G1 G3 OS b282 b12 k16 (fl36.set pp cc) (.int (0 : Int32)) .null (.int (0 : Int32)) X281.old (by rw [LG]; decide) (by rw [LG]; decide) (set_ch cfl36 bcc) E285 F295 F294 g293 VS296) (lenOf (pd_20) rfl) rfl (by decide) (by decide) (by decide) (Nat.le_of_ble_eq_true rfl) (pc' := 198) rfl ?_
            intro T297 _ X298 hQ299
            obtain ⟨rfl, K300, t301, sz302, S303⟩ := hQ299
            have ne304 : b3 ≠ t301 := Nat.ne_of_lt (Nat.lt_of_lt_of_le Arv_290.lt sz302)
            have ne305 : b23 ≠ t301 := Nat.ne_of_lt (Nat.lt_of_lt_of_le Arv_291.lt sz302)
            have ne306 : b12 ≠ t301 := Nat.ne_of_lt (Nat.lt_of_lt_of_le Arv_292.lt sz302)
            have ne307 : b282 ≠ t301 := Nat.ne_of_lt (Nat.lt_of_lt_of_le E285.lt sz302)
            have Arv_308 := Arv_290.keep K300 (ninS ne287 nin0)
            have Arv_309 := Arv_291.keep K300 (ninS ne288 nin0)
            have Arv_310 := Arv_292.keep K300 (ninS ne289 nin0)
            show Ends p e below s Z _ _ _ T297 (mkF m 198 #[.val (.int p0), .val (.int p1), .val (.int p2), .val (.int p3), .val (.int p4), .val (.int p5), .val (.int (p0 &&& (3 : Int32))), .val (.int cc), .val (.int dd), .val (.int (Int32.ofNat pp)), .val (.int (Int32.ofNat qq)), .val (.ref b3), .val (.ref b12), .val (.ref b23), .val (.int (1 : Int32))] [(.ref b282)])
            refine E_static X298 (rm := rm_wf) at_198 (hw _ (List.mem_of_getElem? (i := 51) rfl)) (hw _ (List.mem_of_getElem? (i := 52) rfl)) (hw _ (List.mem_of_getElem? (i := 53) rfl)) (hw _ (List.mem_of_getElem? (i := 54) rfl)) (by decide) (argsL := [(.ref b282)]) (st := []) rfl (ct_wf l Z a0 hw G1 G3 OS b282 t301 (fl36.set pp cc) X298.old S303) (lenOf (pd_21) rfl) rfl (by decide) (by decide) (by decide) (Nat.le_of_ble_eq_true rfl) (pc' := 201) rfl ?_
            intro T312 _ X313 hQ314
            obtain ⟨z311, rfl, e315, yz311, nz311⟩ := hQ314
            rw [← e315] at Arv_308 Arv_309 Arv_310 S303
            have hW := wf_iff (g := (fl36.set pp cc)) LG (fun i hi e1 e2 => by rw [set_get e1]; exact gfl36 i hi) hpp hqq
            obtain rfl := yz311 (hW.mpr ⟨hd269, hd275⟩)
            show Ends p e below s Z _ _ _ T312 (mkF m 201 #[.val (.int p0), .val (.int p1), .val (.int p2), .val (.int p3), .val (.int p4), .val (.int p5), .val (.int (p0 &&& (3 : Int32))), .val (.int cc), .val (.int dd), .val (.int (Int32.ofNat pp)), .val (.int (Int32.ofNat qq)), .val (.ref b3), .val (.ref b12), .val (.ref b23), .val (.int (1 : Int32))] [(.int (1 : Int32))])
            refine E_iload X313 at_201 rfl (pc' := 203) rfl ?_
            refine E_icF X313 at_203 (XT.ii_ne_f (by decide)) (pc' := 206) rfl ?_
            refine E_iconst X313 (v := (1 : Int32)) at_206 rfl (pc' := 207) rfl ?_
            refine E_goto X313 at_207 (pc' := 211) (by decide) rfl ?_
            exact E_ireturnN X313 (t := .boolean) at_211 rfl (by simp) (by decide) (by decide) (rfl)
          · skip
            obtain rfl := nz274 hd275
            show Ends p e below s Z _ _ _ T276 (mkF m 179 #[.val (.int p0), .val (.int p1), .val (.int p2), .val (.int p3), .val (.int p4), .val (.int p5), .val (.int (p0 &&& (3 : Int32))), .val (.int cc), .val (.int dd), .val (.int (Int32.ofNat pp)), .val (.int (Int32.ofNat qq)), .val (.ref b3), .val (.ref b12), .val (.ref b23), .unset] [(.int (0 : Int32))])
            refine E_ifT X277 at_179 (XT.i0_eq_t (by decide)) (pc' := 186) (by decide) rfl ?_
            refine E_iconst X277 (v := (0 : Int32)) at_186 rfl (pc' := 187) rfl ?_
            refine E_istore X277 at_187 (l' := #[.val (.int p0), .val (.int p1), .val (.int p2), .val (.int p3), .val (.int p4), .val (.int p5), .val (.int (p0 &&& (3 : Int32))), .val (.int cc), .val (.int dd), .val (.int (Int32.ofNat pp)), .val (.int (Int32.ofNat qq)), .val (.ref b3), .val (.ref b12), .val (.ref b23), .val (.int (0 : Int32))]) rfl (pc' := 189) rfl ?_
            refine E_new X277 at_189 (hw _ (List.mem_of_getElem? (i := 22) rfl)) (hw _ (List.mem_of_getElem? (i := 23) rfl)) (hw _ (List.mem_of_getElem? (i := 24) rfl)) (by decide) (by decide) (pc' := 192) rfl ?_
            intro T316 b318 X317 hb319 K320 E321 D322
            have ne323 : b3 ≠ b318 := Nat.ne_of_lt (Nat.lt_of_lt_of_eq Arv_138.lt hb319.symm)
            have ne324 : b23 ≠ b318 := Nat.ne_of_lt (Nat.lt_of_lt_of_eq Arv_139.lt hb319.symm)
            have ne325 : b12 ≠ b318 := Nat.ne_of_lt (Nat.lt_of_lt_of_eq V140.lt hb319.symm)
            have Arv_326 := Arv_138.keep K320 nin0
            have Arv_327 := Arv_139.keep K320 nin0
            have Arv_328 := V140.keep K320 nin0
            have g329 : Z.heap.size ≤ b318 := Nat.le_trans X277.le (Nat.le_of_eq hb319.symm)
            have F330 : Fld Z T316.heap b318 "java/lang/String" "coder" "B" (.int (0 : Int32)) := D322 (Or.inr (hw _ (List.mem_of_getElem? (i := 48) rfl))) (ty := .byte) (by decide)
            have F331 : Fld Z T316.heap b318 "java/lang/String" "value" "[B" .null := D322 (Or.inr (hw _ (List.mem_of_getElem? (i := 50) rfl))) (ty := (.array .byte)) (by decide)
            refine E_dup X317 at_192 rfl (pc' := 193) rfl ?_
            refine E_aload X317 at_193 rfl rfl (pc' := 195) rfl ?_
            have LG : ((fl36.set pp cc)).length = 36 := by simp [lfl36]
            have VS332 : Arv Z T316.heap b12 k16 .char (Int32.ofNat ((fl36.set pp cc)).length) (((fl36.set pp cc)).map Value.int) (.int (0 : Int32)) := by rw [LG]; exact Arv_328
            refine E_special X317 (rm := rm_sinit) (a := b318) at_195 rfl rfl (hw _ (List.mem_of_getElem? (i := 25) rfl)) (hw _ (List.mem_of_getElem? (i := 26) rfl)) (hw _ (List.mem_of_getElem? (i := 27) rfl)) (by decide) (hw _ (List.mem_of_getElem? (i := 24) rfl)) (argsL := [(.ref b12)]) (st := [(.ref b318)]) rfl (ct_sinit l Z a0 hw G1 G3 OS b318 b12 k16 (fl36.set pp cc) (.int (0 : Int32)) .null (.int (0 : Int32)) X317.old (by rw [LG]; decide) (by rw [LG]; decide) (set_ch cfl36 bcc) E321 F331 F330 g329 VS332) (lenOf (pd_20) rfl) rfl (by decide) (by decide) (by decide) (Nat.le_of_ble_eq_true rfl) (pc' := 198) rfl ?_
            intro T333 _ X334 hQ335
            obtain ⟨rfl, K336, t337, sz338, S339⟩ := hQ335
            have ne340 : b3 ≠ t337 := Nat.ne_of_lt (Nat.lt_of_lt_of_le Arv_326.lt sz338)
            have ne341 : b23 ≠ t337 := Nat.ne_of_lt (Nat.lt_of_lt_of_le Arv_327.lt sz338)
            have ne342 : b12 ≠ t337 := Nat.ne_of_lt (Nat.lt_of_lt_of_le Arv_328.lt sz338)
            have ne343 : b318 ≠ t337 := Nat.ne_of_lt (Nat.lt_of_lt_of_le E321.lt sz338)
            have Arv_344 := Arv_326.keep K336 (ninS ne323 nin0)
            have Arv_345 := Arv_327.keep K336 (ninS ne324 nin0)
            have Arv_346 := Arv_328.keep K336 (ninS ne325 nin0)
            show Ends p e below s Z _ _ _ T333 (mkF m 198 #[.val (.int p0), .val (.int p1), .val (.int p2), .val (.int p3), .val (.int p4), .val (.int p5), .val (.int (p0 &&& (3 : Int32))), .val (.int cc), .val (.int dd), .val (.int (Int32.ofNat pp)), .val (.int (Int32.ofNat qq)), .val (.ref b3), .val (.ref b12), .val (.ref b23), .val (.int (0 : Int32))] [(.ref b318)])
            refine E_static X334 (rm := rm_wf) at_198 (hw _ (List.mem_of_getElem? (i := 51) rfl)) (hw _ (List.mem_of_getElem? (i := 52) rfl)) (hw _ (List.mem_of_getElem? (i := 53) rfl)) (hw _ (List.mem_of_getElem? (i := 54) rfl)) (by decide) (argsL := [(.ref b318)]) (st := []) rfl (ct_wf l Z a0 hw G1 G3 OS b318 t337 (fl36.set pp cc) X334.old S339) (lenOf (pd_21) rfl) rfl (by decide) (by decide) (by decide) (Nat.le_of_ble_eq_true rfl) (pc' := 201) rfl ?_
            intro T348 _ X349 hQ350
            obtain ⟨z347, rfl, e351, yz347, nz347⟩ := hQ350
            rw [← e351] at Arv_344 Arv_345 Arv_346 S339
            have hW := wf_iff (g := (fl36.set pp cc)) LG (fun i hi e1 e2 => by rw [set_get e1]; exact gfl36 i hi) hpp hqq
            obtain rfl := nz347 (fun q => hd275 (hW.mp q).2)
            show Ends p e below s Z _ _ _ T348 (mkF m 201 #[.val (.int p0), .val (.int p1), .val (.int p2), .val (.int p3), .val (.int p4), .val (.int p5), .val (.int (p0 &&& (3 : Int32))), .val (.int cc), .val (.int dd), .val (.int (Int32.ofNat pp)), .val (.int (Int32.ofNat qq)), .val (.ref b3), .val (.ref b12), .val (.ref b23), .val (.int (0 : Int32))] [(.int (0 : Int32))])
            refine E_iload X349 at_201 rfl (pc' := 203) rfl ?_
            refine E_icF X349 at_203 (XT.ii_ne_f (by decide)) (pc' := 206) rfl ?_
            refine E_iconst X349 (v := (1 : Int32)) at_206 rfl (pc' := 207) rfl ?_
            refine E_goto X349 at_207 (pc' := 211) (by decide) rfl ?_
            exact E_ireturnN X349 (t := .boolean) at_211 rfl (by simp) (by decide) (by decide) (rfl)
        · skip
          obtain rfl := nz268 hd269
          show Ends p e below s Z _ _ _ T270 (mkF m 166 #[.val (.int p0), .val (.int p1), .val (.int p2), .val (.int p3), .val (.int p4), .val (.int p5), .val (.int (p0 &&& (3 : Int32))), .val (.int cc), .val (.int dd), .val (.int (Int32.ofNat pp)), .val (.int (Int32.ofNat qq)), .val (.ref b3), .val (.ref b12), .val (.ref b23), .unset] [(.int (0 : Int32))])
          refine E_ifT X271 at_166 (XT.i0_eq_t (by decide)) (pc' := 186) (by decide) rfl ?_
          refine E_iconst X271 (v := (0 : Int32)) at_186 rfl (pc' := 187) rfl ?_
          refine E_istore X271 at_187 (l' := #[.val (.int p0), .val (.int p1), .val (.int p2), .val (.int p3), .val (.int p4), .val (.int p5), .val (.int (p0 &&& (3 : Int32))), .val (.int cc), .val (.int dd), .val (.int (Int32.ofNat pp)), .val (.int (Int32.ofNat qq)), .val (.ref b3), .val (.ref b12), .val (.ref b23), .val (.int (0 : Int32))]) rfl (pc' := 189) rfl ?_
          refine E_new X271 at_189 (hw _ (List.mem_of_getElem? (i := 22) rfl)) (hw _ (List.mem_of_getElem? (i := 23) rfl)) (hw _ (List.mem_of_getElem? (i := 24) rfl)) (by decide) (by decide) (pc' := 192) rfl ?_
          intro T352 b354 X353 hb355 K356 E357 D358
          have ne359 : b3 ≠ b354 := Nat.ne_of_lt (Nat.lt_of_lt_of_eq Arv_138.lt hb355.symm)
          have ne360 : b23 ≠ b354 := Nat.ne_of_lt (Nat.lt_of_lt_of_eq Arv_139.lt hb355.symm)
          have ne361 : b12 ≠ b354 := Nat.ne_of_lt (Nat.lt_of_lt_of_eq V140.lt hb355.symm)
          have Arv_362 := Arv_138.keep K356 nin0
          have Arv_363 := Arv_139.keep K356 nin0
          have Arv_364 := V140.keep K356 nin0
          have g365 : Z.heap.size ≤ b354 := Nat.le_trans X271.le (Nat.le_of_eq hb355.symm)
          have F366 : Fld Z T352.heap b354 "java/lang/String" "coder" "B" (.int (0 : Int32)) := D358 (Or.inr (hw _ (List.mem_of_getElem? (i := 48) rfl))) (ty := .byte) (by decide)
          have F367 : Fld Z T352.heap b354 "java/lang/String" "value" "[B" .null := D358 (Or.inr (hw _ (List.mem_of_getElem? (i := 50) rfl))) (ty := (.array .byte)) (by decide)
          refine E_dup X353 at_192 rfl (pc' := 193) rfl ?_
          refine E_aload X353 at_193 rfl rfl (pc' := 195) rfl ?_
          have LG : ((fl36.set pp cc)).length = 36 := by simp [lfl36]
          have VS368 : Arv Z T352.heap b12 k16 .char (Int32.ofNat ((fl36.set pp cc)).length) (((fl36.set pp cc)).map Value.int) (.int (0 : Int32)) := by rw [LG]; exact Arv_364
          refine E_special X353 (rm := rm_sinit) (a := b354) at_195 rfl rfl (hw _ (List.mem_of_getElem? (i := 25) rfl)) (hw _ (List.mem_of_getElem? (i := 26) rfl)) (hw _ (List.mem_of_getElem? (i := 27) rfl)) (by decide) (hw _ (List.mem_of_getElem? (i := 24) rfl)) (argsL := [(.ref b12)]) (st := [(.ref b354)]) rfl (ct_sinit l Z a0 hw G1 G3 OS b354 b12 k16 (fl36.set pp cc) (.int (0 : Int32)) .null (.int (0 : Int32)) X353.old (by rw [LG]; decide) (by rw [LG]; decide) (set_ch cfl36 bcc) E357 F367 F366 g365 VS368) (lenOf (pd_20) rfl) rfl (by decide) (by decide) (by decide) (Nat.le_of_ble_eq_true rfl) (pc' := 198) rfl ?_
          intro T369 _ X370 hQ371
          obtain ⟨rfl, K372, t373, sz374, S375⟩ := hQ371
          have ne376 : b3 ≠ t373 := Nat.ne_of_lt (Nat.lt_of_lt_of_le Arv_362.lt sz374)
          have ne377 : b23 ≠ t373 := Nat.ne_of_lt (Nat.lt_of_lt_of_le Arv_363.lt sz374)
          have ne378 : b12 ≠ t373 := Nat.ne_of_lt (Nat.lt_of_lt_of_le Arv_364.lt sz374)
          have ne379 : b354 ≠ t373 := Nat.ne_of_lt (Nat.lt_of_lt_of_le E357.lt sz374)
          have Arv_380 := Arv_362.keep K372 (ninS ne359 nin0)
          have Arv_381 := Arv_363.keep K372 (ninS ne360 nin0)
          have Arv_382 := Arv_364.keep K372 (ninS ne361 nin0)
          show Ends p e below s Z _ _ _ T369 (mkF m 198 #[.val (.int p0), .val (.int p1), .val (.int p2), .val (.int p3), .val (.int p4), .val (.int p5), .val (.int (p0 &&& (3 : Int32))), .val (.int cc), .val (.int dd), .val (.int (Int32.ofNat pp)), .val (.int (Int32.ofNat qq)), .val (.ref b3), .val (.ref b12), .val (.ref b23), .val (.int (0 : Int32))] [(.ref b354)])
          refine E_static X370 (rm := rm_wf) at_198 (hw _ (List.mem_of_getElem? (i := 51) rfl)) (hw _ (List.mem_of_getElem? (i := 52) rfl)) (hw _ (List.mem_of_getElem? (i := 53) rfl)) (hw _ (List.mem_of_getElem? (i := 54) rfl)) (by decide) (argsL := [(.ref b354)]) (st := []) rfl (ct_wf l Z a0 hw G1 G3 OS b354 t373 (fl36.set pp cc) X370.old S375) (lenOf (pd_21) rfl) rfl (by decide) (by decide) (by decide) (Nat.le_of_ble_eq_true rfl) (pc' := 201) rfl ?_
          intro T384 _ X385 hQ386
          obtain ⟨z383, rfl, e387, yz383, nz383⟩ := hQ386
          rw [← e387] at Arv_380 Arv_381 Arv_382 S375
          have hW := wf_iff (g := (fl36.set pp cc)) LG (fun i hi e1 e2 => by rw [set_get e1]; exact gfl36 i hi) hpp hqq
          obtain rfl := nz383 (fun q => hd269 (hW.mp q).1)
          show Ends p e below s Z _ _ _ T384 (mkF m 201 #[.val (.int p0), .val (.int p1), .val (.int p2), .val (.int p3), .val (.int p4), .val (.int p5), .val (.int (p0 &&& (3 : Int32))), .val (.int cc), .val (.int dd), .val (.int (Int32.ofNat pp)), .val (.int (Int32.ofNat qq)), .val (.ref b3), .val (.ref b12), .val (.ref b23), .val (.int (0 : Int32))] [(.int (0 : Int32))])
          refine E_iload X385 at_201 rfl (pc' := 203) rfl ?_
          refine E_icF X385 at_203 (XT.ii_ne_f (by decide)) (pc' := 206) rfl ?_
          refine E_iconst X385 (v := (1 : Int32)) at_206 rfl (pc' := 207) rfl ?_
          refine E_goto X385 at_207 (pc' := 211) (by decide) rfl ?_
          exact E_ireturnN X385 (t := .boolean) at_211 rfl (by simp) (by decide) (by decide) (rfl)
set_option maxRecDepth 65536 in
set_option maxHeartbeats 40000000 in
theorem comes_1 {Post : Tables → Env → Array Value → State → Outcome → State → Prop} (hpost : ∀ tb e args s v u, (limb_1_1.after args s (.returned v) u = true ∧ limb_1_2.after args s (.returned v) u = true ∧ True) → FrameEnd s (.returned v) u (Jvm.fieldLocs frame_1_writes args s ++ Jvm.arrayLocs frame_1_arrays args s ++ Jvm.staticLocs frame_1_statics s) 24 512 → Post tb e args s (.returned v) u) :
    ArmFor flags0 classFile x code maxLocals ret World_1 tables_1 room_1 Calls_1 rest_1 Pre_1 Post := by
  intro l hfl _ _ p e ha hc hk s m args below hf hA hF happ hP
  obtain ⟨hcalls, hrest, hpre⟩ := hP
  obtain ⟨-, -, -, hnamed, -, -, -, hat⟩ := (Spec.applies_iff hf).mp happ
  obtain ⟨hg, hn⟩ := and_e (Cond.before_iff.mp (show (Jvm.Cond.and given_1 narrow_1).before args s = true from hpre))
  obtain ⟨hcnt, g0⟩ := and_e hg
  obtain ⟨i0, g1⟩ := and_e g0
  obtain ⟨i1, g2⟩ := and_e g1
  obtain ⟨i2, g3⟩ := and_e g2
  obtain ⟨i3, g4⟩ := and_e g3
  obtain ⟨i4, g5⟩ := and_e g4
  obtain ⟨w0, w1, w2, w3, w4, w5, rfl⟩ : ∃ w0 w1 w2 w3 w4 w5 : Value, args = #[w0, w1, w2, w3, w4, w5] := by
    have hs : args.size = 6 := by simpa [Cond.value, given_1] using hcnt
    obtain ⟨L⟩ := args
    match L, hs with
    | [w0, w1, w2, w3, w4, w5], _ => exact ⟨w0, w1, w2, w3, w4, w5, rfl⟩
  have hw := fun d (hd : d ∈ tables_1) => atoms_spec (ws := Jvm.Cond.code x code maxLocals ret :: tables_1) hat d (List.mem_cons_of_mem _ hd)
  obtain ⟨hsets, hown0⟩ := atoms_of _ (rest_1_c_eq ▸ (show rest_1_c.before _ s = true from hrest))
  have hr0 := Cond.before_iff.mp hown0
  have hfit : Fit s := fun {y c} hc i hi => by
    obtain ⟨ha, rfl⟩ := Array.getElem?_eq_some_iff.mp hc
    have q := List.all_eq_true.mp ((Array.all_eq_true_iff_forall_mem.mp hF) _ (Array.getElem_mem ha)) i (List.mem_range.mpr hi)
    simpa [Array.getElem?_eq_getElem hi] using q
  obtain ⟨x0, ex0⟩ := is_v i0
  obtain rfl : w0 = (.int x0) := Option.some.inj ex0
  obtain ⟨x1, ex1⟩ := is_v i1
  obtain rfl : w1 = (.int x1) := Option.some.inj ex1
  obtain ⟨x2, ex2⟩ := is_v i2
  obtain rfl : w2 = (.int x2) := Option.some.inj ex2
  obtain ⟨x3, ex3⟩ := is_v i3
  obtain rfl : w3 = (.int x3) := Option.some.inj ex3
  obtain ⟨x4, ex4⟩ := is_v i4
  obtain rfl : w4 = (.int x4) := Option.some.inj ex4
  obtain ⟨x5, ex5⟩ := is_v g5
  obtain rfl : w5 = (.int x5) := Option.some.inj ex5
  have n5 := not_v (Cond.before_iff.mp (hsets _ (List.mem_of_getElem? (i := 2) rfl)))
  obtain ⟨g1, eg1⟩ := is_v (Cond.before_iff.mp (hsets _ (List.mem_of_getElem? (i := 1) rfl)))
  have S12 : Sta s s.heap "java/lang/String" "COMPACT_STRINGS" "Z" (.int g1) := Sta.start eg1 (Or.inl (hsets _ (List.mem_of_getElem? (i := 0) rfl)))
  obtain ⟨g3, eg3, r15⟩ := isR_v (Cond.before_iff.mp (hsets _ (List.mem_of_getElem? (i := 8) rfl)))
  have S16 : Sta s s.heap "jdk/internal/util/Preconditions" "SIOOBE_FORMATTER" "Ljava/util/function/BiFunction;" g3 := Sta.start eg3 (Or.inl (hsets _ (List.mem_of_getElem? (i := 7) rfl)))
  have c17 : ¬ (g1 = (0 : Int32)) := gotF (Cond.eq_ints eg1 (Term.int_eval (0))) n5
  have SA : Sta s s.heap "java/lang/StringUTF16" "$assertionsDisabled" "Z" (.int 1) := Sta.start (eqv_i (Term.int_eval (1)) (Cond.before_iff.mp (hsets _ (List.mem_of_getElem? (i := 12) rfl)))) (Or.inl (hsets _ (List.mem_of_getElem? (i := 11) rfl)))
  have SH : Sta s s.heap "java/lang/StringUTF16" "HI_BYTE_SHIFT" "I" (.int 0) := Sta.start (eqv_i (Term.int_eval (0)) (Cond.before_iff.mp (hsets _ (List.mem_of_getElem? (i := 15) rfl)))) (Or.inl (hsets _ (List.mem_of_getElem? (i := 14) rfl)))
  have SL : Sta s s.heap "java/lang/StringUTF16" "LO_BYTE_SHIFT" "I" (.int 8) := Sta.start (eqv_i (Term.int_eval (8)) (Cond.before_iff.mp (hsets _ (List.mem_of_getElem? (i := 18) rfl)))) (Or.inl (hsets _ (List.mem_of_getElem? (i := 17) rfl)))
  obtain ⟨n, o, h1, h2, h3, _, L, rfl, ⟨N, -, rfl⟩, hq⟩ := ct_law l s _ hw x0 x1 x2 x3 x4 x5 g1 g3 ⟨Nat.le_refl _, fun _ _ q => q⟩ ⟨S12, c17, S16, r15, SA, SH, SL⟩ tables_1 p e ha hc hk s m _ below hf ((Spec.applies_iff_loose hf).mp happ).1 ⟨rfl, State.Warmed39.refl s, rfl⟩ trivial
  refine ⟨n, _, h1, h2, h3, hpost _ _ _ _ _ _ ⟨Cond.after_iff.mpr rfl, Cond.after_iff.mpr (eq_i res_at (Term.int_eval (1)) rfl), trivial⟩ ⟨hq.1, hq.2.1, (hq.2.2.sift fun y hy => Or.inr (N y hy)).mono (by decide) (by decide)⟩⟩
theorem main_1_1 : Claimed_1_1 := comes_1 fun _ _ _ _ _ _ h hF => ⟨h.1, hF⟩
theorem main_1_2 : Claimed_1_2 := comes_1 fun _ _ _ _ _ _ h hF => ⟨h.2.1, hF⟩
end Jvm.Pilot.@@N@@
namespace Jvm.Pilot.@@N@@
open Jvm Jvm.ClassFile Sem Op Lib Jvm.Free Jvm.Stand Jvm.Pilot.@@N@@.Jvm.D
/-! MADE BY PROGRAM (witnessworld.py) out of the Statement's table words and the real class files: 20 classes; the members and pool entries that the words name. The judged class is class 1, her method 1. -/
namespace start1
open Jvm.ClassFile
def u (s : String) : CpInfo := .utf8 (stringToUtf16 s)
/-- a pool by its gaps: so many unusable entries, then the entry; so many at the end -/
def gap : Nat → List CpInfo → List CpInfo
  | 0, r => r
  | n + 1, r => .unusable :: gap n r
def poolList (es : List (Nat × CpInfo)) (last : Nat) : List CpInfo := es.foldr (fun e r => gap e.1 (e.2 :: r)) (gap last [])
def pool (es : List (Nat × CpInfo)) (last : Nat) : Array CpInfo := ⟨poolList es last⟩
def fileOf (pool : Array CpInfo) (this : Nat) (attrs : Array Attribute := #[]) (ms : Array MethodInfo := #[]) (fl : Nat := 33) (sup : Nat := 0) (ifs : Array Nat := #[]) (fds : Array FieldInfo := #[]) : ClassFile where
  minorVersion := 0
  majorVersion := 65
  constantPool := pool
  accessFlags := fl
  thisClass := this
  superClass := sup
  interfaces := ifs
  fields := fds
  methods := ms
  attributes := attrs
def plain (name : String) (sup : Option ClassId) : Class where
  name := name
  kind := .ordinary
  loader := none
  accessFlags := 33
  super := sup
  interfaces := #[]
  cf := none
  fields := #[]
  methods := #[]
  instanceTypes := #[]
  staticTypes := #[]
  resolved := #[]
  callSites := []
  init := .initialized
  statics := none
  mirror := none

def pool0 : Array CpInfo := pool [(5, u "<init>"), (0, u "()V"), (1, .class_ 10), (1, u "java/lang/Object")] 113

def k0c0 : Code := { maxStack := 0, maxLocals := 1, code := object_method_1_code, exceptionTable := #[], attributes := #[] }
def k0m0 : Method := { name := "<init>", desc := "()V", sig := { parameters := [], returnType := none }, accessFlags := 1, code := some k0c0 }
/-- java/lang/Object -/
def k0 : Class := { plain "java/lang/Object" none with
  accessFlags := 33
  interfaces := #[]
  cf := some (fileOf pool0 8 #[] #[{ accessFlags := 1, nameIndex := 5, descriptorIndex := 6, attributes := #[] }] 33 0 #[] #[])
  fields := #[]
  methods := #[k0m0]
  instanceTypes := #[]
  staticTypes := #[]
  resolved := Array.replicate 124 none
  statics := none }

def pool1 : Array CpInfo := pool [(2, .class_ 4), (1, u "java/lang/Object"), (0, u "<init>"), (0, u "()V"), (0, .integer 65535), (0, .integer 2147483647), (0, .methodref 10 11), (0, .class_ 12), (0, .nameAndType 13 14), (0, u "com/example/detached_state/detachedstate/SessionIdsIsWellFormedPinLaw"), (0, u "fill"), (0, u "([CI)V"), (0, .class_ 16), (0, u "java/lang/String"), (0, .methodref 15 18), (0, .nameAndType 5 19), (0, u "([C)V"), (0, .methodref 21 22), (0, .class_ 23), (0, .nameAndType 24 25), (0, u "com/example/detached_state/detachedstate/SessionIds"), (0, u "isWellFormed"), (0, u "(Ljava/lang/String;)Z"), (0, .methodref 10 27), (0, .nameAndType 28 29), (0, u "okAt"), (0, u "(IC)Z"), (0, .methodref 10 31), (0, .nameAndType 32 33), (0, u "isDashPos"), (0, u "(I)Z"), (0, .methodref 10 35), (0, .nameAndType 36 37), (0, u "isHex"), (0, u "(C)Z"), (0, .methodref 10 39), (0, .nameAndType 40 41), (0, u "hexChar"), (0, u "(I)C"), (0, .methodref 10 43), (0, .nameAndType 44 45), (0, u "at"), (0, u "(II)C"), (2, u "law"), (0, u "(IIIIII)Z")] 5

def k1m0 : Method := { name := "<init>", desc := "()V", sig := { parameters := [], returnType := none }, accessFlags := 1, code := none }
def k1c1 : Code := { maxStack := 3, maxLocals := 15, code := code, exceptionTable := #[], attributes := #[] }
def k1m1 : Method := { name := "law", desc := "(IIIIII)Z", sig := { parameters := [.int, .int, .int, .int, .int, .int], returnType := some .boolean }, accessFlags := 9, code := some k1c1 }
def k1c2 : Code := { maxStack := 2, maxLocals := 1, code := method_3_code, exceptionTable := #[], attributes := #[] }
def k1m2 : Method := { name := "isDashPos", desc := "(I)Z", sig := { parameters := [.int], returnType := some .boolean }, accessFlags := 10, code := some k1c2 }
def k1c3 : Code := { maxStack := 2, maxLocals := 2, code := method_4_code, exceptionTable := #[], attributes := #[] }
def k1m3 : Method := { name := "isHex", desc := "(C)Z", sig := { parameters := [.char], returnType := some .boolean }, accessFlags := 10, code := some k1c3 }
def k1c4 : Code := { maxStack := 2, maxLocals := 2, code := method_5_code, exceptionTable := #[], attributes := #[] }
def k1m4 : Method := { name := "okAt", desc := "(IC)Z", sig := { parameters := [.int, .char], returnType := some .boolean }, accessFlags := 10, code := some k1c4 }
def k1c5 : Code := { maxStack := 3, maxLocals := 1, code := method_6_code, exceptionTable := #[], attributes := #[] }
def k1m5 : Method := { name := "hexChar", desc := "(I)C", sig := { parameters := [.int], returnType := some .char }, accessFlags := 10, code := some k1c5 }
def k1c6 : Code := { maxStack := 2, maxLocals := 2, code := method_7_code, exceptionTable := #[], attributes := #[] }
def k1m6 : Method := { name := "at", desc := "(II)C", sig := { parameters := [.int, .int], returnType := some .char }, accessFlags := 10, code := some k1c6 }
def k1c7 : Code := { maxStack := 4, maxLocals := 2, code := method_8_code, exceptionTable := #[], attributes := #[] }
def k1m7 : Method := { name := "fill", desc := "([CI)V", sig := { parameters := [(.array .char), .int], returnType := none }, accessFlags := 10, code := some k1c7 }
/-- com/example/detached_state/detachedstate/SessionIdsIsWellFormedPinLaw -/
def k1 : Class := { plain "com/example/detached_state/detachedstate/SessionIdsIsWellFormedPinLaw" (some 0) with
  accessFlags := 49
  interfaces := #[]
  cf := some (fileOf pool1 10 #[] #[{ accessFlags := 1, nameIndex := 5, descriptorIndex := 6, attributes := #[] }, { accessFlags := 9, nameIndex := 48, descriptorIndex := 49, attributes := #[] }, { accessFlags := 10, nameIndex := 32, descriptorIndex := 33, attributes := #[] }, { accessFlags := 10, nameIndex := 36, descriptorIndex := 37, attributes := #[] }, { accessFlags := 10, nameIndex := 28, descriptorIndex := 29, attributes := #[] }, { accessFlags := 10, nameIndex := 40, descriptorIndex := 41, attributes := #[] }, { accessFlags := 10, nameIndex := 44, descriptorIndex := 45, attributes := #[] }, { accessFlags := 10, nameIndex := 13, descriptorIndex := 14, attributes := #[] }] 49 2 #[] #[])
  fields := #[]
  methods := #[k1m0, k1m1, k1m2, k1m3, k1m4, k1m5, k1m6, k1m7]
  instanceTypes := #[]
  staticTypes := #[]
  resolved := Array.replicate 55 none
  statics := none }

def pool2 : Array CpInfo := pool [(1, .class_ 2), (0, u "java/io/Serializable"), (0, .class_ 4), (0, u "java/lang/Object")] 2

/-- java/io/Serializable -/
def k2 : Class := { plain "java/io/Serializable" (some 0) with
  accessFlags := 1537
  interfaces := #[]
  cf := some (fileOf pool2 1 #[] #[] 1537 3 #[] #[])
  fields := #[]
  methods := #[]
  instanceTypes := #[]
  staticTypes := #[]
  resolved := Array.replicate 7 none
  statics := none }

def pool3 : Array CpInfo := pool [(1, .class_ 2), (0, u "java/lang/Comparable"), (0, .class_ 4), (0, u "java/lang/Object")] 7

/-- java/lang/Comparable -/
def k3 : Class := { plain "java/lang/Comparable" (some 0) with
  accessFlags := 1537
  interfaces := #[]
  cf := some (fileOf pool3 1 #[] #[] 1537 3 #[] #[])
  fields := #[]
  methods := #[]
  instanceTypes := #[]
  staticTypes := #[]
  resolved := Array.replicate 12 none
  statics := none }

def pool4 : Array CpInfo := pool [(2, .class_ 4), (1, u "java/lang/CharSequence"), (42, .class_ 48), (0, u "java/lang/CharSequence$1CodePointIterator"), (10, .class_ 60), (0, u "java/lang/CharSequence$1CharIterator"), (5, .class_ 67), (0, u "java/lang/Object")] 63

/-- java/lang/CharSequence -/
def k4 : Class := { plain "java/lang/CharSequence" (some 0) with
  accessFlags := 1537
  interfaces := #[]
  cf := some (fileOf pool4 2 #[.nestMembers #[47, 59]] #[] 1537 66 #[] #[])
  fields := #[]
  methods := #[]
  instanceTypes := #[]
  staticTypes := #[]
  resolved := Array.replicate 131 none
  statics := none }

def pool5 : Array CpInfo := pool [(1, .class_ 2), (0, u "java/lang/constant/Constable"), (0, .class_ 4), (0, u "java/lang/Object")] 6

/-- java/lang/constant/Constable -/
def k5 : Class := { plain "java/lang/constant/Constable" (some 0) with
  accessFlags := 1537
  interfaces := #[]
  cf := some (fileOf pool5 1 #[] #[] 1537 3 #[] #[])
  fields := #[]
  methods := #[]
  instanceTypes := #[]
  staticTypes := #[]
  resolved := Array.replicate 11 none
  statics := none }

def pool6 : Array CpInfo := pool [(1, .class_ 2), (0, u "java/lang/constant/ConstantDesc"), (0, .class_ 4), (0, u "java/lang/Object")] 32

/-- java/lang/constant/ConstantDesc -/
def k6 : Class := { plain "java/lang/constant/ConstantDesc" (some 0) with
  accessFlags := 1537
  interfaces := #[]
  cf := some (fileOf pool6 1 #[] #[] 1537 3 #[] #[])
  fields := #[]
  methods := #[]
  instanceTypes := #[]
  staticTypes := #[]
  resolved := Array.replicate 37 none
  statics := none }

def pool7 : Array CpInfo := pool [(1, .methodref 2 3), (0, .class_ 4), (0, .nameAndType 5 6), (0, u "java/lang/Object"), (0, u "<init>"), (0, u "()V"), (2, .fieldref 10 11), (0, .class_ 12), (0, .nameAndType 13 14), (0, u "java/lang/String"), (0, u "value"), (0, u "[B"), (0, .fieldref 10 16), (0, .nameAndType 17 18), (0, u "coder"), (0, u "B"), (2, u "hash"), (0, u "I"), (2, u "hashIsZero"), (0, u "Z"), (0, .methodref 10 28), (0, .nameAndType 5 29), (0, u "([CIILjava/lang/Void;)V"), (8, .fieldref 10 39), (0, .nameAndType 40 26), (0, u "COMPACT_STRINGS"), (1, .class_ 44), (1, u "java/lang/StringUTF16"), (0, u "compress"), (1, .methodref 42 48), (0, .nameAndType 49 50), (0, u "coderFromArrayLen"), (0, u "([BI)B"), (56, .class_ 109), (1, u "java/lang/StringLatin1"), (32, u "()Z"), (34, .methodref 42 178), (0, .nameAndType 45 179), (0, u "([CII)[B"), (154, u "()I"), (0, .methodref 10 336), (0, .nameAndType 17 337), (0, u "()B"), (25, u "([BI)C"), (27, u "(II)V"), (35, u "(I)C"), (64, .methodref 10 493), (0, .nameAndType 494 142), (0, u "isLatin1"), (0, .methodref 107 496), (0, .nameAndType 497 363), (0, u "charAt"), (0, .methodref 42 496), (2, u "checkIndex"), (5, u "length"), (67, .class_ 576), (0, u "java/lang/CharSequence"), (22, u "CASE_INSENSITIVE_ORDER"), (0, u "Ljava/util/Comparator;"), (409, u "([C)V"), (42, .fieldref 1054 1055), (0, .class_ 1056), (0, .nameAndType 1057 1058), (0, u "jdk/internal/util/Preconditions"), (0, u "SIOOBE_FORMATTER"), (0, u "Ljava/util/function/BiFunction;"), (0, .methodref 1054 1060), (0, .nameAndType 501 1061), (0, u "(IILjava/util/function/BiFunction;)I"), (39, u "serialPersistentFields"), (0, u "[Ljava/io/ObjectStreamField;"), (0, .class_ 1104), (0, u "java/lang/String$CaseInsensitiveComparator"), (1, .class_ 1107), (0, u "java/io/Serializable"), (0, .class_ 1109), (0, u "java/lang/Comparable"), (0, .class_ 1111), (0, u "java/lang/constant/Constable"), (0, .class_ 1113), (0, u "java/lang/constant/ConstantDesc"), (2, u "serialVersionUID"), (0, u "J"), (3, u "REPL"), (0, u "C"), (2, u "LATIN1"), (1, u "UTF16")] 323

def k7m0 : Method := { name := "<init>", desc := "()V", sig := { parameters := [], returnType := none }, accessFlags := 1, code := none }
def k7c1 : Code := { maxStack := 5, maxLocals := 2, code := jdk_42_method_3_code, exceptionTable := #[], attributes := #[] }
def k7m1 : Method := { name := "<init>", desc := "([C)V", sig := { parameters := [(.array .char)], returnType := none }, accessFlags := 1, code := some k7c1 }
def k7c2 : Code := { maxStack := 2, maxLocals := 1, code := jdk_42_method_54_code, exceptionTable := #[], attributes := #[] }
def k7m2 : Method := { name := "length", desc := "()I", sig := { parameters := [], returnType := some .int }, accessFlags := 1, code := some k7c2 }
def k7c3 : Code := { maxStack := 2, maxLocals := 2, code := jdk_42_method_56_code, exceptionTable := #[], attributes := #[] }
def k7m3 : Method := { name := "charAt", desc := "(I)C", sig := { parameters := [.int], returnType := some .char }, accessFlags := 1, code := some k7c3 }
def k7c4 : Code := { maxStack := 4, maxLocals := 6, code := jdk_42_method_149_code, exceptionTable := #[], attributes := #[] }
def k7m4 : Method := { name := "<init>", desc := "([CIILjava/lang/Void;)V", sig := { parameters := [(.array .char), .int, .int, (.object "java/lang/Void")], returnType := none }, accessFlags := 2, code := some k7c4 }
def k7c5 : Code := { maxStack := 1, maxLocals := 1, code := jdk_42_method_152_code, exceptionTable := #[], attributes := #[] }
def k7m5 : Method := { name := "coder", desc := "()B", sig := { parameters := [], returnType := some .byte }, accessFlags := 0, code := some k7c5 }
def k7c6 : Code := { maxStack := 1, maxLocals := 1, code := jdk_42_method_154_code, exceptionTable := #[], attributes := #[] }
def k7m6 : Method := { name := "isLatin1", desc := "()Z", sig := { parameters := [], returnType := some .boolean }, accessFlags := 0, code := some k7c6 }
def k7c7 : Code := { maxStack := 3, maxLocals := 2, code := jdk_42_method_155_code, exceptionTable := #[], attributes := #[] }
def k7m7 : Method := { name := "checkIndex", desc := "(II)V", sig := { parameters := [.int, .int], returnType := none }, accessFlags := 8, code := some k7c7 }
/-- java/lang/String -/
def k7 : Class := { plain "java/lang/String" (some 0) with
  accessFlags := 49
  interfaces := #[2, 3, 4, 5, 6]
  cf := some (fileOf pool7 10 #[.nestMembers #[1103]] #[{ accessFlags := 1, nameIndex := 5, descriptorIndex := 6, attributes := #[] }, { accessFlags := 1, nameIndex := 5, descriptorIndex := 1010, attributes := #[] }, { accessFlags := 1, nameIndex := 507, descriptorIndex := 334, attributes := #[] }, { accessFlags := 1, nameIndex := 497, descriptorIndex := 427, attributes := #[] }, { accessFlags := 2, nameIndex := 5, descriptorIndex := 29, attributes := #[] }, { accessFlags := 0, nameIndex := 17, descriptorIndex := 337, attributes := #[] }, { accessFlags := 0, nameIndex := 494, descriptorIndex := 142, attributes := #[] }, { accessFlags := 8, nameIndex := 501, descriptorIndex := 391, attributes := #[] }] 49 2 #[1106, 1108, 575, 1110, 1112] #[{ accessFlags := 18, nameIndex := 13, descriptorIndex := 14, attributes := #[] }, { accessFlags := 18, nameIndex := 17, descriptorIndex := 18, attributes := #[] }, { accessFlags := 2, nameIndex := 21, descriptorIndex := 22, attributes := #[] }, { accessFlags := 2, nameIndex := 25, descriptorIndex := 26, attributes := #[] }, { accessFlags := 26, nameIndex := 1116, descriptorIndex := 1117, attributes := #[] }, { accessFlags := 24, nameIndex := 40, descriptorIndex := 26, attributes := #[] }, { accessFlags := 26, nameIndex := 1101, descriptorIndex := 1102, attributes := #[] }, { accessFlags := 26, nameIndex := 1121, descriptorIndex := 1122, attributes := #[] }, { accessFlags := 25, nameIndex := 599, descriptorIndex := 600, attributes := #[] }, { accessFlags := 24, nameIndex := 1125, descriptorIndex := 18, attributes := #[] }, { accessFlags := 24, nameIndex := 1127, descriptorIndex := 18, attributes := #[] }])
  fields := #[{ name := "value", type := (.array .byte), accessFlags := 18, slot := 0, constantValue := 0 }, { name := "coder", type := .byte, accessFlags := 18, slot := 1, constantValue := 0 }, { name := "hash", type := .int, accessFlags := 2, slot := 2, constantValue := 0 }, { name := "hashIsZero", type := .boolean, accessFlags := 2, slot := 3, constantValue := 0 }, { name := "serialVersionUID", type := .long, accessFlags := 26, slot := 0, constantValue := 0 }, { name := "COMPACT_STRINGS", type := .boolean, accessFlags := 24, slot := 1, constantValue := 0 }, { name := "serialPersistentFields", type := (.array (.object "java/io/ObjectStreamField")), accessFlags := 26, slot := 2, constantValue := 0 }, { name := "REPL", type := .char, accessFlags := 26, slot := 3, constantValue := 0 }, { name := "CASE_INSENSITIVE_ORDER", type := (.object "java/util/Comparator"), accessFlags := 25, slot := 4, constantValue := 0 }, { name := "LATIN1", type := .byte, accessFlags := 24, slot := 5, constantValue := 0 }, { name := "UTF16", type := .byte, accessFlags := 24, slot := 6, constantValue := 0 }]
  methods := #[k7m0, k7m1, k7m2, k7m3, k7m4, k7m5, k7m6, k7m7]
  instanceTypes := #[(.array .byte), .byte, .int, .boolean]
  staticTypes := #[.long, .boolean, (.array (.object "java/io/ObjectStreamField")), .char, (.object "java/util/Comparator"), .byte, .byte]
  resolved := Array.replicate 1451 none
  statics := some 0 }

def pool8 : Array CpInfo := pool [(3, .class_ 4), (0, u "java/lang/String"), (1, .class_ 8), (1, u "java/lang/Object"), (0, u "<init>"), (0, u "()V"), (0, .methodref 12 13), (0, .class_ 14), (0, .nameAndType 15 16), (0, u "java/lang/StringUTF16"), (0, u "newBytesLength"), (0, u "(I)I"), (3, .integer 1073741823), (23, .fieldref 12 45), (0, .nameAndType 46 47), (0, u "$assertionsDisabled"), (0, u "Z"), (0, .methodref 12 49), (0, .nameAndType 50 51), (0, u "length"), (0, u "([B)I"), (7, .fieldref 12 60), (0, .nameAndType 61 62), (0, u "HI_BYTE_SHIFT"), (0, u "I"), (0, .fieldref 12 64), (0, .nameAndType 65 62), (0, u "LO_BYTE_SHIFT"), (1, .methodref 12 68), (0, .nameAndType 69 70), (0, u "checkIndex"), (0, u "(I[B)V"), (0, .methodref 12 72), (0, .nameAndType 73 74), (0, u "getChar"), (0, u "([BI)C"), (32, .methodref 12 108), (0, .nameAndType 109 110), (0, u "newBytesFor"), (0, u "(I)[B"), (0, .methodref 12 112), (0, .nameAndType 113 114), (0, u "putChar"), (0, u "([BII)V"), (0, .methodref 12 116), (0, .nameAndType 117 118), (0, u "compress"), (0, u "([CI[BII)I"), (0, .methodref 12 120), (0, .nameAndType 121 122), (0, u "toBytes"), (0, u "([CII)[B"), (138, u "coderFromArrayLen"), (0, u "([BI)B"), (106, .class_ 371), (1, u "java/lang/StringUTF16$LinesSpliterator"), (20, u "charAt"), (21, .methodref 3 415), (0, .nameAndType 69 416), (0, u "(II)V"), (13, u "MAX_LENGTH"), (196, .class_ 628), (0, u "java/lang/StringUTF16$CodePointsSpliterator"), (0, .class_ 630), (0, u "java/lang/StringUTF16$CharsSpliterator")] 4

def k8m0 : Method := { name := "<init>", desc := "()V", sig := { parameters := [], returnType := none }, accessFlags := 0, code := none }
def k8c1 : Code := { maxStack := 1, maxLocals := 1, code := jdk_52_method_2_code, exceptionTable := #[], attributes := #[] }
def k8m1 : Method := { name := "newBytesFor", desc := "(I)[B", sig := { parameters := [.int], returnType := some (.array .byte) }, accessFlags := 9, code := some k8c1 }
def k8c2 : Code := { maxStack := 4, maxLocals := 1, code := jdk_52_method_3_code, exceptionTable := #[], attributes := #[] }
def k8m2 : Method := { name := "newBytesLength", desc := "(I)I", sig := { parameters := [.int], returnType := some .int }, accessFlags := 9, code := some k8c2 }
def k8c3 : Code := { maxStack := 4, maxLocals := 3, code := jdk_52_method_4_code, exceptionTable := #[], attributes := #[] }
def k8m3 : Method := { name := "putChar", desc := "([BII)V", sig := { parameters := [(.array .byte), .int, .int], returnType := none }, accessFlags := 8, code := some k8c3 }
def k8c4 : Code := { maxStack := 3, maxLocals := 2, code := jdk_52_method_5_code, exceptionTable := #[], attributes := #[] }
def k8m4 : Method := { name := "getChar", desc := "([BI)C", sig := { parameters := [(.array .byte), .int], returnType := some .char }, accessFlags := 8, code := some k8c4 }
def k8c5 : Code := { maxStack := 2, maxLocals := 1, code := jdk_52_method_6_code, exceptionTable := #[], attributes := #[] }
def k8m5 : Method := { name := "length", desc := "([B)I", sig := { parameters := [(.array .byte)], returnType := some .int }, accessFlags := 9, code := some k8c5 }
def k8c6 : Code := { maxStack := 4, maxLocals := 5, code := jdk_52_method_14_code, exceptionTable := #[], attributes := #[] }
def k8m6 : Method := { name := "toBytes", desc := "([CII)[B", sig := { parameters := [(.array .char), .int, .int], returnType := some (.array .byte) }, accessFlags := 9, code := some k8c6 }
def k8c7 : Code := { maxStack := 2, maxLocals := 2, code := jdk_52_method_15_code, exceptionTable := #[], attributes := #[] }
def k8m7 : Method := { name := "coderFromArrayLen", desc := "([BI)B", sig := { parameters := [(.array .byte), .int], returnType := some .byte }, accessFlags := 8, code := some k8c7 }
def k8c8 : Code := { maxStack := 5, maxLocals := 6, code := jdk_52_method_16_code, exceptionTable := #[], attributes := #[] }
def k8m8 : Method := { name := "compress", desc := "([CII)[B", sig := { parameters := [(.array .char), .int, .int], returnType := some (.array .byte) }, accessFlags := 9, code := some k8c8 }
def k8c9 : Code := { maxStack := 3, maxLocals := 7, code := jdk_52_method_21_code, exceptionTable := #[], attributes := #[] }
def k8m9 : Method := { name := "compress", desc := "([CI[BII)I", sig := { parameters := [(.array .char), .int, (.array .byte), .int, .int], returnType := some .int }, accessFlags := 9, code := some k8c9 }
def k8c10 : Code := { maxStack := 2, maxLocals := 2, code := jdk_52_method_83_code, exceptionTable := #[], attributes := #[] }
def k8m10 : Method := { name := "charAt", desc := "([BI)C", sig := { parameters := [(.array .byte), .int], returnType := some .char }, accessFlags := 9, code := some k8c10 }
def k8c11 : Code := { maxStack := 2, maxLocals := 2, code := jdk_52_method_91_code, exceptionTable := #[], attributes := #[] }
def k8m11 : Method := { name := "checkIndex", desc := "(I[B)V", sig := { parameters := [.int, (.array .byte)], returnType := none }, accessFlags := 9, code := some k8c11 }
/-- java/lang/StringUTF16 -/
def k8 : Class := { plain "java/lang/StringUTF16" (some 0) with
  accessFlags := 48
  interfaces := #[]
  cf := some (fileOf pool8 12 #[.nestMembers #[627, 629, 369]] #[{ accessFlags := 0, nameIndex := 9, descriptorIndex := 10, attributes := #[] }, { accessFlags := 9, nameIndex := 109, descriptorIndex := 110, attributes := #[] }, { accessFlags := 9, nameIndex := 15, descriptorIndex := 16, attributes := #[] }, { accessFlags := 8, nameIndex := 113, descriptorIndex := 114, attributes := #[] }, { accessFlags := 8, nameIndex := 73, descriptorIndex := 74, attributes := #[] }, { accessFlags := 9, nameIndex := 50, descriptorIndex := 51, attributes := #[] }, { accessFlags := 9, nameIndex := 121, descriptorIndex := 122, attributes := #[] }, { accessFlags := 8, nameIndex := 261, descriptorIndex := 262, attributes := #[] }, { accessFlags := 9, nameIndex := 117, descriptorIndex := 122, attributes := #[] }, { accessFlags := 9, nameIndex := 117, descriptorIndex := 118, attributes := #[] }, { accessFlags := 9, nameIndex := 392, descriptorIndex := 74, attributes := #[] }, { accessFlags := 9, nameIndex := 69, descriptorIndex := 70, attributes := #[] }] 48 6 #[] #[{ accessFlags := 26, nameIndex := 61, descriptorIndex := 62, attributes := #[] }, { accessFlags := 26, nameIndex := 65, descriptorIndex := 62, attributes := #[] }, { accessFlags := 24, nameIndex := 430, descriptorIndex := 62, attributes := #[] }, { accessFlags := 4120, nameIndex := 46, descriptorIndex := 47, attributes := #[] }])
  fields := #[{ name := "HI_BYTE_SHIFT", type := .int, accessFlags := 26, slot := 0, constantValue := 0 }, { name := "LO_BYTE_SHIFT", type := .int, accessFlags := 26, slot := 1, constantValue := 0 }, { name := "MAX_LENGTH", type := .int, accessFlags := 24, slot := 2, constantValue := 0 }, { name := "$assertionsDisabled", type := .boolean, accessFlags := 4120, slot := 3, constantValue := 0 }]
  methods := #[k8m0, k8m1, k8m2, k8m3, k8m4, k8m5, k8m6, k8m7, k8m8, k8m9, k8m10, k8m11]
  instanceTypes := #[]
  staticTypes := #[.int, .int, .int, .boolean]
  resolved := Array.replicate 635 none
  statics := some 1 }

def pool9 : Array CpInfo := pool [(2, .class_ 4), (1, u "java/lang/Object"), (0, u "<init>"), (0, u "()V"), (10, .methodref 18 19), (0, .class_ 20), (0, .nameAndType 21 22), (0, u "java/lang/String"), (0, u "length"), (0, u "()I"), (0, .class_ 24), (0, u "com/example/detached_state/detachedstate/SessionIds"), (0, .methodref 18 26), (0, .nameAndType 27 28), (0, u "charAt"), (0, u "(I)C"), (0, .methodref 23 30), (0, .nameAndType 31 32), (0, u "isHexDigit"), (0, u "(C)Z"), (0, u "TEXT_LENGTH"), (0, u "I"), (5, u "isWellFormed"), (0, u "(Ljava/lang/String;)Z")] 3

def k9m0 : Method := { name := "<init>", desc := "()V", sig := { parameters := [], returnType := none }, accessFlags := 2, code := none }
def k9c1 : Code := { maxStack := 2, maxLocals := 5, code := prog_17_method_3_code, exceptionTable := #[], attributes := #[] }
def k9m1 : Method := { name := "isWellFormed", desc := "(Ljava/lang/String;)Z", sig := { parameters := [(.object "java/lang/String")], returnType := some .boolean }, accessFlags := 8, code := some k9c1 }
def k9c2 : Code := { maxStack := 2, maxLocals := 1, code := prog_17_method_4_code, exceptionTable := #[], attributes := #[] }
def k9m2 : Method := { name := "isHexDigit", desc := "(C)Z", sig := { parameters := [.char], returnType := some .boolean }, accessFlags := 10, code := some k9c2 }
/-- com/example/detached_state/detachedstate/SessionIds -/
def k9 : Class := { plain "com/example/detached_state/detachedstate/SessionIds" (some 0) with
  accessFlags := 48
  interfaces := #[]
  cf := some (fileOf pool9 23 #[] #[{ accessFlags := 2, nameIndex := 5, descriptorIndex := 6, attributes := #[] }, { accessFlags := 8, nameIndex := 40, descriptorIndex := 41, attributes := #[] }, { accessFlags := 10, nameIndex := 31, descriptorIndex := 32, attributes := #[] }] 48 2 #[] #[{ accessFlags := 24, nameIndex := 33, descriptorIndex := 34, attributes := #[] }])
  fields := #[{ name := "TEXT_LENGTH", type := .int, accessFlags := 24, slot := 0, constantValue := 0 }]
  methods := #[k9m0, k9m1, k9m2]
  instanceTypes := #[]
  staticTypes := #[.int]
  resolved := Array.replicate 45 none
  statics := none }

def pool10 : Array CpInfo := pool [(1, .class_ 2), (0, u "java/lang/String"), (1, .class_ 6), (1, u "java/lang/Object"), (0, u "<init>"), (0, u "()V"), (0, .methodref 1 10), (0, .nameAndType 11 12), (0, u "checkIndex"), (0, u "(II)V"), (1, .class_ 16), (1, u "java/lang/StringLatin1"), (36, u "([BI)C"), (67, u "$assertionsDisabled"), (0, u "Z"), (98, .class_ 223), (1, u "java/lang/StringLatin1$LinesSpliterator"), (28, u "charAt"), (137, .class_ 391), (0, u "java/lang/StringLatin1$CharsSpliterator")] 3

def k10m0 : Method := { name := "<init>", desc := "()V", sig := { parameters := [], returnType := none }, accessFlags := 0, code := none }
def k10c1 : Code := { maxStack := 2, maxLocals := 2, code := jdk_43_method_2_code, exceptionTable := #[], attributes := #[] }
def k10m1 : Method := { name := "charAt", desc := "([BI)C", sig := { parameters := [(.array .byte), .int], returnType := some .char }, accessFlags := 9, code := some k10c1 }
/-- java/lang/StringLatin1 -/
def k10 : Class := { plain "java/lang/StringLatin1" (some 0) with
  accessFlags := 48
  interfaces := #[]
  cf := some (fileOf pool10 14 #[.nestMembers #[390, 221]] #[{ accessFlags := 0, nameIndex := 7, descriptorIndex := 8, attributes := #[] }, { accessFlags := 9, nameIndex := 252, descriptorIndex := 53, attributes := #[] }] 48 4 #[] #[{ accessFlags := 4120, nameIndex := 121, descriptorIndex := 122, attributes := #[] }])
  fields := #[{ name := "$assertionsDisabled", type := .boolean, accessFlags := 4120, slot := 0, constantValue := 0 }]
  methods := #[k10m0, k10m1]
  instanceTypes := #[]
  staticTypes := #[.boolean]
  resolved := Array.replicate 395 none
  statics := none }

def pool11 : Array CpInfo := pool [(2, .class_ 4), (1, u "java/lang/Object"), (0, u "<init>"), (0, u "()V"), (17, .class_ 26), (1, u "jdk/internal/util/Preconditions"), (6, u "checkIndex"), (21, .class_ 56), (0, u "jdk/internal/util/Preconditions$4"), (57, .class_ 115), (0, u "jdk/internal/util/Preconditions$1"), (7, u "SIOOBE_FORMATTER"), (0, u "Ljava/util/function/BiFunction;"), (0, .class_ 126), (0, u "jdk/internal/util/Preconditions$2"), (3, u "AIOOBE_FORMATTER"), (0, .class_ 132), (0, u "jdk/internal/util/Preconditions$3"), (3, u "IOOBE_FORMATTER"), (41, u "(IILjava/util/function/BiFunction;)I")] 15

def k11m0 : Method := { name := "<init>", desc := "()V", sig := { parameters := [], returnType := none }, accessFlags := 1, code := none }
def k11c1 : Code := { maxStack := 3, maxLocals := 3, code := jdk_41_method_11_code, exceptionTable := #[], attributes := #[] }
def k11m1 : Method := { name := "checkIndex", desc := "(IILjava/util/function/BiFunction;)I", sig := { parameters := [.int, .int, (.object "java/util/function/BiFunction")], returnType := some .int }, accessFlags := 9, code := some k11c1 }
/-- jdk/internal/util/Preconditions -/
def k11 : Class := { plain "jdk/internal/util/Preconditions" (some 0) with
  accessFlags := 33
  interfaces := #[]
  cf := some (fileOf pool11 24 #[.nestMembers #[55, 131, 125, 114]] #[{ accessFlags := 1, nameIndex := 5, descriptorIndex := 6, attributes := #[] }, { accessFlags := 9, nameIndex := 33, descriptorIndex := 178, attributes := #[] }] 33 2 #[] #[{ accessFlags := 25, nameIndex := 123, descriptorIndex := 124, attributes := #[] }, { accessFlags := 25, nameIndex := 130, descriptorIndex := 124, attributes := #[] }, { accessFlags := 25, nameIndex := 136, descriptorIndex := 124, attributes := #[] }])
  fields := #[{ name := "SIOOBE_FORMATTER", type := (.object "java/util/function/BiFunction"), accessFlags := 25, slot := 0, constantValue := 0 }, { name := "AIOOBE_FORMATTER", type := (.object "java/util/function/BiFunction"), accessFlags := 25, slot := 1, constantValue := 0 }, { name := "IOOBE_FORMATTER", type := (.object "java/util/function/BiFunction"), accessFlags := 25, slot := 2, constantValue := 0 }]
  methods := #[k11m0, k11m1]
  instanceTypes := #[]
  staticTypes := #[(.object "java/util/function/BiFunction"), (.object "java/util/function/BiFunction"), (.object "java/util/function/BiFunction")]
  resolved := Array.replicate 194 none
  statics := some 2 }

def pool12 : Array CpInfo := pool [(9, u "<init>"), (6, .class_ 18), (1, u "java/lang/Object"), (0, u "()V"), (1, .class_ 23), (1, u "jdk/internal/util/ArraysSupport"), (0, u "LOG2_ARRAY_LONG_INDEX_SCALE"), (0, u "I"), (2, u "U"), (0, u "Ljdk/internal/misc/Unsafe;"), (8, u "BIG_ENDIAN"), (0, u "Z"), (8, u "LOG2_BYTE_BIT_SIZE"), (4, u "LOG2_ARRAY_INT_INDEX_SCALE"), (54, u "JLA"), (0, u "Ljdk/internal/access/JavaLangAccess;"), (11, u "LOG2_ARRAY_BOOLEAN_INDEX_SCALE"), (9, u "LOG2_ARRAY_BYTE_INDEX_SCALE"), (5, u "LOG2_ARRAY_CHAR_INDEX_SCALE"), (5, u "LOG2_ARRAY_SHORT_INDEX_SCALE"), (18, u "LOG2_ARRAY_FLOAT_INDEX_SCALE"), (24, u "LOG2_ARRAY_DOUBLE_INDEX_SCALE"), (89, u "T_BOOLEAN"), (2, u "T_CHAR"), (1, u "T_FLOAT"), (1, u "T_DOUBLE"), (1, u "T_BYTE"), (1, u "T_SHORT"), (1, u "T_INT"), (1, u "T_LONG"), (1, u "SOFT_MAX_ARRAY_LENGTH")] 83

def k12m0 : Method := { name := "<init>", desc := "()V", sig := { parameters := [], returnType := none }, accessFlags := 2, code := none }
/-- jdk/internal/util/ArraysSupport -/
def k12 : Class := { plain "jdk/internal/util/ArraysSupport" (some 0) with
  accessFlags := 33
  interfaces := #[]
  cf := some (fileOf pool12 21 #[] #[{ accessFlags := 2, nameIndex := 9, descriptorIndex := 19, attributes := #[] }] 33 16 #[] #[{ accessFlags := 24, nameIndex := 28, descriptorIndex := 29, attributes := #[] }, { accessFlags := 26, nameIndex := 38, descriptorIndex := 39, attributes := #[] }, { accessFlags := 25, nameIndex := 121, descriptorIndex := 25, attributes := #[] }, { accessFlags := 25, nameIndex := 131, descriptorIndex := 25, attributes := #[] }, { accessFlags := 25, nameIndex := 137, descriptorIndex := 25, attributes := #[] }, { accessFlags := 25, nameIndex := 143, descriptorIndex := 25, attributes := #[] }, { accessFlags := 25, nameIndex := 53, descriptorIndex := 25, attributes := #[] }, { accessFlags := 25, nameIndex := 24, descriptorIndex := 25, attributes := #[] }, { accessFlags := 25, nameIndex := 162, descriptorIndex := 25, attributes := #[] }, { accessFlags := 25, nameIndex := 187, descriptorIndex := 25, attributes := #[] }, { accessFlags := 26, nameIndex := 48, descriptorIndex := 25, attributes := #[] }, { accessFlags := 25, nameIndex := 277, descriptorIndex := 25, attributes := #[] }, { accessFlags := 25, nameIndex := 280, descriptorIndex := 25, attributes := #[] }, { accessFlags := 25, nameIndex := 282, descriptorIndex := 25, attributes := #[] }, { accessFlags := 25, nameIndex := 284, descriptorIndex := 25, attributes := #[] }, { accessFlags := 25, nameIndex := 286, descriptorIndex := 25, attributes := #[] }, { accessFlags := 25, nameIndex := 288, descriptorIndex := 25, attributes := #[] }, { accessFlags := 25, nameIndex := 290, descriptorIndex := 25, attributes := #[] }, { accessFlags := 25, nameIndex := 292, descriptorIndex := 25, attributes := #[] }, { accessFlags := 26, nameIndex := 108, descriptorIndex := 109, attributes := #[] }, { accessFlags := 25, nameIndex := 294, descriptorIndex := 25, attributes := #[] }])
  fields := #[{ name := "U", type := (.object "jdk/internal/misc/Unsafe"), accessFlags := 24, slot := 0, constantValue := 0 }, { name := "BIG_ENDIAN", type := .boolean, accessFlags := 26, slot := 1, constantValue := 0 }, { name := "LOG2_ARRAY_BOOLEAN_INDEX_SCALE", type := .int, accessFlags := 25, slot := 2, constantValue := 0 }, { name := "LOG2_ARRAY_BYTE_INDEX_SCALE", type := .int, accessFlags := 25, slot := 3, constantValue := 0 }, { name := "LOG2_ARRAY_CHAR_INDEX_SCALE", type := .int, accessFlags := 25, slot := 4, constantValue := 0 }, { name := "LOG2_ARRAY_SHORT_INDEX_SCALE", type := .int, accessFlags := 25, slot := 5, constantValue := 0 }, { name := "LOG2_ARRAY_INT_INDEX_SCALE", type := .int, accessFlags := 25, slot := 6, constantValue := 0 }, { name := "LOG2_ARRAY_LONG_INDEX_SCALE", type := .int, accessFlags := 25, slot := 7, constantValue := 0 }, { name := "LOG2_ARRAY_FLOAT_INDEX_SCALE", type := .int, accessFlags := 25, slot := 8, constantValue := 0 }, { name := "LOG2_ARRAY_DOUBLE_INDEX_SCALE", type := .int, accessFlags := 25, slot := 9, constantValue := 0 }, { name := "LOG2_BYTE_BIT_SIZE", type := .int, accessFlags := 26, slot := 10, constantValue := 0 }, { name := "T_BOOLEAN", type := .int, accessFlags := 25, slot := 11, constantValue := 0 }, { name := "T_CHAR", type := .int, accessFlags := 25, slot := 12, constantValue := 0 }, { name := "T_FLOAT", type := .int, accessFlags := 25, slot := 13, constantValue := 0 }, { name := "T_DOUBLE", type := .int, accessFlags := 25, slot := 14, constantValue := 0 }, { name := "T_BYTE", type := .int, accessFlags := 25, slot := 15, constantValue := 0 }, { name := "T_SHORT", type := .int, accessFlags := 25, slot := 16, constantValue := 0 }, { name := "T_INT", type := .int, accessFlags := 25, slot := 17, constantValue := 0 }, { name := "T_LONG", type := .int, accessFlags := 25, slot := 18, constantValue := 0 }, { name := "JLA", type := (.object "jdk/internal/access/JavaLangAccess"), accessFlags := 26, slot := 19, constantValue := 0 }, { name := "SOFT_MAX_ARRAY_LENGTH", type := .int, accessFlags := 25, slot := 20, constantValue := 0 }]
  methods := #[k12m0]
  instanceTypes := #[]
  staticTypes := #[(.object "jdk/internal/misc/Unsafe"), .boolean, .int, .int, .int, .int, .int, .int, .int, .int, .int, .int, .int, .int, .int, .int, .int, .int, .int, (.object "jdk/internal/access/JavaLangAccess"), .int]
  resolved := Array.replicate 378 none
  statics := none }

def pool13 : Array CpInfo := pool [(1, u "java/lang/Cloneable"), (0, .class_ 1), (0, u "java/lang/Object"), (0, .class_ 3)] 3

/-- java/lang/Cloneable -/
def k13 : Class := { plain "java/lang/Cloneable" (some 0) with
  accessFlags := 1537
  interfaces := #[]
  cf := some (fileOf pool13 2 #[] #[] 1537 4 #[] #[])
  fields := #[]
  methods := #[]
  instanceTypes := #[]
  staticTypes := #[]
  resolved := Array.replicate 8 none
  statics := none }

/-- the primitive byte -/
def k14 : Class := { plain "byte" none with kind := .primitive 'B', accessFlags := 0x411 }
/-- [B -/
def k15 : Class := { plain "[B" (some 0) with kind := .array 14 .byte, interfaces := #[13, 2], accessFlags := 1041 }

/-- the primitive char -/
def k16 : Class := { plain "char" none with kind := .primitive 'C', accessFlags := 0x411 }
/-- [C -/
def k17 : Class := { plain "[C" (some 0) with kind := .array 16 .char, interfaces := #[13, 2], accessFlags := 1041 }

/-- the primitive int -/
def k18 : Class := { plain "int" none with kind := .primitive 'I', accessFlags := 0x411 }
/-- [I -/
def k19 : Class := { plain "[I" (some 0) with kind := .array 18 .int, interfaces := #[13, 2], accessFlags := 1041 }

def heap : Heap := #[{ cls := 7, slots := #[.long 0, .int 1, .null, .int 0, .null, .int 0, .int 0], vm := .statics 7 },
  { cls := 8, slots := #[.int 0, .int 8, .int 0, .int 1], vm := .statics 8 },
  { cls := 11, slots := #[.null, .null, .null], vm := .statics 11 }]
def classes : Array Class := #[k0, k1, k2, k3, k4, k5, k6, k7, k8, k9, k10, k11, k12, k13, k14, k15, k16, k17, k18, k19]
def interned : List (Array UInt16 × Addr) := []
def slotsUsed : Nat := 14
def theMethod : MethodId := ⟨1, 1⟩
def args0 : Array Value := #[.int 5, .int 6, .int 7, .int 8, .int 9, .int 10]
def aboutOver (below : List Frame) : State where
  vm := { classes := classes, interned := interned.toArray }
  heap := heap
  slotsUsed := slotsUsed
  threads := #[{ frames := .invoking theMethod args0 :: below }]
def below0 : List Frame := [.native { method := ⟨0, 0⟩, args := #[] }]
def about1 : State := aboutOver below0
def p0 : Program := .bare "" "" ""
def e0 : Env := launch0.env 0 0 0
theorem w_frames : about1.frames = Frame.invoking theMethod args0 :: below0 := rfl
set_option maxRecDepth 65536 in
theorem w_args : argsFit about1.vm theMethod args0 = true := by decide +kernel
set_option maxRecDepth 65536 in
theorem w_heap : heapFits about1 = true := by decide +kernel
set_option maxRecDepth 65536 in
theorem w_runnable : about1.curStatus? = some .runnable := by decide +kernel
set_option maxRecDepth 65536 in
theorem w_alone : about1.alone = true := by decide +kernel
set_option maxRecDepth 65536 in
theorem w_named : about1.methodNamed? x = some theMethod := by decide +kernel
set_option maxRecDepth 65536 in
theorem w_hears : about1.hears theMethod below0 = true := by decide +kernel
set_option maxRecDepth 65536 in
theorem w_ripe : about1.ripe theMethod args0 below0 = true := by decide +kernel
theorem w_running : about1.status = .running := rfl
set_option maxRecDepth 65536 in
theorem w_room : about1.hasRoom e0.platform room_1 = true :=
  launch0.hasRoom_least _ room_1 (by decide +kernel) (by decide +kernel) (by decide +kernel) (by decide +kernel) (by decide +kernel) (by decide +kernel)
theorem allAtoms_all (ts : List Jvm.Cond) (a : Array Jvm.Value) (st : Jvm.State) : (allAtoms ts).before a st = ts.all (fun c => c.before a st) := by
  induction ts with
  | nil => rfl
  | cons c t ih =>
    show (Jvm.Cond.and c (allAtoms t)).before a st = _
    rw [Jvm.Cond.before_and, ih, List.all_cons]
def words1 : List Jvm.Cond := Jvm.Cond.code x code maxLocals ret :: tables_1
/-- a 'code' word, met by the world's own term for the bytes: nothing is compared byte by byte -/
theorem code_word {y : MethodName} {bytes : ByteArray} {mx : Nat} {rt : Option FieldType} {a : Array Value} {s : State} {m : MethodId} {meth : Method} {c : Code} (h1 : s.methodNamed? y = some m) (h2 : s.vm.method? m = some meth) (h3 : meth.code = some c) (h4 : c.code = bytes)
    (h5 : (c.maxLocals == mx && c.exceptionTable.isEmpty && decide (c.maxStack ≤ mostOperands) && decide (meth.sig.returnType = rt) && !meth.locks && decide (parseMethodDescriptor y.desc = some meth.sig)) = true) : (Jvm.Cond.code y bytes mx rt).before a s = true := by
  simp only [Bool.and_eq_true, beq_iff_eq, Bool.not_eq_true', decide_eq_true_eq] at h5
  obtain ⟨⟨⟨⟨⟨g1, g2⟩, g3⟩, g4⟩, g5⟩, g6⟩ := h5
  simp [Cond.before, Cond.holds, Cond.value, h1, h2, h3, h4, g1, g2, g3, g4, g5, g6]
def isCode : Jvm.Cond → Bool
  | .code _ _ _ _ => true
  | _ => false
theorem all_split {L : List Jvm.Cond} {P : Jvm.Cond → Bool} (h1 : L.all (fun c => isCode c || P c) = true) (h2 : ∀ c ∈ L.filter isCode, P c = true) : L.all P = true := by
  refine List.all_eq_true.mpr fun c hc => ?_
  have h := List.all_eq_true.mp h1 c hc
  rcases Bool.eq_false_or_eq_true (isCode c) with hi | hi
  · exact h2 c (List.mem_filter.mpr ⟨hc, hi⟩)
  · simpa [hi] using h
set_option maxRecDepth 65536 in
theorem w_c0 : (Jvm.Cond.code x code maxLocals ret).before args0 about1 = true := code_word (m := ⟨1, 1⟩) (meth := k1m1) (c := k1c1) (by decide +kernel) rfl rfl rfl (by decide +kernel)
set_option maxRecDepth 65536 in
theorem w_c1 : (Jvm.Cond.code ({ cls := "com/example/detached_state/detachedstate/SessionIdsIsWellFormedPinLaw", name := "fill", desc := "([CI)V" } : Jvm.MethodName) method_8_code (2 : Nat) (Option.none : Option Jvm.ClassFile.FieldType)).before args0 about1 = true := code_word (m := ⟨1, 7⟩) (meth := k1m7) (c := k1c7) (by decide +kernel) rfl rfl rfl (by decide +kernel)
set_option maxRecDepth 65536 in
theorem w_c2 : (Jvm.Cond.code ({ cls := "com/example/detached_state/detachedstate/SessionIdsIsWellFormedPinLaw", name := "at", desc := "(II)C" } : Jvm.MethodName) method_7_code (2 : Nat) (Option.some Jvm.ClassFile.FieldType.char)).before args0 about1 = true := code_word (m := ⟨1, 6⟩) (meth := k1m6) (c := k1c6) (by decide +kernel) rfl rfl rfl (by decide +kernel)
set_option maxRecDepth 65536 in
theorem w_c3 : (Jvm.Cond.code ({ cls := "com/example/detached_state/detachedstate/SessionIdsIsWellFormedPinLaw", name := "isDashPos", desc := "(I)Z" } : Jvm.MethodName) method_3_code (1 : Nat) (Option.some Jvm.ClassFile.FieldType.boolean)).before args0 about1 = true := code_word (m := ⟨1, 2⟩) (meth := k1m2) (c := k1c2) (by decide +kernel) rfl rfl rfl (by decide +kernel)
set_option maxRecDepth 65536 in
theorem w_c4 : (Jvm.Cond.code ({ cls := "com/example/detached_state/detachedstate/SessionIdsIsWellFormedPinLaw", name := "hexChar", desc := "(I)C" } : Jvm.MethodName) method_6_code (1 : Nat) (Option.some Jvm.ClassFile.FieldType.char)).before args0 about1 = true := code_word (m := ⟨1, 5⟩) (meth := k1m5) (c := k1c5) (by decide +kernel) rfl rfl rfl (by decide +kernel)
set_option maxRecDepth 65536 in
theorem w_c5 : (Jvm.Cond.code ({ cls := "com/example/detached_state/detachedstate/SessionIdsIsWellFormedPinLaw", name := "okAt", desc := "(IC)Z" } : Jvm.MethodName) method_5_code (2 : Nat) (Option.some Jvm.ClassFile.FieldType.boolean)).before args0 about1 = true := code_word (m := ⟨1, 4⟩) (meth := k1m4) (c := k1c4) (by decide +kernel) rfl rfl rfl (by decide +kernel)
set_option maxRecDepth 65536 in
theorem w_c6 : (Jvm.Cond.code ({ cls := "com/example/detached_state/detachedstate/SessionIdsIsWellFormedPinLaw", name := "isHex", desc := "(C)Z" } : Jvm.MethodName) method_4_code (2 : Nat) (Option.some Jvm.ClassFile.FieldType.boolean)).before args0 about1 = true := code_word (m := ⟨1, 3⟩) (meth := k1m3) (c := k1c3) (by decide +kernel) rfl rfl rfl (by decide +kernel)
set_option maxRecDepth 65536 in
theorem w_c7 : (Jvm.Cond.code ({ cls := "java/lang/String", name := "<init>", desc := "([C)V" } : Jvm.MethodName) jdk_42_method_3_code (2 : Nat) (Option.none : Option Jvm.ClassFile.FieldType)).before args0 about1 = true := code_word (m := ⟨7, 1⟩) (meth := k7m1) (c := k7c1) (by decide +kernel) rfl rfl rfl (by decide +kernel)
set_option maxRecDepth 65536 in
theorem w_c8 : (Jvm.Cond.code ({ cls := "java/lang/String", name := "<init>", desc := "([CIILjava/lang/Void;)V" } : Jvm.MethodName) jdk_42_method_149_code (6 : Nat) (Option.none : Option Jvm.ClassFile.FieldType)).before args0 about1 = true := code_word (m := ⟨7, 4⟩) (meth := k7m4) (c := k7c4) (by decide +kernel) rfl rfl rfl (by decide +kernel)
set_option maxRecDepth 65536 in
theorem w_c9 : (Jvm.Cond.code ({ cls := "java/lang/Object", name := "<init>", desc := "()V" } : Jvm.MethodName) object_method_1_code (1 : Nat) (Option.none : Option Jvm.ClassFile.FieldType)).before args0 about1 = true := code_word (m := ⟨0, 0⟩) (meth := k0m0) (c := k0c0) (by decide +kernel) rfl rfl rfl (by decide +kernel)
set_option maxRecDepth 65536 in
theorem w_c10 : (Jvm.Cond.code ({ cls := "java/lang/StringUTF16", name := "compress", desc := "([CII)[B" } : Jvm.MethodName) jdk_52_method_16_code (6 : Nat) (Option.some (Jvm.ClassFile.FieldType.array Jvm.ClassFile.FieldType.byte))).before args0 about1 = true := code_word (m := ⟨8, 8⟩) (meth := k8m8) (c := k8c8) (by decide +kernel) rfl rfl rfl (by decide +kernel)
set_option maxRecDepth 65536 in
theorem w_c11 : (Jvm.Cond.code ({ cls := "java/lang/StringUTF16", name := "compress", desc := "([CI[BII)I" } : Jvm.MethodName) jdk_52_method_21_code (7 : Nat) (Option.some Jvm.ClassFile.FieldType.int)).before args0 about1 = true := code_word (m := ⟨8, 9⟩) (meth := k8m9) (c := k8c9) (by decide +kernel) rfl rfl rfl (by decide +kernel)
set_option maxRecDepth 65536 in
theorem w_c12 : (Jvm.Cond.code ({ cls := "java/lang/StringUTF16", name := "coderFromArrayLen", desc := "([BI)B" } : Jvm.MethodName) jdk_52_method_15_code (2 : Nat) (Option.some Jvm.ClassFile.FieldType.byte)).before args0 about1 = true := code_word (m := ⟨8, 7⟩) (meth := k8m7) (c := k8c7) (by decide +kernel) rfl rfl rfl (by decide +kernel)
set_option maxRecDepth 65536 in
theorem w_c13 : (Jvm.Cond.code ({ cls := "com/example/detached_state/detachedstate/SessionIds", name := "isWellFormed", desc := "(Ljava/lang/String;)Z" } : Jvm.MethodName) prog_17_method_3_code (5 : Nat) (Option.some Jvm.ClassFile.FieldType.boolean)).before args0 about1 = true := code_word (m := ⟨9, 1⟩) (meth := k9m1) (c := k9c1) (by decide +kernel) rfl rfl rfl (by decide +kernel)
set_option maxRecDepth 65536 in
theorem w_c14 : (Jvm.Cond.code ({ cls := "java/lang/String", name := "length", desc := "()I" } : Jvm.MethodName) jdk_42_method_54_code (1 : Nat) (Option.some Jvm.ClassFile.FieldType.int)).before args0 about1 = true := code_word (m := ⟨7, 2⟩) (meth := k7m2) (c := k7c2) (by decide +kernel) rfl rfl rfl (by decide +kernel)
set_option maxRecDepth 65536 in
theorem w_c15 : (Jvm.Cond.code ({ cls := "java/lang/String", name := "coder", desc := "()B" } : Jvm.MethodName) jdk_42_method_152_code (1 : Nat) (Option.some Jvm.ClassFile.FieldType.byte)).before args0 about1 = true := code_word (m := ⟨7, 5⟩) (meth := k7m5) (c := k7c5) (by decide +kernel) rfl rfl rfl (by decide +kernel)
set_option maxRecDepth 65536 in
theorem w_c16 : (Jvm.Cond.code ({ cls := "java/lang/String", name := "charAt", desc := "(I)C" } : Jvm.MethodName) jdk_42_method_56_code (2 : Nat) (Option.some Jvm.ClassFile.FieldType.char)).before args0 about1 = true := code_word (m := ⟨7, 3⟩) (meth := k7m3) (c := k7c3) (by decide +kernel) rfl rfl rfl (by decide +kernel)
set_option maxRecDepth 65536 in
theorem w_c17 : (Jvm.Cond.code ({ cls := "java/lang/String", name := "isLatin1", desc := "()Z" } : Jvm.MethodName) jdk_42_method_154_code (1 : Nat) (Option.some Jvm.ClassFile.FieldType.boolean)).before args0 about1 = true := code_word (m := ⟨7, 6⟩) (meth := k7m6) (c := k7c6) (by decide +kernel) rfl rfl rfl (by decide +kernel)
set_option maxRecDepth 65536 in
theorem w_c18 : (Jvm.Cond.code ({ cls := "java/lang/StringLatin1", name := "charAt", desc := "([BI)C" } : Jvm.MethodName) jdk_43_method_2_code (2 : Nat) (Option.some Jvm.ClassFile.FieldType.char)).before args0 about1 = true := code_word (m := ⟨10, 1⟩) (meth := k10m1) (c := k10c1) (by decide +kernel) rfl rfl rfl (by decide +kernel)
set_option maxRecDepth 65536 in
theorem w_c19 : (Jvm.Cond.code ({ cls := "java/lang/String", name := "checkIndex", desc := "(II)V" } : Jvm.MethodName) jdk_42_method_155_code (2 : Nat) (Option.none : Option Jvm.ClassFile.FieldType)).before args0 about1 = true := code_word (m := ⟨7, 7⟩) (meth := k7m7) (c := k7c7) (by decide +kernel) rfl rfl rfl (by decide +kernel)
set_option maxRecDepth 65536 in
theorem w_c20 : (Jvm.Cond.code ({ cls := "jdk/internal/util/Preconditions", name := "checkIndex", desc := "(IILjava/util/function/BiFunction;)I" } : Jvm.MethodName) jdk_41_method_11_code (3 : Nat) (Option.some Jvm.ClassFile.FieldType.int)).before args0 about1 = true := code_word (m := ⟨11, 1⟩) (meth := k11m1) (c := k11c1) (by decide +kernel) rfl rfl rfl (by decide +kernel)
set_option maxRecDepth 65536 in
theorem w_c21 : (Jvm.Cond.code ({ cls := "com/example/detached_state/detachedstate/SessionIds", name := "isHexDigit", desc := "(C)Z" } : Jvm.MethodName) prog_17_method_4_code (1 : Nat) (Option.some Jvm.ClassFile.FieldType.boolean)).before args0 about1 = true := code_word (m := ⟨9, 2⟩) (meth := k9m2) (c := k9c2) (by decide +kernel) rfl rfl rfl (by decide +kernel)
set_option maxRecDepth 65536 in
theorem w_c22 : (Jvm.Cond.code ({ cls := "java/lang/StringUTF16", name := "toBytes", desc := "([CII)[B" } : Jvm.MethodName) jdk_52_method_14_code (5 : Nat) (Option.some (Jvm.ClassFile.FieldType.array Jvm.ClassFile.FieldType.byte))).before args0 about1 = true := code_word (m := ⟨8, 6⟩) (meth := k8m6) (c := k8c6) (by decide +kernel) rfl rfl rfl (by decide +kernel)
set_option maxRecDepth 65536 in
theorem w_c23 : (Jvm.Cond.code ({ cls := "java/lang/StringUTF16", name := "newBytesFor", desc := "(I)[B" } : Jvm.MethodName) jdk_52_method_2_code (1 : Nat) (Option.some (Jvm.ClassFile.FieldType.array Jvm.ClassFile.FieldType.byte))).before args0 about1 = true := code_word (m := ⟨8, 1⟩) (meth := k8m1) (c := k8c1) (by decide +kernel) rfl rfl rfl (by decide +kernel)
set_option maxRecDepth 65536 in
theorem w_c24 : (Jvm.Cond.code ({ cls := "java/lang/StringUTF16", name := "newBytesLength", desc := "(I)I" } : Jvm.MethodName) jdk_52_method_3_code (1 : Nat) (Option.some Jvm.ClassFile.FieldType.int)).before args0 about1 = true := code_word (m := ⟨8, 2⟩) (meth := k8m2) (c := k8c2) (by decide +kernel) rfl rfl rfl (by decide +kernel)
set_option maxRecDepth 65536 in
theorem w_c25 : (Jvm.Cond.code ({ cls := "java/lang/StringUTF16", name := "putChar", desc := "([BII)V" } : Jvm.MethodName) jdk_52_method_4_code (3 : Nat) (Option.none : Option Jvm.ClassFile.FieldType)).before args0 about1 = true := code_word (m := ⟨8, 3⟩) (meth := k8m3) (c := k8c3) (by decide +kernel) rfl rfl rfl (by decide +kernel)
set_option maxRecDepth 65536 in
theorem w_c26 : (Jvm.Cond.code ({ cls := "java/lang/StringUTF16", name := "getChar", desc := "([BI)C" } : Jvm.MethodName) jdk_52_method_5_code (2 : Nat) (Option.some Jvm.ClassFile.FieldType.char)).before args0 about1 = true := code_word (m := ⟨8, 4⟩) (meth := k8m4) (c := k8c4) (by decide +kernel) rfl rfl rfl (by decide +kernel)
set_option maxRecDepth 65536 in
theorem w_c27 : (Jvm.Cond.code ({ cls := "java/lang/StringUTF16", name := "charAt", desc := "([BI)C" } : Jvm.MethodName) jdk_52_method_83_code (2 : Nat) (Option.some Jvm.ClassFile.FieldType.char)).before args0 about1 = true := code_word (m := ⟨8, 10⟩) (meth := k8m10) (c := k8c10) (by decide +kernel) rfl rfl rfl (by decide +kernel)
set_option maxRecDepth 65536 in
theorem w_c28 : (Jvm.Cond.code ({ cls := "java/lang/StringUTF16", name := "checkIndex", desc := "(I[B)V" } : Jvm.MethodName) jdk_52_method_91_code (2 : Nat) (Option.none : Option Jvm.ClassFile.FieldType)).before args0 about1 = true := code_word (m := ⟨8, 11⟩) (meth := k8m11) (c := k8c11) (by decide +kernel) rfl rfl rfl (by decide +kernel)
set_option maxRecDepth 65536 in
theorem w_c29 : (Jvm.Cond.code ({ cls := "java/lang/StringUTF16", name := "length", desc := "([B)I" } : Jvm.MethodName) jdk_52_method_6_code (1 : Nat) (Option.some Jvm.ClassFile.FieldType.int)).before args0 about1 = true := code_word (m := ⟨8, 5⟩) (meth := k8m5) (c := k8c5) (by decide +kernel) rfl rfl rfl (by decide +kernel)
def codes1 : List Jvm.Cond := [Jvm.Cond.code x code maxLocals ret, Jvm.Cond.code ({ cls := "com/example/detached_state/detachedstate/SessionIdsIsWellFormedPinLaw", name := "fill", desc := "([CI)V" } : Jvm.MethodName) method_8_code (2 : Nat) (Option.none : Option Jvm.ClassFile.FieldType), Jvm.Cond.code ({ cls := "com/example/detached_state/detachedstate/SessionIdsIsWellFormedPinLaw", name := "at", desc := "(II)C" } : Jvm.MethodName) method_7_code (2 : Nat) (Option.some Jvm.ClassFile.FieldType.char), Jvm.Cond.code ({ cls := "com/example/detached_state/detachedstate/SessionIdsIsWellFormedPinLaw", name := "isDashPos", desc := "(I)Z" } : Jvm.MethodName) method_3_code (1 : Nat) (Option.some Jvm.ClassFile.FieldType.boolean), Jvm.Cond.code ({ cls := "com/example/detached_state/detachedstate/SessionIdsIsWellFormedPinLaw", name := "hexChar", desc := "(I)C" } : Jvm.MethodName) method_6_code (1 : Nat) (Option.some Jvm.ClassFile.FieldType.char), Jvm.Cond.code ({ cls := "com/example/detached_state/detachedstate/SessionIdsIsWellFormedPinLaw", name := "okAt", desc := "(IC)Z" } : Jvm.MethodName) method_5_code (2 : Nat) (Option.some Jvm.ClassFile.FieldType.boolean), Jvm.Cond.code ({ cls := "com/example/detached_state/detachedstate/SessionIdsIsWellFormedPinLaw", name := "isHex", desc := "(C)Z" } : Jvm.MethodName) method_4_code (2 : Nat) (Option.some Jvm.ClassFile.FieldType.boolean), Jvm.Cond.code ({ cls := "java/lang/String", name := "<init>", desc := "([C)V" } : Jvm.MethodName) jdk_42_method_3_code (2 : Nat) (Option.none : Option Jvm.ClassFile.FieldType), Jvm.Cond.code ({ cls := "java/lang/String", name := "<init>", desc := "([CIILjava/lang/Void;)V" } : Jvm.MethodName) jdk_42_method_149_code (6 : Nat) (Option.none : Option Jvm.ClassFile.FieldType), Jvm.Cond.code ({ cls := "java/lang/Object", name := "<init>", desc := "()V" } : Jvm.MethodName) object_method_1_code (1 : Nat) (Option.none : Option Jvm.ClassFile.FieldType), Jvm.Cond.code ({ cls := "java/lang/StringUTF16", name := "compress", desc := "([CII)[B" } : Jvm.MethodName) jdk_52_method_16_code (6 : Nat) (Option.some (Jvm.ClassFile.FieldType.array Jvm.ClassFile.FieldType.byte)), Jvm.Cond.code ({ cls := "java/lang/StringUTF16", name := "compress", desc := "([CI[BII)I" } : Jvm.MethodName) jdk_52_method_21_code (7 : Nat) (Option.some Jvm.ClassFile.FieldType.int), Jvm.Cond.code ({ cls := "java/lang/StringUTF16", name := "coderFromArrayLen", desc := "([BI)B" } : Jvm.MethodName) jdk_52_method_15_code (2 : Nat) (Option.some Jvm.ClassFile.FieldType.byte), Jvm.Cond.code ({ cls := "com/example/detached_state/detachedstate/SessionIds", name := "isWellFormed", desc := "(Ljava/lang/String;)Z" } : Jvm.MethodName) prog_17_method_3_code (5 : Nat) (Option.some Jvm.ClassFile.FieldType.boolean), Jvm.Cond.code ({ cls := "java/lang/String", name := "length", desc := "()I" } : Jvm.MethodName) jdk_42_method_54_code (1 : Nat) (Option.some Jvm.ClassFile.FieldType.int), Jvm.Cond.code ({ cls := "java/lang/String", name := "coder", desc := "()B" } : Jvm.MethodName) jdk_42_method_152_code (1 : Nat) (Option.some Jvm.ClassFile.FieldType.byte), Jvm.Cond.code ({ cls := "java/lang/String", name := "charAt", desc := "(I)C" } : Jvm.MethodName) jdk_42_method_56_code (2 : Nat) (Option.some Jvm.ClassFile.FieldType.char), Jvm.Cond.code ({ cls := "java/lang/String", name := "isLatin1", desc := "()Z" } : Jvm.MethodName) jdk_42_method_154_code (1 : Nat) (Option.some Jvm.ClassFile.FieldType.boolean), Jvm.Cond.code ({ cls := "java/lang/StringLatin1", name := "charAt", desc := "([BI)C" } : Jvm.MethodName) jdk_43_method_2_code (2 : Nat) (Option.some Jvm.ClassFile.FieldType.char), Jvm.Cond.code ({ cls := "java/lang/String", name := "checkIndex", desc := "(II)V" } : Jvm.MethodName) jdk_42_method_155_code (2 : Nat) (Option.none : Option Jvm.ClassFile.FieldType), Jvm.Cond.code ({ cls := "jdk/internal/util/Preconditions", name := "checkIndex", desc := "(IILjava/util/function/BiFunction;)I" } : Jvm.MethodName) jdk_41_method_11_code (3 : Nat) (Option.some Jvm.ClassFile.FieldType.int), Jvm.Cond.code ({ cls := "com/example/detached_state/detachedstate/SessionIds", name := "isHexDigit", desc := "(C)Z" } : Jvm.MethodName) prog_17_method_4_code (1 : Nat) (Option.some Jvm.ClassFile.FieldType.boolean), Jvm.Cond.code ({ cls := "java/lang/StringUTF16", name := "toBytes", desc := "([CII)[B" } : Jvm.MethodName) jdk_52_method_14_code (5 : Nat) (Option.some (Jvm.ClassFile.FieldType.array Jvm.ClassFile.FieldType.byte)), Jvm.Cond.code ({ cls := "java/lang/StringUTF16", name := "newBytesFor", desc := "(I)[B" } : Jvm.MethodName) jdk_52_method_2_code (1 : Nat) (Option.some (Jvm.ClassFile.FieldType.array Jvm.ClassFile.FieldType.byte)), Jvm.Cond.code ({ cls := "java/lang/StringUTF16", name := "newBytesLength", desc := "(I)I" } : Jvm.MethodName) jdk_52_method_3_code (1 : Nat) (Option.some Jvm.ClassFile.FieldType.int), Jvm.Cond.code ({ cls := "java/lang/StringUTF16", name := "putChar", desc := "([BII)V" } : Jvm.MethodName) jdk_52_method_4_code (3 : Nat) (Option.none : Option Jvm.ClassFile.FieldType), Jvm.Cond.code ({ cls := "java/lang/StringUTF16", name := "getChar", desc := "([BI)C" } : Jvm.MethodName) jdk_52_method_5_code (2 : Nat) (Option.some Jvm.ClassFile.FieldType.char), Jvm.Cond.code ({ cls := "java/lang/StringUTF16", name := "charAt", desc := "([BI)C" } : Jvm.MethodName) jdk_52_method_83_code (2 : Nat) (Option.some Jvm.ClassFile.FieldType.char), Jvm.Cond.code ({ cls := "java/lang/StringUTF16", name := "checkIndex", desc := "(I[B)V" } : Jvm.MethodName) jdk_52_method_91_code (2 : Nat) (Option.none : Option Jvm.ClassFile.FieldType), Jvm.Cond.code ({ cls := "java/lang/StringUTF16", name := "length", desc := "([B)I" } : Jvm.MethodName) jdk_52_method_6_code (1 : Nat) (Option.some Jvm.ClassFile.FieldType.int)]
set_option maxRecDepth 65536 in
theorem codes_eq : words1.filter isCode = codes1 := rfl
theorem w_codes : ∀ c ∈ words1.filter isCode, c.before args0 about1 = true := by
  rw [codes_eq]
  intro c hc
  simp only [codes1, List.mem_cons, List.not_mem_nil, or_false] at hc
  rcases hc with rfl | rfl | rfl | rfl | rfl | rfl | rfl | rfl | rfl | rfl | rfl | rfl | rfl | rfl | rfl | rfl | rfl | rfl | rfl | rfl | rfl | rfl | rfl | rfl | rfl | rfl | rfl | rfl | rfl | rfl
  · exact w_c0
  · exact w_c1
  · exact w_c2
  · exact w_c3
  · exact w_c4
  · exact w_c5
  · exact w_c6
  · exact w_c7
  · exact w_c8
  · exact w_c9
  · exact w_c10
  · exact w_c11
  · exact w_c12
  · exact w_c13
  · exact w_c14
  · exact w_c15
  · exact w_c16
  · exact w_c17
  · exact w_c18
  · exact w_c19
  · exact w_c20
  · exact w_c21
  · exact w_c22
  · exact w_c23
  · exact w_c24
  · exact w_c25
  · exact w_c26
  · exact w_c27
  · exact w_c28
  · exact w_c29
set_option maxRecDepth 65536 in
theorem w_t1 : (words1.take 24).all (fun c => isCode c || c.before args0 about1) = true := by decide +kernel
set_option maxRecDepth 65536 in
theorem w_t2 : ((words1.drop 24).take 24).all (fun c => isCode c || c.before args0 about1) = true := by decide +kernel
set_option maxRecDepth 65536 in
theorem w_t3 : (((words1.drop 24).drop 24).take 24).all (fun c => isCode c || c.before args0 about1) = true := by decide +kernel
set_option maxRecDepth 65536 in
theorem w_t4 : ((((words1.drop 24).drop 24).drop 24).take 24).all (fun c => isCode c || c.before args0 about1) = true := by decide +kernel
set_option maxRecDepth 65536 in
theorem w_t5 : ((((words1.drop 24).drop 24).drop 24).drop 24).all (fun c => isCode c || c.before args0 about1) = true := by decide +kernel
theorem w_tables : (allAtoms (Jvm.Cond.code x code maxLocals ret :: tables_1)).before args0 about1 = true := by
  rw [allAtoms_all]
  show words1.all (fun c => c.before args0 about1) = true
  refine all_split ?_ w_codes
  rw [← List.take_append_drop 24 words1, List.all_append, w_t1, ← List.take_append_drop 24 (words1.drop 24), List.all_append, w_t2, ← List.take_append_drop 24 ((words1.drop 24).drop 24), List.all_append, w_t3, ← List.take_append_drop 24 (((words1.drop 24).drop 24).drop 24), List.all_append, w_t4, w_t5]
  rfl
set_option maxRecDepth 65536 in
theorem w_rest : rest_1_c.before args0 about1 = true := by decide +kernel
set_option maxRecDepth 65536 in
theorem w_case : (Jvm.Cond.and given_1 narrow_1).before args0 about1 = true := by decide +kernel
theorem w_applies : (headSpec (Jvm.Cond.code x code maxLocals ret :: tables_1) room_1).applies x e0.platform about1 = true :=
  (Spec.applies_iff w_frames).mpr ⟨w_running, w_runnable, w_alone, w_named, w_hears, w_ripe, w_room, w_tables⟩
theorem atStart : AtStart classFile x code maxLocals ret World_1 tables_1 room_1 Calls_1 rest_1 Pre_1 launch0 p0 e0 about1 theMethod args0 below0 :=
  ⟨lists_1, trivial, launch0.admits_env _ _ _, launch0.least_env, fairChoices_fair.cas, fairChoices_fair.clock, w_frames, w_args, w_heap, w_applies, trivial, w_rest, w_case⟩
end start1
theorem witness_1 : WitnessClaimed_1 := ⟨start1.p0, start1.e0, start1.about1, start1.theMethod, start1.args0, start1.below0, start1.atStart⟩
end Jvm.Pilot.@@N@@
