import JvmDerived
import JvmDerived.Pilot.@@N@@Statement
import JvmDerived.Pilot.@@N@@Code
set_option linter.unusedVariables false
set_option linter.unusedSimpArgs false
namespace Jvm.Pilot.@@N@@
open Jvm Jvm.ClassFile Sem Op Lib Jvm.Free Jvm.Stand Jvm.LawKit Jvm.RoadKit Bundle Jvm.Pilot.@@N@@.Jvm.D
section Own
variable {p : Program} {l : Launch} {e : Env} {R : Room} {s : State} {m : MethodId} {args : Array Value} {below : List Frame} {meth : Method} {c : Code} {T T' : State} {cells slots : Nat} {Z : State} {bytes : ByteArray} {mL : Nat} {ret : Option FieldType} {own nm : String} {Q : Option Value → Heap → Prop} {cC cS : Nat} {pc : Nat} {Ls : Array Slot} {st : List Value} {a0 : Array Value} {g g' : JFrame}
/-- the walk stands at T, so many cells and slots made, nothing old written -/
def Wk (l : Launch) (Z : State) (R : Room) (bytes : ByteArray) (mL : Nat) (ret : Option FieldType) (own nm : String) (p : Program) (e : Env) (s : State) (m : MethodId) (args : Array Value) (below : List Frame) (meth : Method) (c : Code) (T : State) (cells slots : Nat) : Prop :=
  (p.tables.exec = Jvm.exec ∧ c.code = bytes ∧ c.maxLocals = mL ∧ meth.sig.returnType = ret ∧ meth.locks = false ∧ s.vm.findClass own = some m.cls ∧ meth.name = nm ∧ Z.Warmed39 s.vm) ∧
  ∃ locs, Stand p l e R s m args below meth c T locs cells slots ∧ Fr Z.heap.size locs ∧ Ext Z.heap T.heap
/-- from T with frame g the method comes to its end, and Q holds there -/
def Ends (p : Program) (e : Env) (below : List Frame) (s : State) (Z : State) (Q : Option Value → Heap → Prop) (cC cS : Nat) (T : State) (g : JFrame) : Prop :=
  ∃ t o, Steps p.tables e below (T.setTop g) t ∧ t.status = .running ∧ Ended t below o ∧ ∃ v L, o = .returned v ∧ (Fr Z.heap.size L ∧ Ext Z.heap t.heap ∧ Q v t.heap) ∧ FrameEnd s o t L cC cS
/-- a method's contract -/
def Ct (l : Launch) (Z : State) (y : MethodName) (bytes : ByteArray) (mL : Nat) (ret : Option FieldType) (rm : Room) (as' : Array Value) (h : Heap) (Q : Option Value → Heap → Prop) : Prop :=
  ∀ ws, MetFree l y (head1 (Jvm.Cond.code y bytes mL ret :: ws) rm) (fun a U => a = as' ∧ Z.Warmed39 U.vm ∧ U.heap = h) (fun _ _ _ _ _ => True) (fun _ U o U' => ∃ v L, o = .returned v ∧ (Fr Z.heap.size L ∧ Ext Z.heap U'.heap ∧ Q v U'.heap) ∧ FrameEnd U o U' L rm.cells rm.slots)
theorem Wk.hx (X : Wk l Z R bytes mL ret own nm p e s m args below meth c T cells slots) : p.tables.exec = Jvm.exec := X.1.1
theorem Wk.hb (X : Wk l Z R bytes mL ret own nm p e s m args below meth c T cells slots) {pc : Nat} {r : Except DecodeError (Instr × Nat)} (h : decode bytes pc = r) : decode c.code pc = r := X.1.2.1 ▸ h
theorem Wk.hown (X : Wk l Z R bytes mL ret own nm p e s m args below meth c T cells slots) : s.vm.findClass own = some m.cls := X.1.2.2.2.2.2.1
theorem Wk.hZ (X : Wk l Z R bytes mL ret own nm p e s m args below meth c T cells slots) : Z.Warmed39 s.vm := X.1.2.2.2.2.2.2.2
theorem Wk.at (X : Wk l Z R bytes mL ret own nm p e s m args below meth c T cells slots) : At T m c below := by obtain ⟨-, _, X, -⟩ := X; exact X.here
theorem Wk.old (X : Wk l Z R bytes mL ret own nm p e s m args below meth c T cells slots) : Ext Z.heap T.heap := by obtain ⟨-, _, -, -, X⟩ := X; exact X
theorem Wk.le (X : Wk l Z R bytes mL ret own nm p e s m args below meth c T cells slots) : Z.heap.size ≤ T.heap.size := X.old.1
theorem Wk.size (X : Wk l Z R bytes mL ret own nm p e s m args below meth c T cells slots) (h : Ls.size = mL) {pc : Nat} {st : List Value} : (mkF m pc Ls st).locals.size = c.maxLocals := h.trans X.1.2.2.1.symm
theorem Wk.more (X : Wk l Z R bytes mL ret own nm p e s m args below meth c T cells slots) {cells' slots' : Nat} (h1 : cells ≤ cells') (h2 : slots ≤ slots') : Wk l Z R bytes mL ret own nm p e s m args below meth c T cells' slots' := by
  obtain ⟨q, locs, Y, r⟩ := X; exact ⟨q, locs, Y.more h1 h2, r⟩
theorem E_by (f : ∀ target, Steps p.tables e below (T'.setTop g') target → Steps p.tables e below (T.setTop g) target) (k : Ends p e below s Z Q cC cS T' g') : Ends p e below s Z Q cC cS T g := by
  obtain ⟨t, o, h1, r⟩ := k; exact ⟨t, o, f _ h1, r⟩
theorem E_tr (f : Steps p.tables e below (T.setTop g) (T'.setTop g')) (k : Ends p e below s Z Q cC cS T' g') : Ends p e below s Z Q cC cS T g := E_by (fun _ q => f.trans q) k
theorem Keep.of_ext {h h' : Heap} (E : Ext h h') : Keep h h' [] := (Keep.refl h []).ext E
theorem own_keq {h h1 h2 : Heap} {ws : List Addr} (K : Keep h h1 ws) (q : h2 = h1) : Keep h h2 ws := q ▸ K
theorem Keep.old {h h' : Heap} {ws : List Addr} (O : Ext Z.heap h) (K : Keep h h' ws) (q : ∀ x ∈ ws, Z.heap.size ≤ x) : Ext Z.heap h' := ⟨Nat.le_trans O.1 K.1, fun x c r => K.2.1 x c (O.2 x c r) fun z => absurd (Array.getElem?_eq_some_iff.mp r).1 (Nat.not_lt.mpr (q x z))⟩
theorem Ct.of_body {y1 y2 y3 : String} {rm : Room} {as' : Array Value} {h : Heap} (pn : plainFor ⟨y1, y2, y3⟩ = true) (O : Ext Z.heap h) (ef : ∀ m, entryFrame m as' mL = mkF m 0 Ls [])
    (k : ∀ {p : Program} {e : Env} {s : State} {m : MethodId} {below : List Frame} {meth : Method} {c : Code} {T : State}, Wk l Z rm bytes mL ret y1 y2 p e s m as' below meth c T 0 0 → T.heap = h → Ends p e below s Z Q rm.cells rm.slots T (mkF m 0 Ls [])) : Ct l Z ⟨y1, y2, y3⟩ bytes mL ret rm as' h Q := by
  intro ws
  refine MetFree.of_bodySF pn hisR ?_
  intro p e s m args below meth c s₁ Bd hml0 hP hK
  obtain ⟨rfl, hZ, hh⟩ := hP
  have e0 : s₁.heap = h := by rw [← hh, Bd.state]; rfl
  have X : Wk l Z rm bytes mL ret y1 y2 p e s m args below meth c s₁ 0 0 := ⟨⟨Bd.exec, Bd.bytes, hml0, Bd.returns, Bd.notSynchronized, findClass_of_methodNamed Bd.named, (name_of_methodNamed Bd.named Bd.method).1, hZ⟩, [], Stand.of_body Bd, Fr.nil _, e0 ▸ O⟩
  obtain ⟨t, o, h1, r⟩ := k X e0
  exact ⟨t, o, castTop (ef m) h1, r⟩
theorem Ct.back {y : MethodName} {rm : Room} {as' : Array Value} {h : Heap} {mL' : Nat} {bytes' : ByteArray} {ret' : Option FieldType} {Q' : Option Value → Heap → Prop} (hC : Ct l Z y bytes' mL' ret' rm as' h Q') {len W : Nat}
    (hZ : Z.Warmed39 s.vm) (wc : (Jvm.Cond.code y bytes' mL' ret').before a0 Z = true) (wz : (Jvm.Cond.initialized y.cls).before a0 Z = true) (hf : rm.frames + 1 ≤ R.frames) (hl : W + (mL' + 11) + rm.locals ≤ R.locals) :
    Back l R p e below s args y len W (fun A a => a = as' ∧ A.U.heap = h ∧ A.cells + rm.cells ≤ R.cells ∧ A.slots + rm.slots ≤ R.slots)
      (fun A _ v B => ∃ L, (Fr Z.heap.size L ∧ Ext Z.heap B.U.heap ∧ Q' v B.U.heap) ∧ B.locs = A.locs ++ L ∧ B.cells = A.cells + rm.cells ∧ B.slots = A.slots + rm.slots) :=
  backOf (Q := fun v h L => Fr Z.heap.size L ∧ Ext Z.heap h ∧ Q' v h) (hC []) hZ wc wz hf hl

theorem E_aloadN (X : Wk l Z R bytes mL ret own nm p e s m args below meth c T cells slots) {j : Fin 4} {v : Value} (hd : decode bytes pc = .ok (.aload_n j, 1)) (hl : Ls[j.val]? = some (.val v)) (hv : v.isRef = true) {pc' : Nat} (hp : pc + 1 = pc') (k : Ends p e below s Z Q cC cS T (mkF m pc' Ls (v :: st))) : Ends p e below s Z Q cC cS T (mkF m pc Ls (st)) := by
  subst hp; exact E_by (fun _ q => XS.aloadN X.at X.hx rfl (X.hb hd) hl hv q) k
theorem E_aload (X : Wk l Z R bytes mL ret own nm p e s m args below meth c T cells slots) {j : Nat} {v : Value} (hd : decode bytes pc = .ok (.aload j, 2)) (hl : Ls[j]? = some (.val v)) (hv : v.isRef = true) {pc' : Nat} (hp : pc + 2 = pc') (k : Ends p e below s Z Q cC cS T (mkF m pc' Ls (v :: st))) : Ends p e below s Z Q cC cS T (mkF m pc Ls (st)) := by
  subst hp; exact E_by (fun _ q => XS.aload X.at X.hx rfl (X.hb hd) hl hv q) k
theorem E_iloadN (X : Wk l Z R bytes mL ret own nm p e s m args below meth c T cells slots) {j : Fin 4} {v : Int32} (hd : decode bytes pc = .ok (.iload_n j, 1)) (hl : Ls[j.val]? = some (.val (.int v))) {pc' : Nat} (hp : pc + 1 = pc') (k : Ends p e below s Z Q cC cS T (mkF m pc' Ls (.int v :: st))) : Ends p e below s Z Q cC cS T (mkF m pc Ls (st)) := by
  subst hp; exact E_by (fun _ q => XS.iloadN X.at X.hx rfl (X.hb hd) hl q) k
theorem E_iload (X : Wk l Z R bytes mL ret own nm p e s m args below meth c T cells slots) {j : Nat} {v : Int32} (hd : decode bytes pc = .ok (.iload j, 2)) (hl : Ls[j]? = some (.val (.int v))) {pc' : Nat} (hp : pc + 2 = pc') (k : Ends p e below s Z Q cC cS T (mkF m pc' Ls (.int v :: st))) : Ends p e below s Z Q cC cS T (mkF m pc Ls (st)) := by
  subst hp; exact E_by (fun _ q => XS.iload X.at X.hx rfl (X.hb hd) hl q) k
theorem E_aconstNull (X : Wk l Z R bytes mL ret own nm p e s m args below meth c T cells slots) (hd : decode bytes pc = .ok (.aconst_null, 1)) {pc' : Nat} (hp : pc + 1 = pc') (k : Ends p e below s Z Q cC cS T (mkF m pc' Ls (.null :: st))) : Ends p e below s Z Q cC cS T (mkF m pc Ls (st)) := by
  subst hp; exact E_by (fun _ q => XS.aconstNull X.at X.hx rfl (X.hb hd) q) k
theorem E_iconst (X : Wk l Z R bytes mL ret own nm p e s m args below meth c T cells slots) {i : Int} {v : Int32} (hd : decode bytes pc = .ok (.iconst i, 1)) (hv : Int32.ofInt i = v) {pc' : Nat} (hp : pc + 1 = pc') (k : Ends p e below s Z Q cC cS T (mkF m pc' Ls (.int v :: st))) : Ends p e below s Z Q cC cS T (mkF m pc Ls st) := by
  subst hp hv; exact E_by (fun _ q => XS.iconst X.at X.hx rfl (X.hb hd) q) k
theorem E_bipush (X : Wk l Z R bytes mL ret own nm p e s m args below meth c T cells slots) {i : Int} {v : Int32} (hd : decode bytes pc = .ok (.bipush i, 2)) (hv : (Int8.ofInt i).toInt32 = v) {pc' : Nat} (hp : pc + 2 = pc') (k : Ends p e below s Z Q cC cS T (mkF m pc' Ls (.int v :: st))) : Ends p e below s Z Q cC cS T (mkF m pc Ls st) := by
  subst hp hv; exact E_by (fun _ q => XS.bipush X.at X.hx rfl (X.hb hd) q) k
theorem E_sipush (X : Wk l Z R bytes mL ret own nm p e s m args below meth c T cells slots) {i : Int} {v : Int32} (hd : decode bytes pc = .ok (.sipush i, 3)) (hv : (Int16.ofInt i).toInt32 = v) {pc' : Nat} (hp : pc + 3 = pc') (k : Ends p e below s Z Q cC cS T (mkF m pc' Ls (.int v :: st))) : Ends p e below s Z Q cC cS T (mkF m pc Ls st) := by
  subst hp hv; exact E_by (fun _ q => XS.sipush X.at X.hx rfl (X.hb hd) q) k
theorem E_iadd (X : Wk l Z R bytes mL ret own nm p e s m args below meth c T cells slots) {x y v : Int32} (hd : decode bytes pc = .ok (.iadd, 1)) (hv : x + y = v) {pc' : Nat} (hp : pc + 1 = pc') (k : Ends p e below s Z Q cC cS T (mkF m pc' Ls (.int v :: st))) : Ends p e below s Z Q cC cS T (mkF m pc Ls (.int y :: .int x :: st)) := by
  subst hp hv; exact E_by (fun _ q => XS.iadd X.at X.hx rfl (X.hb hd) rfl q) k
theorem E_isub (X : Wk l Z R bytes mL ret own nm p e s m args below meth c T cells slots) {x y v : Int32} (hd : decode bytes pc = .ok (.isub, 1)) (hv : x - y = v) {pc' : Nat} (hp : pc + 1 = pc') (k : Ends p e below s Z Q cC cS T (mkF m pc' Ls (.int v :: st))) : Ends p e below s Z Q cC cS T (mkF m pc Ls (.int y :: .int x :: st)) := by
  subst hp hv; exact E_by (fun _ q => XS.isub X.at X.hx rfl (X.hb hd) rfl q) k
theorem E_imul (X : Wk l Z R bytes mL ret own nm p e s m args below meth c T cells slots) {x y v : Int32} (hd : decode bytes pc = .ok (.imul, 1)) (hv : x * y = v) {pc' : Nat} (hp : pc + 1 = pc') (k : Ends p e below s Z Q cC cS T (mkF m pc' Ls (.int v :: st))) : Ends p e below s Z Q cC cS T (mkF m pc Ls (.int y :: .int x :: st)) := by
  subst hp hv; exact E_by (fun _ q => XS.imul X.at X.hx rfl (X.hb hd) rfl q) k
theorem E_iand (X : Wk l Z R bytes mL ret own nm p e s m args below meth c T cells slots) {x y v : Int32} (hd : decode bytes pc = .ok (.iand, 1)) (hv : x &&& y = v) {pc' : Nat} (hp : pc + 1 = pc') (k : Ends p e below s Z Q cC cS T (mkF m pc' Ls (.int v :: st))) : Ends p e below s Z Q cC cS T (mkF m pc Ls (.int y :: .int x :: st)) := by
  subst hp hv; exact E_by (fun _ q => XS.iand X.at X.hx rfl (X.hb hd) rfl q) k
theorem E_ior (X : Wk l Z R bytes mL ret own nm p e s m args below meth c T cells slots) {x y v : Int32} (hd : decode bytes pc = .ok (.ior, 1)) (hv : x ||| y = v) {pc' : Nat} (hp : pc + 1 = pc') (k : Ends p e below s Z Q cC cS T (mkF m pc' Ls (.int v :: st))) : Ends p e below s Z Q cC cS T (mkF m pc Ls (.int y :: .int x :: st)) := by
  subst hp hv; exact E_by (fun _ q => XS.ior X.at X.hx rfl (X.hb hd) rfl q) k
theorem E_ixor (X : Wk l Z R bytes mL ret own nm p e s m args below meth c T cells slots) {x y v : Int32} (hd : decode bytes pc = .ok (.ixor, 1)) (hv : x ^^^ y = v) {pc' : Nat} (hp : pc + 1 = pc') (k : Ends p e below s Z Q cC cS T (mkF m pc' Ls (.int v :: st))) : Ends p e below s Z Q cC cS T (mkF m pc Ls (.int y :: .int x :: st)) := by
  subst hp hv; exact E_by (fun _ q => XS.ixor X.at X.hx rfl (X.hb hd) rfl q) k
theorem E_ishl (X : Wk l Z R bytes mL ret own nm p e s m args below meth c T cells slots) {x y v : Int32} (hd : decode bytes pc = .ok (.ishl, 1)) (hv : x <<< (y &&& 31) = v) {pc' : Nat} (hp : pc + 1 = pc') (k : Ends p e below s Z Q cC cS T (mkF m pc' Ls (.int v :: st))) : Ends p e below s Z Q cC cS T (mkF m pc Ls (.int y :: .int x :: st)) := by
  subst hp hv; exact E_by (fun _ q => XS.ishl X.at X.hx rfl (X.hb hd) rfl q) k
theorem E_ishr (X : Wk l Z R bytes mL ret own nm p e s m args below meth c T cells slots) {x y v : Int32} (hd : decode bytes pc = .ok (.ishr, 1)) (hv : x >>> (y &&& 31) = v) {pc' : Nat} (hp : pc + 1 = pc') (k : Ends p e below s Z Q cC cS T (mkF m pc' Ls (.int v :: st))) : Ends p e below s Z Q cC cS T (mkF m pc Ls (.int y :: .int x :: st)) := by
  subst hp hv; exact E_by (fun _ q => XS.ishr X.at X.hx rfl (X.hb hd) rfl q) k
theorem E_iushr (X : Wk l Z R bytes mL ret own nm p e s m args below meth c T cells slots) {x y v : Int32} (hd : decode bytes pc = .ok (.iushr, 1)) (hv : (x.toUInt32 >>> (y &&& 31).toUInt32).toInt32 = v) {pc' : Nat} (hp : pc + 1 = pc') (k : Ends p e below s Z Q cC cS T (mkF m pc' Ls (.int v :: st))) : Ends p e below s Z Q cC cS T (mkF m pc Ls (.int y :: .int x :: st)) := by
  subst hp hv; exact E_by (fun _ q => XS.iushr X.at X.hx rfl (X.hb hd) rfl q) k
theorem E_ineg (X : Wk l Z R bytes mL ret own nm p e s m args below meth c T cells slots) {x v : Int32} (hd : decode bytes pc = .ok (.ineg, 1)) (hv : -x = v) {pc' : Nat} (hp : pc + 1 = pc') (k : Ends p e below s Z Q cC cS T (mkF m pc' Ls (.int v :: st))) : Ends p e below s Z Q cC cS T (mkF m pc Ls (.int x :: st)) := by
  subst hp hv; exact E_by (fun _ q => XS.ineg X.at X.hx rfl (X.hb hd) rfl q) k
theorem E_i2c (X : Wk l Z R bytes mL ret own nm p e s m args below meth c T cells slots) {x v : Int32} (hd : decode bytes pc = .ok (.i2c, 1)) (hv : x.toUInt32.toUInt16.toUInt32.toInt32 = v) {pc' : Nat} (hp : pc + 1 = pc') (k : Ends p e below s Z Q cC cS T (mkF m pc' Ls (.int v :: st))) : Ends p e below s Z Q cC cS T (mkF m pc Ls (.int x :: st)) := by
  subst hp hv; exact E_by (fun _ q => XS.i2c X.at X.hx rfl (X.hb hd) rfl q) k
theorem E_i2b (X : Wk l Z R bytes mL ret own nm p e s m args below meth c T cells slots) {x v : Int32} (hd : decode bytes pc = .ok (.i2b, 1)) (hv : x.toInt8.toInt32 = v) {pc' : Nat} (hp : pc + 1 = pc') (k : Ends p e below s Z Q cC cS T (mkF m pc' Ls (.int v :: st))) : Ends p e below s Z Q cC cS T (mkF m pc Ls (.int x :: st)) := by
  subst hp hv; exact E_by (fun _ q => XS.i2b X.at X.hx rfl (X.hb hd) rfl q) k
theorem E_i2s (X : Wk l Z R bytes mL ret own nm p e s m args below meth c T cells slots) {x v : Int32} (hd : decode bytes pc = .ok (.i2s, 1)) (hv : x.toInt16.toInt32 = v) {pc' : Nat} (hp : pc + 1 = pc') (k : Ends p e below s Z Q cC cS T (mkF m pc' Ls (.int v :: st))) : Ends p e below s Z Q cC cS T (mkF m pc Ls (.int x :: st)) := by
  subst hp hv; exact E_by (fun _ q => XS.i2s X.at X.hx rfl (X.hb hd) rfl q) k
theorem E_dup (X : Wk l Z R bytes mL ret own nm p e s m args below meth c T cells slots) {v : Value} (hd : decode bytes pc = .ok (.dup, 1)) (hc : v.category = 1) {pc' : Nat} (hp : pc + 1 = pc') (k : Ends p e below s Z Q cC cS T (mkF m pc' Ls (v :: v :: st))) : Ends p e below s Z Q cC cS T (mkF m pc Ls (v :: st)) := by
  subst hp; exact E_by (fun _ q => XS.dup X.at X.hx rfl (X.hb hd) rfl hc q) k
theorem E_pop (X : Wk l Z R bytes mL ret own nm p e s m args below meth c T cells slots) {v : Value} (hd : decode bytes pc = .ok (.pop, 1)) (hc : v.category = 1) {pc' : Nat} (hp : pc + 1 = pc') (k : Ends p e below s Z Q cC cS T (mkF m pc' Ls (st))) : Ends p e below s Z Q cC cS T (mkF m pc Ls (v :: st)) := by
  subst hp; exact E_by (fun _ q => XS.pop X.at X.hx rfl (X.hb hd) rfl hc q) k
theorem E_istoreN (X : Wk l Z R bytes mL ret own nm p e s m args below meth c T cells slots) {j : Fin 4} {x : Int32} (hd : decode bytes pc = .ok (.istore_n j, 1)) {l' : Array Slot} (hl : storeLocals Ls j.val (.int x) = some l') {pc' : Nat} (hp : pc + 1 = pc') (k : Ends p e below s Z Q cC cS T (mkF m pc' l' (st))) : Ends p e below s Z Q cC cS T (mkF m pc Ls (.int x :: st)) := by
  subst hp; exact E_by (fun _ q => XS.istoreN X.at X.hx rfl (X.hb hd) rfl hl q) k
theorem E_istore (X : Wk l Z R bytes mL ret own nm p e s m args below meth c T cells slots) {j : Nat} {x : Int32} (hd : decode bytes pc = .ok (.istore j, 2)) {l' : Array Slot} (hl : storeLocals Ls j (.int x) = some l') {pc' : Nat} (hp : pc + 2 = pc') (k : Ends p e below s Z Q cC cS T (mkF m pc' l' (st))) : Ends p e below s Z Q cC cS T (mkF m pc Ls (.int x :: st)) := by
  subst hp; exact E_by (fun _ q => XS.istore X.at X.hx rfl (X.hb hd) rfl hl q) k
theorem E_astoreN (X : Wk l Z R bytes mL ret own nm p e s m args below meth c T cells slots) {j : Fin 4} {x : Value} (hd : decode bytes pc = .ok (.astore_n j, 1)) (hv : x.isRef = true) {l' : Array Slot} (hl : storeLocals Ls j.val x = some l') {pc' : Nat} (hp : pc + 1 = pc') (k : Ends p e below s Z Q cC cS T (mkF m pc' l' (st))) : Ends p e below s Z Q cC cS T (mkF m pc Ls (x :: st)) := by
  subst hp; exact E_by (fun _ q => XS.astoreN X.at X.hx rfl (X.hb hd) rfl hv hl q) k
theorem E_astore (X : Wk l Z R bytes mL ret own nm p e s m args below meth c T cells slots) {j : Nat} {x : Value} (hd : decode bytes pc = .ok (.astore j, 2)) (hv : x.isRef = true) {l' : Array Slot} (hl : storeLocals Ls j x = some l') {pc' : Nat} (hp : pc + 2 = pc') (k : Ends p e below s Z Q cC cS T (mkF m pc' l' (st))) : Ends p e below s Z Q cC cS T (mkF m pc Ls (x :: st)) := by
  subst hp; exact E_by (fun _ q => XS.astore X.at X.hx rfl (X.hb hd) rfl hv hl q) k
theorem E_iinc (X : Wk l Z R bytes mL ret own nm p e s m args below meth c T cells slots) {j : Nat} {i : Int} {x y : Int32} (hd : decode bytes pc = .ok (.iinc j i, 3)) (hy : x + Int32.ofInt i = y) (hl : Ls[j]? = some (.val (.int x))) {l' : Array Slot} (hl' : storeLocals Ls j (.int y) = some l') {pc' : Nat} (hp : pc + 3 = pc') (k : Ends p e below s Z Q cC cS T (mkF m pc' l' st)) : Ends p e below s Z Q cC cS T (mkF m pc Ls st) := by
  subst hp hy; exact E_by (fun _ q => XS.iinc X.at X.hx rfl (X.hb hd) hl hl' q) k
theorem E_irem (X : Wk l Z R bytes mL ret own nm p e s m args below meth c T cells slots) {x y v : Int32} (hd : decode bytes pc = .ok (.irem, 1)) (hy : y ≠ 0) (hv : x % y = v) {pc' : Nat} (hp : pc + 1 = pc') (k : Ends p e below s Z Q cC cS T (mkF m pc' Ls (.int v :: st))) : Ends p e below s Z Q cC cS T (mkF m pc Ls (.int y :: .int x :: st)) := by
  subst hp hv; obtain ⟨q, locs, Y, r⟩ := id X; exact E_by (fun _ k => iremM Y X.hx rfl (X.hb hd) rfl hy k) k
theorem E_idiv (X : Wk l Z R bytes mL ret own nm p e s m args below meth c T cells slots) {x y v : Int32} (hd : decode bytes pc = .ok (.idiv, 1)) (hy : y ≠ 0) (hv : x / y = v) {pc' : Nat} (hp : pc + 1 = pc') (k : Ends p e below s Z Q cC cS T (mkF m pc' Ls (.int v :: st))) : Ends p e below s Z Q cC cS T (mkF m pc Ls (.int y :: .int x :: st)) := by
  subst hp hv; exact E_by (fun _ k => XS.idiv X.at X.hx rfl (X.hb hd) rfl hy k) k
theorem E_goto (X : Wk l Z R bytes mL ret own nm p e s m args below meth c T cells slots) {o : Int} (hd : decode bytes pc = .ok (.goto o, 3)) {pc' : Nat} (ho : 0 ≤ (pc : Int) + o) (hp : ((pc : Int) + o).toNat = pc') (k : Ends p e below s Z Q cC cS T (mkF m pc' Ls st)) : Ends p e below s Z Q cC cS T (mkF m pc Ls st) :=
  E_by (fun _ q => XS.goto X.at X.hx rfl (pc0 := pc) rfl (X.hb hd) ho hp q) k
theorem E_ifT (X : Wk l Z R bytes mL ret own nm p e s m args below meth c T cells slots) {cd : ClassFile.Cond} {o : Int} {x : Int32} (hd : decode bytes pc = .ok (.ifCond cd o, 3)) (hc : ifCond.holds cd x = true) {pc' : Nat} (ho : 0 ≤ (pc : Int) + o) (hp : ((pc : Int) + o).toNat = pc') (k : Ends p e below s Z Q cC cS T (mkF m pc' Ls st)) : Ends p e below s Z Q cC cS T (mkF m pc Ls (.int x :: st)) :=
  E_by (fun _ q => XS.ifYes X.at X.hx rfl (pc0 := pc) rfl (X.hb hd) rfl hc ho hp q) k
theorem E_ifF (X : Wk l Z R bytes mL ret own nm p e s m args below meth c T cells slots) {cd : ClassFile.Cond} {o : Int} {x : Int32} (hd : decode bytes pc = .ok (.ifCond cd o, 3)) (hc : ifCond.holds cd x = false) {pc' : Nat} (hp : pc + 3 = pc') (k : Ends p e below s Z Q cC cS T (mkF m pc' Ls st)) : Ends p e below s Z Q cC cS T (mkF m pc Ls (.int x :: st)) := by
  subst hp; exact E_by (fun _ q => XS.ifNo X.at X.hx rfl (X.hb hd) rfl hc q) k
theorem E_icT (X : Wk l Z R bytes mL ret own nm p e s m args below meth c T cells slots) {cd : ClassFile.Cond} {o : Int} {x y : Int32} (hd : decode bytes pc = .ok (.if_icmp cd o, 3)) (hc : if_icmp.holds cd x y = true) {pc' : Nat} (ho : 0 ≤ (pc : Int) + o) (hp : ((pc : Int) + o).toNat = pc') (k : Ends p e below s Z Q cC cS T (mkF m pc' Ls st)) : Ends p e below s Z Q cC cS T (mkF m pc Ls (.int y :: .int x :: st)) :=
  E_by (fun _ q => XS.icmpYes X.at X.hx rfl (pc0 := pc) rfl (X.hb hd) rfl hc ho hp q) k
theorem E_icF (X : Wk l Z R bytes mL ret own nm p e s m args below meth c T cells slots) {cd : ClassFile.Cond} {o : Int} {x y : Int32} (hd : decode bytes pc = .ok (.if_icmp cd o, 3)) (hc : if_icmp.holds cd x y = false) {pc' : Nat} (hp : pc + 3 = pc') (k : Ends p e below s Z Q cC cS T (mkF m pc' Ls st)) : Ends p e below s Z Q cC cS T (mkF m pc Ls (.int y :: .int x :: st)) := by
  subst hp; exact E_by (fun _ q => XS.icmpNo X.at X.hx rfl (X.hb hd) rfl hc q) k
theorem E_nullT (X : Wk l Z R bytes mL ret own nm p e s m args below meth c T cells slots) {o : Int} (hd : decode bytes pc = .ok (.ifnull o, 3)) {pc' : Nat} (ho : 0 ≤ (pc : Int) + o) (hp : ((pc : Int) + o).toNat = pc') (k : Ends p e below s Z Q cC cS T (mkF m pc' Ls st)) : Ends p e below s Z Q cC cS T (mkF m pc Ls (.null :: st)) :=
  E_by (fun _ q => XS.ifnullYes X.at X.hx rfl (pc0 := pc) rfl (X.hb hd) rfl ho hp q) k
theorem E_nullF (X : Wk l Z R bytes mL ret own nm p e s m args below meth c T cells slots) {o : Int} {b : Addr} (hd : decode bytes pc = .ok (.ifnull o, 3)) {pc' : Nat} (hp : pc + 3 = pc') (k : Ends p e below s Z Q cC cS T (mkF m pc' Ls st)) : Ends p e below s Z Q cC cS T (mkF m pc Ls (.ref b :: st)) := by
  subst hp; exact E_by (fun _ q => XS.ifnullNo X.at X.hx rfl (X.hb hd) rfl q) k
theorem E_nonnullT (X : Wk l Z R bytes mL ret own nm p e s m args below meth c T cells slots) {o : Int} {b : Addr} (hd : decode bytes pc = .ok (.ifnonnull o, 3)) {pc' : Nat} (ho : 0 ≤ (pc : Int) + o) (hp : ((pc : Int) + o).toNat = pc') (k : Ends p e below s Z Q cC cS T (mkF m pc' Ls st)) : Ends p e below s Z Q cC cS T (mkF m pc Ls (.ref b :: st)) :=
  E_by (fun _ q => XT.nonnullYes X.at X.hx rfl (pc0 := pc) rfl (X.hb hd) rfl rfl (fun q => nomatch q) ho hp q) k
theorem E_nonnullF (X : Wk l Z R bytes mL ret own nm p e s m args below meth c T cells slots) {o : Int} (hd : decode bytes pc = .ok (.ifnonnull o, 3)) {pc' : Nat} (hp : pc + 3 = pc') (k : Ends p e below s Z Q cC cS T (mkF m pc' Ls st)) : Ends p e below s Z Q cC cS T (mkF m pc Ls (.null :: st)) := by
  subst hp; exact E_by (fun _ q => XT.nonnullNo X.at X.hx rfl (X.hb hd) rfl rfl q) k
theorem E_acmp (X : Wk l Z R bytes mL ret own nm p e s m args below meth c T cells slots) {cd : ACond} {o : Int} {x y : Value} (hd : decode bytes pc = .ok (.if_acmp cd o, 3)) (h1 : x.isRef = true) (h2 : y.isRef = true) (same : Bool) (hq : decide (x = y) = same) {pc' : Nat} (ho : 0 ≤ (pc : Int) + o) (hp : pc' = if acV cd same = true then ((pc : Int) + o).toNat else pc + 3) (k : Ends p e below s Z Q cC cS T (mkF m pc' Ls st)) : Ends p e below s Z Q cC cS T (mkF m pc Ls (y :: x :: st)) := by
  obtain ⟨_, locs, Y, r⟩ := id X; exact E_by (fun _ q => acmp Y X.hx rfl h1 h2 (pc0 := pc) rfl (X.hb hd) rfl hq ho hp q) k
theorem E_ldcI (X : Wk l Z R bytes mL ret own nm p e s m args below meth c T cells slots) {ix : Nat} {v : Int32} (hd : decode bytes pc = .ok (.ldc ix, 2)) (w : (Jvm.Cond.constant own ix v).before a0 Z = true) {pc' : Nat} (hp : pc + 2 = pc') (k : Ends p e below s Z Q cC cS T (mkF m pc' Ls (.int v :: st))) : Ends p e below s Z Q cC cS T (mkF m pc Ls st) := by
  subst hp; obtain ⟨_, locs, Y, r⟩ := id X; exact E_by (fun _ q => Y.ldcI X.hx X.hown (mvT X.hZ w) rfl (X.hb hd) q) k
theorem E_new (X : Wk l Z R bytes mL ret own nm p e s m args below meth c T cells slots) {C : String} {ix n : Nat} (hd : decode bytes pc = .ok (.new ix, 3)) (w1 : (Jvm.Cond.classLink own ix C).before a0 Z = true) (w2 : (Jvm.Cond.instantiable C n).before a0 Z = true) (w3 : (Jvm.Cond.initialized C).before a0 Z = true) (hc : cells + 1 ≤ R.cells) (hs : slots + n ≤ R.slots) {pc' : Nat} (hp : pc + 3 = pc')
    (k : ∀ (T' : State) (b : Addr), Wk l Z R bytes mL ret own nm p e s m args below meth c T' (cells + 1) (slots + n) → b = T.heap.size → Keep T.heap T'.heap [] → Exa Z T'.heap b C → (∀ {O nm d : String} {ty : FieldType}, Laid Z a0 C O nm d → parseFieldDescriptor d = some ty → Fld Z T'.heap b O nm d (defaultValue ty)) → Ends p e below s Z Q cC cS T' (mkF m pc' Ls (.ref b :: st))) : Ends p e below s Z Q cC cS T (mkF m pc Ls st) := by
  subst hp; obtain ⟨q0, locs, Y, N, O⟩ := id X
  obtain ⟨T', h', Y', rfl, E, A, D, -, stp⟩ := newO Y X.hx X.hZ X.hown w1 w2 w3 rfl (g := mkF m pc Ls st) rfl (X.hb hd) hc hs
  exact E_by stp (k T' _ ⟨q0, locs, Y', N, Keep.old O (Keep.of_ext E) all0⟩ rfl (Keep.of_ext E) A D)
theorem E_newarray (X : Wk l Z R bytes mL ret own nm p e s m args below meth c T cells slots) {aty : ArrayType} {n : Int32} (cap : Nat) (hd : decode bytes pc = .ok (.newarray aty, 2)) (w : (Jvm.Cond.arrayClass (newarray.typeOf aty)).before a0 Z = true) (hn : ¬ n < 0) (hcap : n.toNatClampNeg ≤ cap) (hb : cap * 8 ≤ 536870912) (hc : cells + 1 ≤ R.cells) (hs : slots + cap ≤ R.slots) {pc' : Nat} (hp : pc + 2 = pc')
    (k : ∀ (T' : State) (b : Addr) (kA : ClassId), Wk l Z R bytes mL ret own nm p e s m args below meth c T' (cells + 1) (slots + cap) → b = T.heap.size → Keep T.heap T'.heap [] → Arv Z T'.heap b kA (newarray.typeOf aty) n [] (defaultValue (newarray.typeOf aty)) → Ends p e below s Z Q cC cS T' (mkF m pc' Ls (.ref b :: st))) : Ends p e below s Z Q cC cS T (mkF m pc Ls (.int n :: st)) := by
  subst hp; obtain ⟨q0, locs, Y, N, O⟩ := id X
  obtain ⟨T', h', kA, Y', rfl, E, A, stp⟩ := newP Y X.hx X.hZ w rfl (g := mkF m pc Ls (.int n :: st)) rfl (X.hb hd) rfl hn hcap hb hc hs
  exact E_by stp (k T' _ kA ⟨q0, locs, Y', N, Keep.old O (Keep.of_ext E) all0⟩ rfl (Keep.of_ext E) (Arv.new A hn))
theorem E_iastore (X : Wk l Z R bytes mL ret own nm p e s m args below meth c T cells slots) {a : Addr} {kA : ClassId} {z j x : Int32} {vs : List Value} {dv : Value} {y : Int32} (i : Nat) (hd : decode bytes pc = .ok (.iastore, 1)) (hy : x = y) (V : Arv Z T.heap a kA .int z vs dv) (hj : ¬ j < 0 ∧ j < z) (hi : j.toNatClampNeg = i) (hl : i < vs.length) (ha : Z.heap.size ≤ a) {pc' : Nat} (hp : pc + 1 = pc')
    (k : ∀ (T' : State), Wk l Z R bytes mL ret own nm p e s m args below meth c T' cells slots → Keep T.heap T'.heap [a] → Arv Z T'.heap a kA .int z (vs.set i (.int y)) dv → Ends p e below s Z Q cC cS T' (mkF m pc' Ls st)) : Ends p e below s Z Q cC cS T (mkF m pc Ls (.int x :: .int j :: .ref a :: st)) := by
  subst hp hy; obtain ⟨q0, locs, Y, N, O⟩ := id X
  obtain ⟨cl, A, q1, S1, N1, H1, G1⟩ := V
  obtain ⟨T', h', Y', rfl, W, stp⟩ := stI Y X.hx X.hZ rfl A (j := j) (x := x) (inb_of S1 hj) (g := mkF m pc Ls (.int x :: .int j :: .ref a :: st)) rfl rfl (X.hb hd)
  exact E_by stp (k T' ⟨q0, _, Y', Fr.snoc Y' N ha, Keep.old O (Keep.of_wr W) (allS ha all0)⟩ (Keep.of_wr W) (Arv.set A q1 S1 N1 H1 G1 (rfl) W i hi hl))
theorem E_castore (X : Wk l Z R bytes mL ret own nm p e s m args below meth c T cells slots) {a : Addr} {kA : ClassId} {z j x : Int32} {vs : List Value} {dv : Value} {y : Int32} (i : Nat) (hd : decode bytes pc = .ok (.castore, 1)) (hy : nar .char x = y) (V : Arv Z T.heap a kA .char z vs dv) (hj : ¬ j < 0 ∧ j < z) (hi : j.toNatClampNeg = i) (hl : i < vs.length) (ha : Z.heap.size ≤ a) {pc' : Nat} (hp : pc + 1 = pc')
    (k : ∀ (T' : State), Wk l Z R bytes mL ret own nm p e s m args below meth c T' cells slots → Keep T.heap T'.heap [a] → Arv Z T'.heap a kA .char z (vs.set i (.int y)) dv → Ends p e below s Z Q cC cS T' (mkF m pc' Ls st)) : Ends p e below s Z Q cC cS T (mkF m pc Ls (.int x :: .int j :: .ref a :: st)) := by
  subst hp hy; obtain ⟨q0, locs, Y, N, O⟩ := id X
  obtain ⟨cl, A, q1, S1, N1, H1, G1⟩ := V
  obtain ⟨T', h', Y', rfl, W, stp⟩ := stC Y X.hx X.hZ rfl A (j := j) (x := x) (inb_of S1 hj) (g := mkF m pc Ls (.int x :: .int j :: .ref a :: st)) rfl rfl (X.hb hd)
  exact E_by stp (k T' ⟨q0, _, Y', Fr.snoc Y' N ha, Keep.old O (Keep.of_wr W) (allS ha all0)⟩ (Keep.of_wr W) (Arv.set A q1 S1 N1 H1 G1 (fits_nar_char _) W i hi hl))
theorem E_bastore (X : Wk l Z R bytes mL ret own nm p e s m args below meth c T cells slots) {a : Addr} {kA : ClassId} {z j x : Int32} {vs : List Value} {dv : Value} {y : Int32} (i : Nat) (hd : decode bytes pc = .ok (.bastore, 1)) (hy : x.toInt8.toInt32 = y) (V : Arv Z T.heap a kA .byte z vs dv) (hj : ¬ j < 0 ∧ j < z) (hi : j.toNatClampNeg = i) (hl : i < vs.length) (ha : Z.heap.size ≤ a) {pc' : Nat} (hp : pc + 1 = pc')
    (k : ∀ (T' : State), Wk l Z R bytes mL ret own nm p e s m args below meth c T' cells slots → Keep T.heap T'.heap [a] → Arv Z T'.heap a kA .byte z (vs.set i (.int y)) dv → Ends p e below s Z Q cC cS T' (mkF m pc' Ls st)) : Ends p e below s Z Q cC cS T (mkF m pc Ls (.int x :: .int j :: .ref a :: st)) := by
  subst hp hy; obtain ⟨q0, locs, Y, N, O⟩ := id X
  obtain ⟨cl, A, q1, S1, N1, H1, G1⟩ := V
  obtain ⟨T', h', Y', rfl, W, stp⟩ := stB Y X.hx X.hZ rfl A (j := j) (x := x) (inb_of S1 hj) (g := mkF m pc Ls (.int x :: .int j :: .ref a :: st)) rfl rfl (X.hb hd)
  exact E_by stp (k T' ⟨q0, _, Y', Fr.snoc Y' N ha, Keep.old O (Keep.of_wr W) (allS ha all0)⟩ (Keep.of_wr W) (Arv.set A q1 S1 N1 H1 G1 (fits_nar_byte _) W i hi hl))
theorem E_iastoreA (X : Wk l Z R bytes mL ret own nm p e s m args below meth c T cells slots) {a : Addr} {kA : ClassId} {z j x : Int32} {vs : List Value} {dv : Value} {y : Int32} (hd : decode bytes pc = .ok (.iastore, 1)) (hy : x = y) (V : Arv Z T.heap a kA .int z vs dv) (hj : ¬ j < 0 ∧ j < z) (hi : j.toNatClampNeg = vs.length) (ha : Z.heap.size ≤ a) {pc' : Nat} (hp : pc + 1 = pc')
    (k : ∀ (T' : State), Wk l Z R bytes mL ret own nm p e s m args below meth c T' cells slots → Keep T.heap T'.heap [a] → Arv Z T'.heap a kA .int z (vs ++ [.int y]) dv → Ends p e below s Z Q cC cS T' (mkF m pc' Ls st)) : Ends p e below s Z Q cC cS T (mkF m pc Ls (.int x :: .int j :: .ref a :: st)) := by
  refine E_iastore X vs.length hd hy (V.pad (pad_rep vs dv 1)) hj hi (by simp) ha hp fun T' X' K' V' => k T' X' K' ?_
  have q : (vs ++ List.replicate 1 dv).set vs.length (.int y) = vs ++ [.int y] := by simp
  rw [q] at V'; exact V'
theorem E_castoreA (X : Wk l Z R bytes mL ret own nm p e s m args below meth c T cells slots) {a : Addr} {kA : ClassId} {z j x : Int32} {vs : List Value} {dv : Value} {y : Int32} (hd : decode bytes pc = .ok (.castore, 1)) (hy : nar .char x = y) (V : Arv Z T.heap a kA .char z vs dv) (hj : ¬ j < 0 ∧ j < z) (hi : j.toNatClampNeg = vs.length) (ha : Z.heap.size ≤ a) {pc' : Nat} (hp : pc + 1 = pc')
    (k : ∀ (T' : State), Wk l Z R bytes mL ret own nm p e s m args below meth c T' cells slots → Keep T.heap T'.heap [a] → Arv Z T'.heap a kA .char z (vs ++ [.int y]) dv → Ends p e below s Z Q cC cS T' (mkF m pc' Ls st)) : Ends p e below s Z Q cC cS T (mkF m pc Ls (.int x :: .int j :: .ref a :: st)) := by
  refine E_castore X vs.length hd hy (V.pad (pad_rep vs dv 1)) hj hi (by simp) ha hp fun T' X' K' V' => k T' X' K' ?_
  have q : (vs ++ List.replicate 1 dv).set vs.length (.int y) = vs ++ [.int y] := by simp
  rw [q] at V'; exact V'
theorem E_bastoreA (X : Wk l Z R bytes mL ret own nm p e s m args below meth c T cells slots) {a : Addr} {kA : ClassId} {z j x : Int32} {vs : List Value} {dv : Value} {y : Int32} (hd : decode bytes pc = .ok (.bastore, 1)) (hy : x.toInt8.toInt32 = y) (V : Arv Z T.heap a kA .byte z vs dv) (hj : ¬ j < 0 ∧ j < z) (hi : j.toNatClampNeg = vs.length) (ha : Z.heap.size ≤ a) {pc' : Nat} (hp : pc + 1 = pc')
    (k : ∀ (T' : State), Wk l Z R bytes mL ret own nm p e s m args below meth c T' cells slots → Keep T.heap T'.heap [a] → Arv Z T'.heap a kA .byte z (vs ++ [.int y]) dv → Ends p e below s Z Q cC cS T' (mkF m pc' Ls st)) : Ends p e below s Z Q cC cS T (mkF m pc Ls (.int x :: .int j :: .ref a :: st)) := by
  refine E_bastore X vs.length hd hy (V.pad (pad_rep vs dv 1)) hj hi (by simp) ha hp fun T' X' K' V' => k T' X' K' ?_
  have q : (vs ++ List.replicate 1 dv).set vs.length (.int y) = vs ++ [.int y] := by simp
  rw [q] at V'; exact V'
theorem E_iaload (X : Wk l Z R bytes mL ret own nm p e s m args below meth c T cells slots) {a : Addr} {kA : ClassId} {z j : Int32} {vs : List Value} {dv v : Value} (hd : decode bytes pc = .ok (.iaload, 1)) (V : Arv Z T.heap a kA .int z vs dv) (hj : ¬ j < 0 ∧ j < z) (hv : vs.getD j.toNatClampNeg dv = v) {pc' : Nat} (hp : pc + 1 = pc')
    (k : Ends p e below s Z Q cC cS T (mkF m pc' Ls (v :: st))) : Ends p e below s Z Q cC cS T (mkF m pc Ls (.int j :: .ref a :: st)) := by
  subst hp; obtain ⟨q0, locs, Y, N, O⟩ := id X
  obtain ⟨cl, A, q1, S1, N1, H1, G1⟩ := V
  exact E_by (Y.iaload X.hx A.1 (State.isArrayOf_alike X.hZ.alike A.2.1) A.2.2 (inb_of S1 hj) (Has.at H1 (inb_of S1 hj) hv) (g := mkF m pc Ls (.int j :: .ref a :: st)) rfl rfl (X.hb hd)) k
theorem E_caload (X : Wk l Z R bytes mL ret own nm p e s m args below meth c T cells slots) {a : Addr} {kA : ClassId} {z j : Int32} {vs : List Value} {dv v : Value} (hd : decode bytes pc = .ok (.caload, 1)) (V : Arv Z T.heap a kA .char z vs dv) (hj : ¬ j < 0 ∧ j < z) (hv : vs.getD j.toNatClampNeg dv = v) {pc' : Nat} (hp : pc + 1 = pc')
    (k : Ends p e below s Z Q cC cS T (mkF m pc' Ls (v :: st))) : Ends p e below s Z Q cC cS T (mkF m pc Ls (.int j :: .ref a :: st)) := by
  subst hp; obtain ⟨q0, locs, Y, N, O⟩ := id X
  obtain ⟨cl, A, q1, S1, N1, H1, G1⟩ := V
  exact E_by (Y.caload X.hx A.1 (State.isArrayOf_alike X.hZ.alike A.2.1) A.2.2 (inb_of S1 hj) (Has.at H1 (inb_of S1 hj) hv) (g := mkF m pc Ls (.int j :: .ref a :: st)) rfl rfl (X.hb hd)) k
theorem E_baload (X : Wk l Z R bytes mL ret own nm p e s m args below meth c T cells slots) {a : Addr} {kA : ClassId} {z j : Int32} {vs : List Value} {dv v : Value} (hd : decode bytes pc = .ok (.baload, 1)) (V : Arv Z T.heap a kA .byte z vs dv) (hj : ¬ j < 0 ∧ j < z) (hv : vs.getD j.toNatClampNeg dv = v) {pc' : Nat} (hp : pc + 1 = pc')
    (k : Ends p e below s Z Q cC cS T (mkF m pc' Ls (v :: st))) : Ends p e below s Z Q cC cS T (mkF m pc Ls (.int j :: .ref a :: st)) := by
  subst hp; obtain ⟨q0, locs, Y, N, O⟩ := id X
  obtain ⟨cl, A, q1, S1, N1, H1, G1⟩ := V
  exact E_by (Y.baloadBytes X.hx A.1 (State.isArrayOf_alike X.hZ.alike A.2.1) A.2.2 (inb_of S1 hj) (Has.at H1 (inb_of S1 hj) hv) (g := mkF m pc Ls (.int j :: .ref a :: st)) rfl rfl (X.hb hd)) k
theorem E_aaload (X : Wk l Z R bytes mL ret own nm p e s m args below meth c T cells slots) {a : Addr} {kA : ClassId} {z j : Int32} {vs : List Value} {dv v : Value} {ty : FieldType} (hd : decode bytes pc = .ok (.aaload, 1)) (V : Arv Z T.heap a kA ty z vs dv) (hty : ty.isReference = true) (hj : ¬ j < 0 ∧ j < z) (hv : vs.getD j.toNatClampNeg dv = v) {pc' : Nat} (hp : pc + 1 = pc')
    (k : Ends p e below s Z Q cC cS T (mkF m pc' Ls (v :: st))) : Ends p e below s Z Q cC cS T (mkF m pc Ls (.int j :: .ref a :: st)) := by
  subst hp; obtain ⟨q0, locs, Y, N, O⟩ := id X
  obtain ⟨cl, A, q1, S1, N1, H1, G1⟩ := V
  exact E_by (Y.aaload X.hx A.1 (State.isArrayOf_alike X.hZ.alike A.2.1) hty A.2.2 (inb_of S1 hj) (Has.at H1 (inb_of S1 hj) hv) (g := mkF m pc Ls (.int j :: .ref a :: st)) rfl rfl (X.hb hd)) k
theorem E_arraylength (X : Wk l Z R bytes mL ret own nm p e s m args below meth c T cells slots) {a : Addr} {kA : ClassId} {z : Int32} {vs : List Value} {dv : Value} {ty : FieldType} (hd : decode bytes pc = .ok (.arraylength, 1)) (V : Arv Z T.heap a kA ty z vs dv) {pc' : Nat} (hp : pc + 1 = pc')
    (k : Ends p e below s Z Q cC cS T (mkF m pc' Ls (.int z :: st))) : Ends p e below s Z Q cC cS T (mkF m pc Ls (.ref a :: st)) := by
  subst hp; obtain ⟨q0, locs, Y, N, O⟩ := id X
  obtain ⟨cl, A, q1, S1, N1, H1, G1⟩ := V
  refine E_by (Y.arraylength X.hx A.1 (State.isArrayOf_alike X.hZ.alike A.2.1) (g := mkF m pc Ls (.ref a :: st)) rfl rfl (X.hb hd)) ?_
  rw [len_of S1 N1]; exact k
theorem E_getfield (X : Wk l Z R bytes mL ret own nm p e s m args below meth c T cells slots) {a : Addr} {O n d R0 : String} {ix : Nat} {v : Value} (hd : decode bytes pc = .ok (.getfield ix, 3)) (w : (Jvm.Cond.fieldLink own ix R0 n d).before a0 Z = true) (via : Via Z R0 O n d) (F : Fld Z T.heap a O n d v) {pc' : Nat} (hp : pc + 3 = pc')
    (k : ∀ (T' : State), Wk l Z R bytes mL ret own nm p e s m args below meth c T' cells slots → T'.heap = T.heap → Ends p e below s Z Q cC cS T' (mkF m pc' Ls (v :: st))) : Ends p e below s Z Q cC cS T (mkF m pc Ls (.ref a :: st)) := by
  subst hp; obtain ⟨q0, locs, Y, N, Od⟩ := id X
  obtain ⟨T', Y', e1, stp⟩ := getF Y X.hx X.hZ X.hown (host := "") (Or.inl w) via rfl F (g := mkF m pc Ls (.ref a :: st)) rfl rfl (X.hb hd)
  exact E_by stp (k T' ⟨q0, locs, Y', N, e1 ▸ Od⟩ e1)
theorem E_getstatic (X : Wk l Z R bytes mL ret own nm p e s m args below meth c T cells slots) {O n d R0 : String} {ix : Nat} {v : Value} (hd : decode bytes pc = .ok (.getstatic ix, 3)) (w : (Jvm.Cond.fieldLink own ix R0 n d).before a0 Z = true) (via : Via Z R0 O n d) (F : Sta Z Z.heap O n d v) {pc' : Nat} (hp : pc + 3 = pc')
    (k : ∀ (T' : State), Wk l Z R bytes mL ret own nm p e s m args below meth c T' cells slots → T'.heap = T.heap → Ends p e below s Z Q cC cS T' (mkF m pc' Ls (v :: st))) : Ends p e below s Z Q cC cS T (mkF m pc Ls st) := by
  subst hp; obtain ⟨q0, locs, Y, N, Od⟩ := id X
  obtain ⟨T', Y', e1, stp⟩ := getS Y X.hx X.hZ (host := "") X.hown w via rfl (F.ext Od) (g := mkF m pc Ls st) rfl (X.hb hd)
  exact E_by stp (k T' ⟨q0, locs, Y', N, e1 ▸ Od⟩ e1)
theorem E_putfield (X : Wk l Z R bytes mL ret own nm p e s m args below meth c T cells slots) {a : Addr} {O n d R0 C : String} {ix kk : Nat} {v old : Value} {ty : FieldType} (hd : decode bytes pc = .ok (.putfield ix, 3)) (w : (Jvm.Cond.fieldLink own ix R0 n d).before a0 Z = true) (via : Via Z R0 O n d) (F : Fld Z T.heap a O n d old) (E : Exa Z T.heap a C) (L : (Jvm.Cond.lays C O n d).before a0 Z = true ∨ ((Jvm.Cond.laysFinal C O n d).before a0 Z = true ∧ own = O ∧ nm = "<init>")) (wi : (Jvm.Cond.instantiable C kk).before a0 Z = true) (hty : parseFieldDescriptor d = some ty) (hn : narrow ty v = v) (hf : fits ty v = true) (ha : Z.heap.size ≤ a) {pc' : Nat} (hp : pc + 3 = pc')
    (k : ∀ (T' : State), Wk l Z R bytes mL ret own nm p e s m args below meth c T' cells slots → Wr T.heap T'.heap a (Jvm.RoadKit.slotOf Z O n d) v → Ends p e below s Z Q cC cS T' (mkF m pc' Ls st)) : Ends p e below s Z Q cC cS T (mkF m pc Ls (v :: .ref a :: st)) := by
  subst hp; obtain ⟨q0, locs, Y, N, Od⟩ := id X
  obtain ⟨T', h', Y', rfl, W, stp⟩ := putF Y X.hx X.hZ X.hown (host := "") (Or.inl w) via rfl F E (L.imp id fun q => ⟨q.1, q.2.1, q0.2.2.2.2.2.2.1.trans q.2.2⟩) wi hty hn hf (g := mkF m pc Ls (v :: .ref a :: st)) rfl rfl (X.hb hd)
  exact E_by stp (k T' ⟨q0, _, Y', Fr.snoc Y' N ha, Keep.old Od (Keep.of_wr W) (allS ha all0)⟩ W)
theorem E_initO (X : Wk l Z R bytes mL ret own nm p e s m args below meth c T cells slots) {a : Addr} {ix : Nat} (hd : decode bytes pc = .ok (.invokespecial ix, 3)) (w1 : (Jvm.Cond.methodLink own ix Lib.objectInit).before a0 Z = true) (w2 : (Jvm.Cond.instanceMethod Lib.objectInit).before a0 Z = true) (w3 : (Jvm.Cond.code Lib.objectInit ⟨#[0xb1]⟩ 1 none).before a0 Z = true) (hsz : Ls.size = mL) (hf : 1 ≤ R.frames) (hl : (st.map fun v => v.category).sum + 12 ≤ R.locals) {pc' : Nat} (hp : pc + 3 = pc')
    (k : ∀ (T' : State), Wk l Z R bytes mL ret own nm p e s m args below meth c T' cells slots → T'.heap = T.heap → Ends p e below s Z Q cC cS T' (mkF m pc' Ls st)) : Ends p e below s Z Q cC cS T (mkF m pc Ls (.ref a :: st)) := by
  subst hp; obtain ⟨q0, locs, Y, N, Od⟩ := id X
  obtain ⟨T', Y', e1, stp⟩ := initO Y X.hx X.hZ X.hown w1 w2 w3 rfl (g := mkF m pc Ls (.ref a :: st)) rfl (X.size hsz) rfl (X.hb hd) hf (W := (st.map fun v => v.category).sum) (by show 2 * 0 + _ ≤ _; omega) hl
  exact E_by stp (k T' ⟨q0, locs, Y', N, e1 ▸ Od⟩ e1)
theorem E_checkcast (X : Wk l Z R bytes mL ret own nm p e s m args below meth c T cells slots) {a : Addr} {K : String} {ix : Nat} (hd : decode bytes pc = .ok (.checkcast ix, 3)) (w : (Jvm.Cond.classLink own ix K).before a0 Z = true) (F : Ins Z T.heap a K true) {pc' : Nat} (hp : pc + 3 = pc')
    (k : ∀ (T' : State), Wk l Z R bytes mL ret own nm p e s m args below meth c T' cells slots → T'.heap = T.heap → Ends p e below s Z Q cC cS T' (mkF m pc' Ls (.ref a :: st))) : Ends p e below s Z Q cC cS T (mkF m pc Ls (.ref a :: st)) := by
  subst hp; obtain ⟨q0, locs, Y, N, Od⟩ := id X
  obtain ⟨T', Y', e1, stp⟩ := castY Y X.hx X.hZ X.hown w rfl F (g := mkF m pc Ls (.ref a :: st)) rfl rfl (X.hb hd)
  exact E_by stp (k T' ⟨q0, locs, Y', N, e1 ▸ Od⟩ e1)
theorem E_instY (X : Wk l Z R bytes mL ret own nm p e s m args below meth c T cells slots) {a : Addr} {K : String} {ix : Nat} (hd : decode bytes pc = .ok (.instanceof ix, 3)) (w : (Jvm.Cond.classLink own ix K).before a0 Z = true) (F : Ins Z T.heap a K true) {pc' : Nat} (hp : pc + 3 = pc')
    (k : ∀ (T' : State), Wk l Z R bytes mL ret own nm p e s m args below meth c T' cells slots → T'.heap = T.heap → Ends p e below s Z Q cC cS T' (mkF m pc' Ls (.int 1 :: st))) : Ends p e below s Z Q cC cS T (mkF m pc Ls (.ref a :: st)) := by
  subst hp; obtain ⟨q0, locs, Y, N, Od⟩ := id X
  obtain ⟨T', Y', e1, stp⟩ := instY Y X.hx X.hZ X.hown w rfl F (g := mkF m pc Ls (.ref a :: st)) rfl rfl (X.hb hd)
  exact E_by stp (k T' ⟨q0, locs, Y', N, e1 ▸ Od⟩ e1)
theorem E_staticB (X : Wk l Z R bytes mL ret own nm p e s m args below meth c T cells slots) {y : MethodName} {ix : Nat} {bytes' : ByteArray} {mL' : Nat} {ret' : Option FieldType} {Q' : Option Value → Heap → Prop} {argsL : List Value} {Q2 : Option Value → Heap → List Loc → Prop} {rC rS : Nat} (hd : decode bytes pc = .ok (.invokestatic ix, 3)) (w1 : (Jvm.Cond.methodLink own ix y).before a0 Z = true) (w2 : (Jvm.Cond.static y).before a0 Z = true) (w3 : (Jvm.Cond.initialized y.cls).before a0 Z = true) (w4 : (Jvm.Cond.code y bytes' mL' ret').before a0 Z = true) (hy : y.cls ≠ "java/lang/invoke/MethodHandle" ∧ y.cls ≠ "java/lang/invoke/VarHandle") {st0 : List Value} (hst : st0 = argsL.reverse ++ st) (hK : Back l R p e below s args y 3 ((st.map fun v => v.category).sum) (fun A aa => aa = argsL.toArray ∧ A.U.heap = T.heap ∧ A.cells + rC ≤ R.cells ∧ A.slots + rS ≤ R.slots) (fun A _ v B => ∃ L, Q2 v B.U.heap L ∧ B.locs = A.locs ++ L ∧ B.cells = A.cells + rC ∧ B.slots = A.slots + rS)) (hQ2 : ∀ v h L, Q2 v h L → Fr Z.heap.size L ∧ Ext Z.heap h ∧ Q' v h) (hlen : ∀ sig, parseMethodDescriptor y.desc = some sig → argsL.length = sig.parameters.length) (hsz : Ls.size = mL) (hcl : cells + rC ≤ R.cells) (hsl : slots + rS ≤ R.slots) {pc' : Nat} (hp : pc + 3 = pc')
    (k : ∀ (T' : State) (v : Option Value), Wk l Z R bytes mL ret own nm p e s m args below meth c T' (cells + rC) (slots + rS) → Q' v T'.heap → Ends p e below s Z Q cC cS T' (mkF m pc' Ls (v.toList ++ st))) : Ends p e below s Z Q cC cS T (mkF m pc Ls st0) := by
  subst hp hst; obtain ⟨q0, locs, Y, N, Od⟩ := id X
  obtain ⟨v, _, ⟨T', L1, k1, n1⟩, -, Y', ⟨Lc, hQ, l1, y1, z1⟩, stp⟩ := Jvm.LawKit.callS Y X.hx (y := y) X.hown (mvT X.hZ w1) (mvT X.hZ w2) (mvT X.hZ w3) (mvT X.hZ w4) hy hK (g := mkF m pc Ls (argsL.reverse ++ st)) rfl (X.size hsz) (argsL := argsL) (rest := st) hlen rfl (by show 2 * 0 + _ ≤ _; omega) (X.hb hd) (fun _ _ => ⟨rfl, rfl, hcl, hsl⟩)
  dsimp only [Pt.U, Pt.locs, Pt.cells, Pt.slots] at Y' l1 y1 z1 stp hQ
  subst l1 y1 z1
  obtain ⟨f1, f2, f3⟩ := hQ2 _ _ _ hQ
  exact E_by stp (k T' v ⟨q0, _, Y', Fr.app N f1, f2⟩ f3)
theorem E_static (X : Wk l Z R bytes mL ret own nm p e s m args below meth c T cells slots) {y : MethodName} {ix : Nat} {bytes' : ByteArray} {mL' : Nat} {ret' : Option FieldType} {Q' : Option Value → Heap → Prop} {argsL : List Value} {rm : Room} (hd : decode bytes pc = .ok (.invokestatic ix, 3)) (w1 : (Jvm.Cond.methodLink own ix y).before a0 Z = true) (w2 : (Jvm.Cond.static y).before a0 Z = true) (w3 : (Jvm.Cond.initialized y.cls).before a0 Z = true) (w4 : (Jvm.Cond.code y bytes' mL' ret').before a0 Z = true) (hy : y.cls ≠ "java/lang/invoke/MethodHandle" ∧ y.cls ≠ "java/lang/invoke/VarHandle")  {st0 : List Value} (hst : st0 = argsL.reverse ++ st) (hC : Ct l Z y bytes' mL' ret' rm argsL.toArray T.heap Q') (hlen : ∀ sig, parseMethodDescriptor y.desc = some sig → argsL.length = sig.parameters.length) (hsz : Ls.size = mL) (hcl : cells + rm.cells ≤ R.cells) (hsl : slots + rm.slots ≤ R.slots) (hfr : rm.frames + 1 ≤ R.frames) (hlo : (st.map fun v => v.category).sum + (mL' + 11) + rm.locals ≤ R.locals) {pc' : Nat} (hp : pc + 3 = pc')
    (k : ∀ (T' : State) (v : Option Value), Wk l Z R bytes mL ret own nm p e s m args below meth c T' (cells + rm.cells) (slots + rm.slots) → Q' v T'.heap → Ends p e below s Z Q cC cS T' (mkF m pc' Ls (v.toList ++ st))) : Ends p e below s Z Q cC cS T (mkF m pc Ls st0) :=
  E_staticB X hd w1 w2 w3 w4 hy hst (hC.back X.hZ w4 w3 hfr hlo) (fun _ _ _ q => q) hlen hsz hcl hsl hp k
theorem E_specialB (X : Wk l Z R bytes mL ret own nm p e s m args below meth c T cells slots) {y : MethodName} {ix : Nat} {bytes' : ByteArray} {mL' : Nat} {ret' : Option FieldType} {Q' : Option Value → Heap → Prop} {argsL : List Value} {Q2 : Option Value → Heap → List Loc → Prop} {rC rS : Nat} {a : Addr} (hd : decode bytes pc = .ok (.invokespecial ix, 3)) (hy1 : y.name = "<init>") (hret : ret' = none) (w1 : (Jvm.Cond.methodLink own ix y).before a0 Z = true) (w2 : (Jvm.Cond.instanceMethod y).before a0 Z = true) (w4 : (Jvm.Cond.code y bytes' mL' ret').before a0 Z = true) (hy : y.cls ≠ "java/lang/invoke/MethodHandle" ∧ y.cls ≠ "java/lang/invoke/VarHandle") {st0 : List Value} (hst : st0 = argsL.reverse ++ .ref a :: st) (hK : Back l R p e below s args y 3 ((st.map fun v => v.category).sum) (fun A aa => aa = (.ref a :: argsL).toArray ∧ A.U.heap = T.heap ∧ A.cells + rC ≤ R.cells ∧ A.slots + rS ≤ R.slots) (fun A _ v B => ∃ L, Q2 v B.U.heap L ∧ B.locs = A.locs ++ L ∧ B.cells = A.cells + rC ∧ B.slots = A.slots + rS)) (hQ2 : ∀ v h L, Q2 v h L → Fr Z.heap.size L ∧ Ext Z.heap h ∧ Q' v h) (hlen : ∀ sig, parseMethodDescriptor y.desc = some sig → argsL.length = sig.parameters.length) (hsz : Ls.size = mL) (hcl : cells + rC ≤ R.cells) (hsl : slots + rS ≤ R.slots) {pc' : Nat} (hp : pc + 3 = pc')
    (k : ∀ (T' : State) (v : Option Value), Wk l Z R bytes mL ret own nm p e s m args below meth c T' (cells + rC) (slots + rS) → Q' v T'.heap → Ends p e below s Z Q cC cS T' (mkF m pc' Ls (v.toList ++ st))) : Ends p e below s Z Q cC cS T (mkF m pc Ls st0) := by
  subst hp hst; obtain ⟨q0, locs, Y, N, Od⟩ := id X
  subst hret
  obtain ⟨v, _, ⟨T', L1, k1, n1⟩, -, Y', ⟨Lc, hQ, l1, y1, z1⟩, stp⟩ := Y.specialBack X.hx (y := y) hy1 X.hown (mvT X.hZ w1) (mvT X.hZ w2) (mvT X.hZ w4) hy hK (g := mkF m pc Ls (argsL.reverse ++ .ref a :: st)) rfl (X.size hsz) (Steps.refl _) (a := a) (argsL := argsL) (rest := st) hlen rfl (by show 2 * 0 + _ ≤ _; omega) (X.hb hd) (fun _ _ => ⟨rfl, rfl, hcl, hsl⟩)
  dsimp only [Pt.U, Pt.locs, Pt.cells, Pt.slots] at Y' l1 y1 z1 stp hQ
  subst l1 y1 z1
  obtain ⟨f1, f2, f3⟩ := hQ2 _ _ _ hQ
  exact E_tr stp (k T' v ⟨q0, _, Y', Fr.app N f1, f2⟩ f3)
theorem E_special (X : Wk l Z R bytes mL ret own nm p e s m args below meth c T cells slots) {y : MethodName} {ix : Nat} {bytes' : ByteArray} {mL' : Nat} {ret' : Option FieldType} {Q' : Option Value → Heap → Prop} {argsL : List Value} {rm : Room} {a : Addr} (hd : decode bytes pc = .ok (.invokespecial ix, 3)) (hy1 : y.name = "<init>") (hret : ret' = none) (w1 : (Jvm.Cond.methodLink own ix y).before a0 Z = true) (w2 : (Jvm.Cond.instanceMethod y).before a0 Z = true) (w4 : (Jvm.Cond.code y bytes' mL' ret').before a0 Z = true) (hy : y.cls ≠ "java/lang/invoke/MethodHandle" ∧ y.cls ≠ "java/lang/invoke/VarHandle") (w3 : (Jvm.Cond.initialized y.cls).before a0 Z = true) {st0 : List Value} (hst : st0 = argsL.reverse ++ .ref a :: st) (hC : Ct l Z y bytes' mL' ret' rm (.ref a :: argsL).toArray T.heap Q') (hlen : ∀ sig, parseMethodDescriptor y.desc = some sig → argsL.length = sig.parameters.length) (hsz : Ls.size = mL) (hcl : cells + rm.cells ≤ R.cells) (hsl : slots + rm.slots ≤ R.slots) (hfr : rm.frames + 1 ≤ R.frames) (hlo : (st.map fun v => v.category).sum + (mL' + 11) + rm.locals ≤ R.locals) {pc' : Nat} (hp : pc + 3 = pc')
    (k : ∀ (T' : State) (v : Option Value), Wk l Z R bytes mL ret own nm p e s m args below meth c T' (cells + rm.cells) (slots + rm.slots) → Q' v T'.heap → Ends p e below s Z Q cC cS T' (mkF m pc' Ls (v.toList ++ st))) : Ends p e below s Z Q cC cS T (mkF m pc Ls st0) :=
  E_specialB X hd hy1 hret w1 w2 w4 hy hst (hC.back X.hZ w4 w3 hfr hlo) (fun _ _ _ q => q) hlen hsz hcl hsl hp k
theorem E_virtualB (X : Wk l Z R bytes mL ret own nm p e s m args below meth c T cells slots) {y : MethodName} {ix : Nat} {Q' : Option Value → Heap → Prop} {argsL : List Value} {Q2 : Option Value → Heap → List Loc → Prop} {rC rS : Nat} {a : Addr} {z : MethodName} {D : String} (hd : decode bytes pc = .ok (.invokevirtual ix, 3)) (w1 : (Jvm.Cond.methodLink own ix y).before a0 Z = true) (w2 : (Jvm.Cond.declares y).before a0 Z = true) (w5 : (Jvm.Cond.selects D y z).before a0 Z = true) (w6 : (Jvm.Cond.instanceMethod z).before a0 Z = true) (hnf : NotFace s y) (hy : y.cls ≠ "java/lang/invoke/MethodHandle" ∧ y.cls ≠ "java/lang/invoke/VarHandle") (E : Exa Z T.heap a D) {st0 : List Value} (hst : st0 = argsL.reverse ++ .ref a :: st) (hK : Back l R p e below s args z 3 ((st.map fun v => v.category).sum) (fun A aa => aa = (.ref a :: argsL).toArray ∧ A.U.heap = T.heap ∧ A.cells + rC ≤ R.cells ∧ A.slots + rS ≤ R.slots) (fun A _ v B => ∃ L, Q2 v B.U.heap L ∧ B.locs = A.locs ++ L ∧ B.cells = A.cells + rC ∧ B.slots = A.slots + rS)) (hQ2 : ∀ v h L, Q2 v h L → Fr Z.heap.size L ∧ Ext Z.heap h ∧ Q' v h) (hlen : ∀ sig, parseMethodDescriptor y.desc = some sig → argsL.length = sig.parameters.length) (hsz : Ls.size = mL) (hcl : cells + rC ≤ R.cells) (hsl : slots + rS ≤ R.slots) {pc' : Nat} (hp : pc + 3 = pc')
    (k : ∀ (T' : State) (v : Option Value), Wk l Z R bytes mL ret own nm p e s m args below meth c T' (cells + rC) (slots + rS) → Q' v T'.heap → Ends p e below s Z Q cC cS T' (mkF m pc' Ls (v.toList ++ st))) : Ends p e below s Z Q cC cS T (mkF m pc Ls st0) := by
  subst hp hst; obtain ⟨q0, locs, Y, N, Od⟩ := id X
  obtain ⟨cq, kq, qa, qb, qc⟩ := isOf X.hZ rfl E
  obtain ⟨v, _, ⟨T', L1, k1, n1⟩, -, Y', ⟨Lc, hQ, l1, y1, z1⟩, stp⟩ := Y.virtualBack X.hx (y := y) (z := z) X.hown (mvT X.hZ w1) (mvT X.hZ w2) hnf (mvT X.hZ w5) (mvT X.hZ w6) hy hK qa qc (g := mkF m pc Ls (argsL.reverse ++ .ref a :: st)) rfl (X.size hsz) (Steps.refl _) (argsL := argsL) (rest := st) hlen rfl (by show 2 * 0 + _ ≤ _; omega) (X.hb hd) (fun _ _ => ⟨rfl, rfl, hcl, hsl⟩)
  dsimp only [Pt.U, Pt.locs, Pt.cells, Pt.slots] at Y' l1 y1 z1 stp hQ
  subst l1 y1 z1
  obtain ⟨f1, f2, f3⟩ := hQ2 _ _ _ hQ
  exact E_tr stp (k T' v ⟨q0, _, Y', Fr.app N f1, f2⟩ f3)
theorem E_virtual (X : Wk l Z R bytes mL ret own nm p e s m args below meth c T cells slots) {y : MethodName} {ix : Nat} {bytes' : ByteArray} {mL' : Nat} {ret' : Option FieldType} {Q' : Option Value → Heap → Prop} {argsL : List Value} {rm : Room} {a : Addr} {z : MethodName} {D : String} (hd : decode bytes pc = .ok (.invokevirtual ix, 3)) (w1 : (Jvm.Cond.methodLink own ix y).before a0 Z = true) (w2 : (Jvm.Cond.declares y).before a0 Z = true) (w5 : (Jvm.Cond.selects D y z).before a0 Z = true) (w6 : (Jvm.Cond.instanceMethod z).before a0 Z = true) (hnf : NotFace s y) (hy : y.cls ≠ "java/lang/invoke/MethodHandle" ∧ y.cls ≠ "java/lang/invoke/VarHandle") (E : Exa Z T.heap a D) (w3 : (Jvm.Cond.initialized z.cls).before a0 Z = true) (w4 : (Jvm.Cond.code z bytes' mL' ret').before a0 Z = true) {st0 : List Value} (hst : st0 = argsL.reverse ++ .ref a :: st) (hC : Ct l Z z bytes' mL' ret' rm (.ref a :: argsL).toArray T.heap Q') (hlen : ∀ sig, parseMethodDescriptor y.desc = some sig → argsL.length = sig.parameters.length) (hsz : Ls.size = mL) (hcl : cells + rm.cells ≤ R.cells) (hsl : slots + rm.slots ≤ R.slots) (hfr : rm.frames + 1 ≤ R.frames) (hlo : (st.map fun v => v.category).sum + (mL' + 11) + rm.locals ≤ R.locals) {pc' : Nat} (hp : pc + 3 = pc')
    (k : ∀ (T' : State) (v : Option Value), Wk l Z R bytes mL ret own nm p e s m args below meth c T' (cells + rm.cells) (slots + rm.slots) → Q' v T'.heap → Ends p e below s Z Q cC cS T' (mkF m pc' Ls (v.toList ++ st))) : Ends p e below s Z Q cC cS T (mkF m pc Ls st0) :=
  E_virtualB X hd w1 w2 w5 w6 hnf hy E hst (hC.back X.hZ w4 w3 hfr hlo) (fun _ _ _ q => q) hlen hsz hcl hsl hp k
theorem Wk.out (X : Wk l Z R bytes mL ret own nm p e s m args below meth c T cells slots) {v : Option Value} (hv : ret = none → v = none) (hQ : Q v T.heap) (h1 : cells ≤ cC) (h2 : slots ≤ cS) (hs : ∀ fs, (∀ (f : JFrame) (acts : List Action), f.method = m → f.locked = none → f.entered = [] → (doReturn e (T.setTop f) acts v).1 = T.setFrames fs) → Steps p.tables e below (T.setTop g) (T.setFrames fs)) : Ends p e below s Z Q cC cS T g := by
  obtain ⟨q0, locs, Y, N, Od⟩ := id X
  obtain ⟨fs, hr, hrun, hended, hW, hsame⟩ := Y.leave (v := v) (fun h => hv (q0.2.2.2.1.symm.trans h)) q0.2.2.2.2.1
  exact ⟨_, _, hs fs hr, hrun, hended, _, _, rfl, ⟨N, Od, hQ⟩, ⟨_, rfl⟩, hW, hsame.mono h1 h2⟩
theorem E_return (X : Wk l Z R bytes mL ret own nm p e s m args below meth c T cells slots) (hd : decode bytes pc = .ok (.return_, 1)) (hret : ret = none) (h1 : cells ≤ cC) (h2 : slots ≤ cS) (hQ : Q none T.heap) : Ends p e below s Z Q cC cS T (mkF m pc Ls []) := by
  refine X.out (v := none) (fun _ => rfl) hQ h1 h2 fun fs hr => ?_
  obtain ⟨q0, locs, Y, N, Od⟩ := id X
  exact Y.returnOut X.hx (q0.2.2.2.1.trans hret) (X.hb hd) hr
theorem E_ireturnI (X : Wk l Z R bytes mL ret own nm p e s m args below meth c T cells slots) {z : Int32} (hd : decode bytes pc = .ok (.ireturn, 1)) (hret : ret = some .int) (h1 : cells ≤ cC) (h2 : slots ≤ cS) (hQ : Q (some (.int z)) T.heap) : Ends p e below s Z Q cC cS T (mkF m pc Ls (.int z :: st)) := by
  refine X.out (v := some (.int z)) (fun h => by rw [hret] at h; cases h) hQ h1 h2 fun fs hr => ?_
  obtain ⟨q0, locs, Y, N, Od⟩ := id X
  exact retOut Y X.hx (q0.2.2.2.1.trans hret) rfl (Or.inl ⟨rfl, Or.inl rfl, z, rfl⟩) (X.hb hd) hr
theorem E_ireturnN (X : Wk l Z R bytes mL ret own nm p e s m args below meth c T cells slots) {z : Int32} {t : FieldType} (hd : decode bytes pc = .ok (.ireturn, 1)) (hret : ret = some t) (ht : t = .boolean ∨ t = .byte ∨ t = .char ∨ t = .short) (h1 : cells ≤ cC) (h2 : slots ≤ cS) (hQ : Q (some (.int (nar t z))) T.heap) : Ends p e below s Z Q cC cS T (mkF m pc Ls (.int z :: st)) := by
  refine X.out (v := some (.int (nar t z))) (fun h => by rw [hret] at h; cases h) hQ h1 h2 fun fs hr => ?_
  obtain ⟨q0, locs, Y, N, Od⟩ := id X
  exact retN Y X.hx (q0.2.2.2.1.trans hret) ht (X.hb hd) hr
theorem E_areturn (X : Wk l Z R bytes mL ret own nm p e s m args below meth c T cells slots) {v : Value} {t : FieldType} (hd : decode bytes pc = .ok (.areturn, 1)) (hret : ret = some t) (ht : t.isReference = true) (hv : v.isRef = true) (hn : narrow t v = v) (h1 : cells ≤ cC) (h2 : slots ≤ cS) (hQ : Q (some v) T.heap) : Ends p e below s Z Q cC cS T (mkF m pc Ls (v :: st)) := by
  refine X.out (v := some v) (fun h => by rw [hret] at h; cases h) hQ h1 h2 fun fs hr => ?_
  obtain ⟨q0, locs, Y, N, Od⟩ := id X
  exact retOut Y X.hx (q0.2.2.2.1.trans hret) hn (Or.inr (Or.inr (Or.inr (Or.inr ⟨rfl, ht, hv⟩)))) (X.hb hd) hr
end Own
theorem pd_0 : parseMethodDescriptor "(IILjava/util/function/BiFunction;)I" = some ⟨[.int, .int, (.object "java/util/function/BiFunction")], some .int⟩ := by decide +kernel
theorem pd_1 : parseMethodDescriptor "()B" = some ⟨[], some .byte⟩ := by decide +kernel
theorem pd_2 : parseMethodDescriptor "(II)V" = some ⟨[.int, .int], none⟩ := by decide +kernel
theorem pd_3 : parseMethodDescriptor "()Z" = some ⟨[], some .boolean⟩ := by decide +kernel
theorem pd_4 : parseMethodDescriptor "([BI)C" = some ⟨[(.array .byte), .int], some .char⟩ := by decide +kernel
theorem pd_5 : parseMethodDescriptor "([CI[BII)I" = some ⟨[(.array .char), .int, (.array .byte), .int, .int], some .int⟩ := by decide +kernel
theorem pd_6 : parseMethodDescriptor "([CII)[B" = some ⟨[(.array .char), .int, .int], some (.array .byte)⟩ := by decide +kernel
theorem pd_7 : parseMethodDescriptor "([BI)B" = some ⟨[(.array .byte), .int], some .byte⟩ := by decide +kernel
theorem pd_8 : parseMethodDescriptor "([CIILjava/lang/Void;)V" = some ⟨[(.array .char), .int, .int, (.object "java/lang/Void")], none⟩ := by decide +kernel
theorem pd_9 : parseMethodDescriptor "()I" = some ⟨[], some .int⟩ := by decide +kernel
theorem pd_10 : parseMethodDescriptor "(I)C" = some ⟨[.int], some .char⟩ := by decide +kernel
theorem pd_11 : parseMethodDescriptor "([C)V" = some ⟨[(.array .char)], none⟩ := by decide +kernel
theorem pd_12 : parseMethodDescriptor "(Ljava/lang/String;)Ljava/lang/String;" = some ⟨[(.object "java/lang/String")], some (.object "java/lang/String")⟩ := by decide +kernel
theorem pd_13 : parseMethodDescriptor "(Ljava/lang/Object;)Z" = some ⟨[(.object "java/lang/Object")], some .boolean⟩ := by decide +kernel
theorem o_int {n : Nat} (h : n < 2147483648) : (Int32.ofNat n).toInt = n := by
  have := Int32.toInt_ofNat_of_lt (n := n) (by omega); simpa using this
theorem o_cl {n : Nat} (h : n < 2147483648) : (Int32.ofNat n).toNatClampNeg = n := by
  simp [Int32.toNatClampNeg, o_int h]
theorem o_nn {n : Nat} (h : n < 2147483648) : ¬ Int32.ofNat n < 0 := by
  rw [Int32.lt_iff_toInt_lt, o_int h]; show ¬ (n : Int) < 0; omega
theorem o_lt {i n : Nat} (hi : i < n) (h : n < 2147483648) : Int32.ofNat i < Int32.ofNat n := by
  rw [Int32.lt_iff_toInt_lt, o_int h, o_int (by omega)]; omega
theorem o_nlt {i n : Nat} (hi : n ≤ i) (h : i < 2147483648) : ¬ Int32.ofNat i < Int32.ofNat n := by
  rw [Int32.lt_iff_toInt_lt, o_int h, o_int (by omega)]; omega
theorem o_add {i : Nat} : Int32.ofNat i + (1 : Int32) = Int32.ofNat (i + 1) := by
  rw [Int32.ofNat_add]; rfl
theorem o_two {i : Nat} (h : 2 * i < 2147483648) : Int32.ofNat i <<< ((1 : Int32) &&& 31) = Int32.ofNat (2 * i) := by
  apply Int32.toInt_inj.mp
  have e := c_ishl (Int32.ofNat i) 1 1 (by decide)
  have r := rng32 (Int32.ofNat i <<< ((1 : Int32) &&& 31))
  rw [o_int (by omega)] at e
  rw [o_int h]
  omega
theorem o_half {i : Nat} (h : 2 * i < 2147483648) : Int32.ofNat (2 * i) >>> ((1 : Int32) &&& 31) = Int32.ofNat i := by
  apply Int32.toInt_inj.mp
  have e := c_ishr (Int32.ofNat (2 * i)) 1 1 (by decide)
  rw [o_int h] at e
  rw [o_int (by omega), e]
  omega
theorem o_zero (N : Int32) : N >>> ((0 : Int32) &&& 31) = N := by
  apply Int32.toInt_inj.mp
  have e := c_ishr N 0 0 (by decide)
  rw [e]; simp
theorem o_i2c {c : Int32} (h1 : ¬ c < 0) (h2 : ¬ 65535 < c) : c.toUInt32.toUInt16.toUInt32.toInt32 = c := by
  apply Int32.toInt_inj.mp
  have e := c_i2c c
  rw [Int32.lt_iff_toInt_lt] at h1 h2
  have o1 : (0 : Int32).toInt = 0 := rfl
  have o2 : (65535 : Int32).toInt = 65535 := rfl
  omega
theorem o_nar {c : Int32} (h1 : ¬ c < 0) (h2 : ¬ 65535 < c) : nar .char c = c := o_i2c h1 h2
theorem o_lat {c : Int32} (h1 : ¬ c < 0) (h2 : ¬ 255 < c) : nar .char ((c.toInt8.toInt32 &&& (255 : Int32)).toUInt32.toUInt16.toUInt32.toInt32) = c := by
  have o1 : (0 : Int32).toInt = 0 := rfl
  have o2 : (255 : Int32).toInt = 255 := rfl
  have o3 : (65535 : Int32).toInt = 65535 := rfl
  rw [Int32.lt_iff_toInt_lt] at h1 h2
  have e : c.toInt8.toInt32 &&& (255 : Int32) = c := by
    apply Int32.toInt_inj.mp
    have e1 := c_mask c.toInt8.toInt32 255 8 (by decide) (by decide)
    have e2 := c_i2b c
    rw [e1]; omega
  rw [e, o_i2c, o_nar] <;> (rw [Int32.lt_iff_toInt_lt]; omega)
theorem o_u16 {c : Int32} (h1 : ¬ c < 0) (h2 : ¬ 65535 < c) : nar .char ((((c >>> ((0 : Int32) &&& 31)).toInt8.toInt32 &&& (255 : Int32)) <<< ((0 : Int32) &&& 31) ||| ((c >>> ((8 : Int32) &&& 31)).toInt8.toInt32 &&& (255 : Int32)) <<< ((8 : Int32) &&& 31)).toUInt32.toUInt16.toUInt32.toInt32) = c := by
  have o1 : (0 : Int32).toInt = 0 := rfl
  have o2 : (255 : Int32).toInt = 255 := rfl
  have o3 : (65535 : Int32).toInt = 65535 := rfl
  rw [Int32.lt_iff_toInt_lt] at h1 h2
  have a0 : c >>> ((0 : Int32) &&& 31) = c := o_zero c
  have a1 := c_ishr c 8 8 (by decide)
  rw [a0]
  generalize c >>> ((8 : Int32) &&& 31) = d at *
  have b1 := c_mask c.toInt8.toInt32 255 8 (by decide) (by decide)
  have b2 := c_i2b c
  have b3 := c_mask d.toInt8.toInt32 255 8 (by decide) (by decide)
  have b4 := c_i2b d
  generalize c.toInt8.toInt32 &&& (255 : Int32) = x at *
  generalize d.toInt8.toInt32 &&& (255 : Int32) = y at *
  have d1 := c_ishl x 0 0 (by decide)
  have d2 := c_ishl y 8 8 (by decide)
  have r1 := rng32 (x <<< ((0 : Int32) &&& 31))
  have r2 := rng32 (y <<< ((8 : Int32) &&& 31))
  generalize x <<< ((0 : Int32) &&& 31) = u at *
  generalize y <<< ((8 : Int32) &&& 31) = w at *
  have f := c_or' u w 8 (by decide) 256 rfl (by omega) (by omega) (by omega)
  have r3 := rng32 (u ||| w)
  have e : u ||| w = c := by
    apply Int32.toInt_inj.mp
    omega
  rw [e, o_i2c, o_nar] <;> (rw [Int32.lt_iff_toInt_lt]; omega)
theorem o_b8 (c : Int32) : c.toInt8.toInt32.toInt8.toInt32 = c.toInt8.toInt32 := by simp

def Sts (Z : State) (G1 : Int32) (G3 : Value) : Prop := Sta Z Z.heap "java/lang/String" "COMPACT_STRINGS" "Z" (.int G1) ∧ ¬ G1 = 0 ∧ Sta Z Z.heap "jdk/internal/util/Preconditions" "SIOOBE_FORMATTER" "Ljava/util/function/BiFunction;" G3 ∧ G3.isRef = true
theorem Sts.ref {Z : State} {G1 : Int32} {G3 : Value} (h : Sts Z G1 G3) : G3.isRef = true := h.2.2.2
def lo8 (c : Int32) : Value := .int c.toInt8.toInt32
def u16 (cs : List Int32) : List Value := cs.flatMap fun c => [.int (c >>> ((0 : Int32) &&& 31)).toInt8.toInt32, .int (c >>> ((8 : Int32) &&& 31)).toInt8.toInt32]
def Cod (cs : List Int32) (cd N : Int32) (vs : List Value) : Prop := (cd = 0 ∧ N = Int32.ofNat cs.length ∧ vs = cs.map lo8 ∧ ∀ c ∈ cs, ¬ (255 : Int32) < c)
/-- the String x holds the chars cs; its array is t -/
def OStr (Z : State) (h : Heap) (x t : Addr) (cs : List Int32) : Prop := ∃ (kb : ClassId) (cd N : Int32) (vs : List Value), Exa Z h x "java/lang/String" ∧ Fld Z h x "java/lang/String" "value" "[B" (.ref t) ∧ Fld Z h x "java/lang/String" "coder" "B" (.int cd) ∧ Arv Z h t kb .byte N vs (.int (0 : Int32)) ∧ Cod cs cd N vs ∧ (∀ c ∈ cs, ¬ c < 0 ∧ ¬ (65535 : Int32) < c) ∧ cs.length ≤ 4000
theorem OStr.exa {Z : State} {h : Heap} {x t : Addr} {cs : List Int32} (S : OStr Z h x t cs) : Exa Z h x "java/lang/String" := by obtain ⟨_, _, _, _, E, -⟩ := S; exact E
theorem OStr.lt {Z : State} {h : Heap} {x t : Addr} {cs : List Int32} (S : OStr Z h x t cs) : x < h.size := S.exa.lt
theorem OStr.ltv {Z : State} {h : Heap} {x t : Addr} {cs : List Int32} (S : OStr Z h x t cs) : t < h.size := by obtain ⟨_, _, _, _, _, _, _, V, -⟩ := S; exact V.lt
theorem OStr.keep {Z : State} {h h' : Heap} {ws : List Addr} {x t : Addr} {cs : List Int32} (S : OStr Z h x t cs) (K : Keep h h' ws) (h1 : x ∉ ws) (h2 : t ∉ ws) : OStr Z h' x t cs := by
  obtain ⟨kb, cd, N, vs, E, F, G, V, r⟩ := S; exact ⟨kb, cd, N, vs, E.keep K, F.keep K h1, G.keep K h1, V.keep K h2, r⟩
theorem own_getD {cs : List Int32} {i : Nat} (f : Int32 → Value) {d : Value} (h : i < cs.length) (hn : cs.length ≤ 4000) : (cs.map f).getD (Int32.ofNat i).toNatClampNeg d = f (cs.getD i 0) := by
  rw [o_cl (by omega)]; simp [List.getD_eq_getElem?_getD, h]
theorem own_mem {cs : List Int32} {i : Nat} (h : i < cs.length) : cs.getD i 0 ∈ cs := by simp [List.getD_eq_getElem?_getD, h]
theorem own_take {cs : List Int32} {i : Nat} (f : Int32 → Value) (h : i < cs.length) : (cs.take (i + 1)).map f = (cs.take i).map f ++ [f (cs.getD i 0)] := by
  rw [List.take_add_one, List.map_append]; congr 1; simp [List.getD_eq_getElem?_getD, h]
theorem own_all {P : Int32 → Prop} {cs : List Int32} {i : Nat} {ch : Int32} (h : i < cs.length) (hch : ch = cs.getD i 0) (hall : ∀ c ∈ cs.take i, P c) (hc : P ch) : ∀ c ∈ cs.take (i + 1), P c := by
  intro c hc2
  rw [List.take_add_one] at hc2
  rcases List.mem_append.mp hc2 with hc2 | hc2
  · exact hall c hc2
  · have : c = ch := by rw [hch]; simp [List.getD_eq_getElem?_getD, h] at hc2 ⊢; exact hc2
    rw [this]; exact hc
theorem own_tl {cs : List Int32} {i : Nat} (f : Int32 → Value) (h : i ≤ cs.length) : ((cs.take i).map f).length = i := by simp; omega
theorem Cod.cd8 {cs : List Int32} {cd N : Int32} {vs : List Value} (h : Cod cs cd N vs) : nar .byte cd = cd := by obtain ⟨rfl, -⟩ := h; rfl
theorem Cod.len {cs : List Int32} {cd N : Int32} {vs : List Value} (h : Cod cs cd N vs) (hl : cs.length ≤ 4000) : N >>> (cd &&& 31) = Int32.ofNat cs.length := by obtain ⟨rfl, rfl, -⟩ := h; exact o_zero _
theorem Cod.n0 {cs : List Int32} {cd N : Int32} {vs : List Value} (h : Cod cs cd N vs) (hl : cs.length ≤ 4000) : N = 0 ↔ cs.length = 0 := by
  have e : ∀ n : Nat, n < 2147483648 → (Int32.ofNat n = 0 ↔ n = 0) := fun n hn => by
    rw [← Int32.toInt_inj, o_int hn]; show ((n : Int) = 0) ↔ _; omega
  obtain ⟨-, rfl, -⟩ := h; exact e _ (by omega)

theorem d_pci_0 : decode jdk_41_method_11_code 0 = .ok (.iload_n 0, 1) := by decide +kernel
theorem d_pci_1 : decode jdk_41_method_11_code 1 = .ok (.ifCond .lt 8, 3) := by decide +kernel
theorem d_pci_4 : decode jdk_41_method_11_code 4 = .ok (.iload_n 0, 1) := by decide +kernel
theorem d_pci_5 : decode jdk_41_method_11_code 5 = .ok (.iload_n 1, 1) := by decide +kernel
theorem d_pci_6 : decode jdk_41_method_11_code 6 = .ok (.if_icmp .lt 10, 3) := by decide +kernel
theorem d_pci_16 : decode jdk_41_method_11_code 16 = .ok (.iload_n 0, 1) := by decide +kernel
theorem d_pci_17 : decode jdk_41_method_11_code 17 = .ok (.ireturn, 1) := by decide +kernel
abbrev rm_pci : Room := ({ frames := 0, cells := 0, slots := 0, locals := 0 } : Room)
def Q_pci (Z : State) (i n : Int32) (h0 : Heap) (v : Option Value) (h : Heap) : Prop := v = some (.int i) ∧ h = h0
set_option maxRecDepth 65536 in
set_option maxHeartbeats 40000000 in
theorem ct_pci (l : Launch) (Z : State) (a0 : Array Value) (hw : ∀ d ∈ tables_1, d.before a0 Z = true) (G1 : Int32) (G3 : Value) (OS : Sts Z G1 G3) (i n : Int32) {h0 : Heap} (O : Ext Z.heap h0) (h1 : ¬ i < 0) (h2 : i < n) : Ct l Z (⟨"jdk/internal/util/Preconditions", "checkIndex", "(IILjava/util/function/BiFunction;)I"⟩ : MethodName) jdk_41_method_11_code 3 (some .int) rm_pci #[(.int i), (.int n), G3] h0 (Q_pci Z i n h0) := by
  refine Ct.of_body (Ls := #[.val (.int i), .val (.int n), .val G3]) (by decide +kernel) O (fun m => by first | rfl | (simp [entryFrame, mkF, argsToLocals, Value.category]; done) | (rcases ref_cases (Sts.ref OS) with rfl | ⟨r, rfl⟩ <;> rfl)) ?_
  intro p e s m below meth c T0 X0 e0
  subst e0
  refine E_iloadN X0 d_pci_0 rfl (pc' := 1) rfl ?_
  refine E_ifF X0 d_pci_1 (XT.i0_lt_f h1) (pc' := 4) rfl ?_
  refine E_iloadN X0 d_pci_4 rfl (pc' := 5) rfl ?_
  refine E_iloadN X0 d_pci_5 rfl (pc' := 6) rfl ?_
  refine E_icT X0 d_pci_6 (XT.ii_lt_t h2) (pc' := 16) (by decide) rfl ?_
  refine E_iloadN X0 d_pci_16 rfl (pc' := 17) rfl ?_
  exact E_ireturnI X0 d_pci_17 rfl (by decide) (by decide) (⟨rfl, rfl⟩)
theorem d_sci_0 : decode jdk_42_method_155_code 0 = .ok (.iload_n 0, 1) := by decide +kernel
theorem d_sci_1 : decode jdk_42_method_155_code 1 = .ok (.iload_n 1, 1) := by decide +kernel
theorem d_sci_2 : decode jdk_42_method_155_code 2 = .ok (.getstatic 1053, 3) := by decide +kernel
theorem d_sci_5 : decode jdk_42_method_155_code 5 = .ok (.invokestatic 1059, 3) := by decide +kernel
theorem d_sci_8 : decode jdk_42_method_155_code 8 = .ok (.pop, 1) := by decide +kernel
theorem d_sci_9 : decode jdk_42_method_155_code 9 = .ok (.return_, 1) := by decide +kernel
abbrev rm_sci : Room := ({ frames := 1, cells := 0, slots := 0, locals := 14 } : Room)
def Q_sci (Z : State) (i n : Int32) (h0 : Heap) (v : Option Value) (h : Heap) : Prop := v = none ∧ h = h0
set_option maxRecDepth 65536 in
set_option maxHeartbeats 40000000 in
theorem ct_sci (l : Launch) (Z : State) (a0 : Array Value) (hw : ∀ d ∈ tables_1, d.before a0 Z = true) (G1 : Int32) (G3 : Value) (OS : Sts Z G1 G3) (i n : Int32) {h0 : Heap} (O : Ext Z.heap h0) (h1 : ¬ i < 0) (h2 : i < n) : Ct l Z (⟨"java/lang/String", "checkIndex", "(II)V"⟩ : MethodName) jdk_42_method_155_code 2 none rm_sci #[(.int i), (.int n)] h0 (Q_sci Z i n h0) := by
  refine Ct.of_body (Ls := #[.val (.int i), .val (.int n)]) (by decide +kernel) O (fun m => by first | rfl | (simp [entryFrame, mkF, argsToLocals, Value.category]; done) | (rcases ref_cases (Sts.ref OS) with rfl | ⟨r, rfl⟩ <;> rfl)) ?_
  intro p e s m below meth c T0 X0 e0
  subst e0
  refine E_iloadN X0 d_sci_0 rfl (pc' := 1) rfl ?_
  refine E_iloadN X0 d_sci_1 rfl (pc' := 2) rfl ?_
  refine E_getstatic X0 d_sci_2 (hw _ (List.mem_of_getElem? (i := 74) rfl)) Via.refl OS.2.2.1 (pc' := 5) rfl ?_
  intro T1 X2 e3
  refine E_static X2 (rm := rm_pci) d_sci_5 (hw _ (List.mem_of_getElem? (i := 76) rfl)) (hw _ (List.mem_of_getElem? (i := 77) rfl)) (hw _ (List.mem_of_getElem? (i := 75) rfl)) (hw _ (List.mem_of_getElem? (i := 78) rfl)) (by decide) (argsL := [(.int i), (.int n), G3]) (st := []) rfl (ct_pci l Z a0 hw G1 G3 OS i n X2.old h1 h2) (lenOf (pd_0) rfl) rfl (by decide) (by decide) (by decide) (Nat.le_of_ble_eq_true rfl) (pc' := 8) rfl ?_
  intro T4 _ X5 hQ6
  obtain ⟨rfl, e7⟩ := hQ6
  show Ends p e below s Z _ _ _ T4 (mkF m 8 #[.val (.int i), .val (.int n)] [(.int i)])
  refine E_pop X5 d_sci_8 rfl (pc' := 9) rfl ?_
  exact E_return X5 d_sci_9 rfl (by decide) (by decide) (⟨rfl, (e7.trans e3)⟩)
theorem d_cod_0 : decode jdk_42_method_152_code 0 = .ok (.getstatic 38, 3) := by decide +kernel
theorem d_cod_3 : decode jdk_42_method_152_code 3 = .ok (.ifCond .eq 10, 3) := by decide +kernel
theorem d_cod_6 : decode jdk_42_method_152_code 6 = .ok (.aload_n 0, 1) := by decide +kernel
theorem d_cod_7 : decode jdk_42_method_152_code 7 = .ok (.getfield 15, 3) := by decide +kernel
theorem d_cod_10 : decode jdk_42_method_152_code 10 = .ok (.goto 4, 3) := by decide +kernel
theorem d_cod_14 : decode jdk_42_method_152_code 14 = .ok (.ireturn, 1) := by decide +kernel
abbrev rm_cod : Room := ({ frames := 0, cells := 0, slots := 0, locals := 0 } : Room)
def Q_cod (Z : State) (x : Addr) (cd : Int32) (h0 : Heap) (v : Option Value) (h : Heap) : Prop := v = some (.int cd) ∧ h = h0
set_option maxRecDepth 65536 in
set_option maxHeartbeats 40000000 in
theorem ct_cod (l : Launch) (Z : State) (a0 : Array Value) (hw : ∀ d ∈ tables_1, d.before a0 Z = true) (G1 : Int32) (G3 : Value) (OS : Sts Z G1 G3) (x : Addr) (cd : Int32) {h0 : Heap} (O : Ext Z.heap h0) (C0 : Fld Z h0 x "java/lang/String" "coder" "B" (.int cd)) (hcd : nar .byte cd = cd) : Ct l Z (⟨"java/lang/String", "coder", "()B"⟩ : MethodName) jdk_42_method_152_code 1 (some .byte) rm_cod #[(.ref x)] h0 (Q_cod Z x cd h0) := by
  refine Ct.of_body (Ls := #[.val (.ref x)]) (by decide +kernel) O (fun m => by first | rfl | (simp [entryFrame, mkF, argsToLocals, Value.category]; done) | (rcases ref_cases (Sts.ref OS) with rfl | ⟨r, rfl⟩ <;> rfl)) ?_
  intro p e s m below meth c T0 X0 e0
  subst e0
  refine E_getstatic X0 d_cod_0 (hw _ (List.mem_of_getElem? (i := 22) rfl)) Via.refl OS.1 (pc' := 3) rfl ?_
  intro T1 X2 e3
  rw [← e3] at C0
  refine E_ifF X2 d_cod_3 (XT.i0_eq_f OS.2.1) (pc' := 6) rfl ?_
  refine E_aloadN X2 d_cod_6 rfl rfl (pc' := 7) rfl ?_
  refine E_getfield X2 d_cod_7 (hw _ (List.mem_of_getElem? (i := 34) rfl)) Via.refl C0 (pc' := 10) rfl ?_
  intro T4 X5 e6
  rw [← e6] at C0
  refine E_goto X5 d_cod_10 (pc' := 14) (by decide) rfl ?_
  exact E_ireturnN X5 (t := .byte) d_cod_14 rfl (by simp) (by decide) (by decide) (⟨by rw [hcd], (e6.trans e3)⟩)
theorem d_lat_0 : decode jdk_42_method_154_code 0 = .ok (.getstatic 38, 3) := by decide +kernel
theorem d_lat_3 : decode jdk_42_method_154_code 3 = .ok (.ifCond .eq 14, 3) := by decide +kernel
theorem d_lat_6 : decode jdk_42_method_154_code 6 = .ok (.aload_n 0, 1) := by decide +kernel
theorem d_lat_7 : decode jdk_42_method_154_code 7 = .ok (.getfield 15, 3) := by decide +kernel
theorem d_lat_10 : decode jdk_42_method_154_code 10 = .ok (.ifCond .ne 7, 3) := by decide +kernel
theorem d_lat_13 : decode jdk_42_method_154_code 13 = .ok (.iconst 1, 1) := by decide +kernel
theorem d_lat_14 : decode jdk_42_method_154_code 14 = .ok (.goto 4, 3) := by decide +kernel
theorem d_lat_17 : decode jdk_42_method_154_code 17 = .ok (.iconst 0, 1) := by decide +kernel
theorem d_lat_18 : decode jdk_42_method_154_code 18 = .ok (.ireturn, 1) := by decide +kernel
abbrev rm_lat : Room := ({ frames := 0, cells := 0, slots := 0, locals := 0 } : Room)
def Q_lat (Z : State) (x : Addr) (cd : Int32) (h0 : Heap) (v : Option Value) (h : Heap) : Prop := ∃ z, v = some (.int z) ∧ h = h0 ∧ (cd = 0 → z = 1) ∧ (¬ cd = 0 → z = 0)
set_option maxRecDepth 65536 in
set_option maxHeartbeats 40000000 in
theorem ct_lat (l : Launch) (Z : State) (a0 : Array Value) (hw : ∀ d ∈ tables_1, d.before a0 Z = true) (G1 : Int32) (G3 : Value) (OS : Sts Z G1 G3) (x : Addr) (cd : Int32) {h0 : Heap} (O : Ext Z.heap h0) (C0 : Fld Z h0 x "java/lang/String" "coder" "B" (.int cd)) : Ct l Z (⟨"java/lang/String", "isLatin1", "()Z"⟩ : MethodName) jdk_42_method_154_code 1 (some .boolean) rm_lat #[(.ref x)] h0 (Q_lat Z x cd h0) := by
  refine Ct.of_body (Ls := #[.val (.ref x)]) (by decide +kernel) O (fun m => by first | rfl | (simp [entryFrame, mkF, argsToLocals, Value.category]; done) | (rcases ref_cases (Sts.ref OS) with rfl | ⟨r, rfl⟩ <;> rfl)) ?_
  intro p e s m below meth c T0 X0 e0
  subst e0
  refine E_getstatic X0 d_lat_0 (hw _ (List.mem_of_getElem? (i := 22) rfl)) Via.refl OS.1 (pc' := 3) rfl ?_
  intro T1 X2 e3
  rw [← e3] at C0
  refine E_ifF X2 d_lat_3 (XT.i0_eq_f OS.2.1) (pc' := 6) rfl ?_
  refine E_aloadN X2 d_lat_6 rfl rfl (pc' := 7) rfl ?_
  refine E_getfield X2 d_lat_7 (hw _ (List.mem_of_getElem? (i := 34) rfl)) Via.refl C0 (pc' := 10) rfl ?_
  intro T4 X5 e6
  rw [← e6] at C0
  by_cases hc : cd = 0
  · skip
    refine E_ifF X5 d_lat_10 (XT.i0_ne_f hc) (pc' := 13) rfl ?_
    refine E_iconst X5 (v := (1 : Int32)) d_lat_13 rfl (pc' := 14) rfl ?_
    refine E_goto X5 d_lat_14 (pc' := 18) (by decide) rfl ?_
    exact E_ireturnN X5 (t := .boolean) d_lat_18 rfl (by simp) (by decide) (by decide) (⟨_, rfl, (e6.trans e3), fun _ => rfl, fun q => absurd hc q⟩)
  · skip
    refine E_ifT X5 d_lat_10 (XT.i0_ne_t hc) (pc' := 17) (by decide) rfl ?_
    refine E_iconst X5 (v := (0 : Int32)) d_lat_17 rfl (pc' := 18) rfl ?_
    exact E_ireturnN X5 (t := .boolean) d_lat_18 rfl (by simp) (by decide) (by decide) (⟨_, rfl, (e6.trans e3), fun q => absurd q hc, fun _ => rfl⟩)
theorem d_slen_0 : decode jdk_42_method_54_code 0 = .ok (.aload_n 0, 1) := by decide +kernel
theorem d_slen_1 : decode jdk_42_method_54_code 1 = .ok (.getfield 9, 3) := by decide +kernel
theorem d_slen_4 : decode jdk_42_method_54_code 4 = .ok (.arraylength, 1) := by decide +kernel
theorem d_slen_5 : decode jdk_42_method_54_code 5 = .ok (.aload_n 0, 1) := by decide +kernel
theorem d_slen_6 : decode jdk_42_method_54_code 6 = .ok (.invokevirtual 335, 3) := by decide +kernel
theorem d_slen_9 : decode jdk_42_method_54_code 9 = .ok (.ishr, 1) := by decide +kernel
theorem d_slen_10 : decode jdk_42_method_54_code 10 = .ok (.ireturn, 1) := by decide +kernel
abbrev rm_slen : Room := ({ frames := 1, cells := 0, slots := 0, locals := 13 } : Room)
def Q_slen (Z : State) (x t : Addr) (cs : List Int32) (h0 : Heap) (v : Option Value) (h : Heap) : Prop := v = some (.int (Int32.ofNat cs.length)) ∧ h = h0
set_option maxRecDepth 65536 in
set_option maxHeartbeats 40000000 in
theorem ct_slen (l : Launch) (Z : State) (a0 : Array Value) (hw : ∀ d ∈ tables_1, d.before a0 Z = true) (G1 : Int32) (G3 : Value) (OS : Sts Z G1 G3) (x t : Addr) (cs : List Int32) {h0 : Heap} (O : Ext Z.heap h0) (S0 : OStr Z h0 x t cs) : Ct l Z (⟨"java/lang/String", "length", "()I"⟩ : MethodName) jdk_42_method_54_code 1 (some .int) rm_slen #[(.ref x)] h0 (Q_slen Z x t cs h0) := by
  refine Ct.of_body (Ls := #[.val (.ref x)]) (by decide +kernel) O (fun m => by first | rfl | (simp [entryFrame, mkF, argsToLocals, Value.category]; done) | (rcases ref_cases (Sts.ref OS) with rfl | ⟨r, rfl⟩ <;> rfl)) ?_
  intro p e s m below meth c T0 X0 e0
  subst e0
  obtain ⟨kb, cd, N, vs, E0, F0, C0, V0, hcod, hpc, hlen⟩ := S0
  refine E_aloadN X0 d_slen_0 rfl rfl (pc' := 1) rfl ?_
  refine E_getfield X0 d_slen_1 (hw _ (List.mem_of_getElem? (i := 36) rfl)) Via.refl F0 (pc' := 4) rfl ?_
  intro T1 X2 e3
  rw [← e3] at E0 F0 C0 V0
  refine E_arraylength X2 d_slen_4 V0 (pc' := 5) rfl ?_
  refine E_aloadN X2 d_slen_5 rfl rfl (pc' := 6) rfl ?_
  refine E_virtual X2 (rm := rm_cod) (a := x) (D := "java/lang/String") d_slen_6 (hw _ (List.mem_of_getElem? (i := 52) rfl)) (hw _ (List.mem_of_getElem? (i := 53) rfl)) (hw _ (List.mem_of_getElem? (i := 55) rfl)) (hw _ (List.mem_of_getElem? (i := 54) rfl)) (notFace_of_selects (args := #[]) (mvT X2.hZ (hw _ (List.mem_of_getElem? (i := 55) rfl)))) (by decide) E0 (hw _ (List.mem_of_getElem? (i := 11) rfl)) (hw _ (List.mem_of_getElem? (i := 56) rfl)) (argsL := []) (st := [(.int N)]) rfl (ct_cod l Z a0 hw G1 G3 OS x cd X2.old C0 hcod.cd8) (lenOf (pd_1) rfl) rfl (by decide) (by decide) (by decide) (Nat.le_of_ble_eq_true rfl) (pc' := 9) rfl ?_
  intro T4 _ X5 hQ6
  obtain ⟨rfl, e7⟩ := hQ6
  rw [← e7] at E0 F0 C0 V0
  show Ends p e below s Z _ _ _ T4 (mkF m 9 #[.val (.ref x)] [(.int cd), (.int N)])
  refine E_ishr X5 (v := (Int32.ofNat cs.length)) d_slen_9 (hcod.len hlen) (pc' := 10) rfl ?_
  exact E_ireturnI X5 d_slen_10 rfl (by decide) (by decide) (⟨rfl, (e7.trans e3)⟩)
theorem d_semp_0 : decode jdk_42_method_55_code 0 = .ok (.aload_n 0, 1) := by decide +kernel
theorem d_semp_1 : decode jdk_42_method_55_code 1 = .ok (.getfield 9, 3) := by decide +kernel
theorem d_semp_4 : decode jdk_42_method_55_code 4 = .ok (.arraylength, 1) := by decide +kernel
theorem d_semp_5 : decode jdk_42_method_55_code 5 = .ok (.ifCond .ne 7, 3) := by decide +kernel
theorem d_semp_8 : decode jdk_42_method_55_code 8 = .ok (.iconst 1, 1) := by decide +kernel
theorem d_semp_9 : decode jdk_42_method_55_code 9 = .ok (.goto 4, 3) := by decide +kernel
theorem d_semp_12 : decode jdk_42_method_55_code 12 = .ok (.iconst 0, 1) := by decide +kernel
theorem d_semp_13 : decode jdk_42_method_55_code 13 = .ok (.ireturn, 1) := by decide +kernel
abbrev rm_semp : Room := ({ frames := 0, cells := 0, slots := 0, locals := 0 } : Room)
def Q_semp (Z : State) (x t : Addr) (cs : List Int32) (h0 : Heap) (v : Option Value) (h : Heap) : Prop := ∃ z, v = some (.int z) ∧ h = h0 ∧ (cs.length = 0 → z = 1) ∧ (¬ cs.length = 0 → z = 0)
set_option maxRecDepth 65536 in
set_option maxHeartbeats 40000000 in
theorem ct_semp (l : Launch) (Z : State) (a0 : Array Value) (hw : ∀ d ∈ tables_1, d.before a0 Z = true) (G1 : Int32) (G3 : Value) (OS : Sts Z G1 G3) (x t : Addr) (cs : List Int32) {h0 : Heap} (O : Ext Z.heap h0) (S0 : OStr Z h0 x t cs) : Ct l Z (⟨"java/lang/String", "isEmpty", "()Z"⟩ : MethodName) jdk_42_method_55_code 1 (some .boolean) rm_semp #[(.ref x)] h0 (Q_semp Z x t cs h0) := by
  refine Ct.of_body (Ls := #[.val (.ref x)]) (by decide +kernel) O (fun m => by first | rfl | (simp [entryFrame, mkF, argsToLocals, Value.category]; done) | (rcases ref_cases (Sts.ref OS) with rfl | ⟨r, rfl⟩ <;> rfl)) ?_
  intro p e s m below meth c T0 X0 e0
  subst e0
  obtain ⟨kb, cd, N, vs, E0, F0, C0, V0, hcod, hpc, hlen⟩ := S0
  refine E_aloadN X0 d_semp_0 rfl rfl (pc' := 1) rfl ?_
  refine E_getfield X0 d_semp_1 (hw _ (List.mem_of_getElem? (i := 36) rfl)) Via.refl F0 (pc' := 4) rfl ?_
  intro T1 X2 e3
  rw [← e3] at E0 F0 C0 V0
  refine E_arraylength X2 d_semp_4 V0 (pc' := 5) rfl ?_
  by_cases hc : N = 0
  · skip
    refine E_ifF X2 d_semp_5 (XT.i0_ne_f hc) (pc' := 8) rfl ?_
    refine E_iconst X2 (v := (1 : Int32)) d_semp_8 rfl (pc' := 9) rfl ?_
    refine E_goto X2 d_semp_9 (pc' := 13) (by decide) rfl ?_
    exact E_ireturnN X2 (t := .boolean) d_semp_13 rfl (by simp) (by decide) (by decide) (⟨_, rfl, e3, fun _ => rfl, fun q => absurd ((hcod.n0 hlen).mp hc) q⟩)
  · skip
    refine E_ifT X2 d_semp_5 (XT.i0_ne_t hc) (pc' := 12) (by decide) rfl ?_
    refine E_iconst X2 (v := (0 : Int32)) d_semp_12 rfl (pc' := 13) rfl ?_
    exact E_ireturnN X2 (t := .boolean) d_semp_13 rfl (by simp) (by decide) (by decide) (⟨_, rfl, e3, fun q => absurd ((hcod.n0 hlen).mpr q) hc, fun _ => rfl⟩)
theorem d_lch_0 : decode jdk_43_method_2_code 0 = .ok (.iload_n 1, 1) := by decide +kernel
theorem d_lch_1 : decode jdk_43_method_2_code 1 = .ok (.aload_n 0, 1) := by decide +kernel
theorem d_lch_2 : decode jdk_43_method_2_code 2 = .ok (.arraylength, 1) := by decide +kernel
theorem d_lch_3 : decode jdk_43_method_2_code 3 = .ok (.invokestatic 9, 3) := by decide +kernel
theorem d_lch_6 : decode jdk_43_method_2_code 6 = .ok (.aload_n 0, 1) := by decide +kernel
theorem d_lch_7 : decode jdk_43_method_2_code 7 = .ok (.iload_n 1, 1) := by decide +kernel
theorem d_lch_8 : decode jdk_43_method_2_code 8 = .ok (.baload, 1) := by decide +kernel
theorem d_lch_9 : decode jdk_43_method_2_code 9 = .ok (.sipush 255, 3) := by decide +kernel
theorem d_lch_12 : decode jdk_43_method_2_code 12 = .ok (.iand, 1) := by decide +kernel
theorem d_lch_13 : decode jdk_43_method_2_code 13 = .ok (.i2c, 1) := by decide +kernel
theorem d_lch_14 : decode jdk_43_method_2_code 14 = .ok (.ireturn, 1) := by decide +kernel
abbrev rm_lch : Room := ({ frames := 2, cells := 0, slots := 0, locals := 27 } : Room)
def Q_lch (Z : State) (t : Addr) (kb : ClassId) (N j b : Int32) (vs : List Value) (h0 : Heap) (v : Option Value) (h : Heap) : Prop := v = some (.int (nar .char ((b &&& (255 : Int32)).toUInt32.toUInt16.toUInt32.toInt32))) ∧ h = h0
set_option maxRecDepth 65536 in
set_option maxHeartbeats 40000000 in
theorem ct_lch (l : Launch) (Z : State) (a0 : Array Value) (hw : ∀ d ∈ tables_1, d.before a0 Z = true) (G1 : Int32) (G3 : Value) (OS : Sts Z G1 G3) (t : Addr) (kb : ClassId) (N j b : Int32) (vs : List Value) {h0 : Heap} (O : Ext Z.heap h0) (V0 : Arv Z h0 t kb .byte N vs (.int (0 : Int32))) (h1 : ¬ j < 0) (h2 : j < N) (hv : vs.getD j.toNatClampNeg (.int (0 : Int32)) = .int b) : Ct l Z (⟨"java/lang/StringLatin1", "charAt", "([BI)C"⟩ : MethodName) jdk_43_method_2_code 2 (some .char) rm_lch #[(.ref t), (.int j)] h0 (Q_lch Z t kb N j b vs h0) := by
  refine Ct.of_body (Ls := #[.val (.ref t), .val (.int j)]) (by decide +kernel) O (fun m => by first | rfl | (simp [entryFrame, mkF, argsToLocals, Value.category]; done) | (rcases ref_cases (Sts.ref OS) with rfl | ⟨r, rfl⟩ <;> rfl)) ?_
  intro p e s m below meth c T0 X0 e0
  subst e0
  refine E_iloadN X0 d_lch_0 rfl (pc' := 1) rfl ?_
  refine E_aloadN X0 d_lch_1 rfl rfl (pc' := 2) rfl ?_
  refine E_arraylength X0 d_lch_2 V0 (pc' := 3) rfl ?_
  refine E_static X0 (rm := rm_sci) d_lch_3 (hw _ (List.mem_of_getElem? (i := 71) rfl)) (hw _ (List.mem_of_getElem? (i := 72) rfl)) (hw _ (List.mem_of_getElem? (i := 11) rfl)) (hw _ (List.mem_of_getElem? (i := 73) rfl)) (by decide) (argsL := [(.int j), (.int N)]) (st := []) rfl (ct_sci l Z a0 hw G1 G3 OS j N X0.old h1 h2) (lenOf (pd_2) rfl) rfl (by decide) (by decide) (by decide) (Nat.le_of_ble_eq_true rfl) (pc' := 6) rfl ?_
  intro T1 _ X2 hQ3
  obtain ⟨rfl, e4⟩ := hQ3
  rw [← e4] at V0
  show Ends p e below s Z _ _ _ T1 (mkF m 6 #[.val (.ref t), .val (.int j)] [])
  refine E_aloadN X2 d_lch_6 rfl rfl (pc' := 7) rfl ?_
  refine E_iloadN X2 d_lch_7 rfl (pc' := 8) rfl ?_
  refine E_baload X2 (v := (.int b)) d_lch_8 V0 ⟨h1, h2⟩ hv (pc' := 9) rfl ?_
  refine E_sipush X2 (v := (255 : Int32)) d_lch_9 rfl (pc' := 12) rfl ?_
  refine E_iand X2 d_lch_12 rfl (pc' := 13) rfl ?_
  refine E_i2c X2 d_lch_13 rfl (pc' := 14) rfl ?_
  exact E_ireturnN X2 (t := .char) d_lch_14 rfl (by simp) (by decide) (by decide) (⟨rfl, e4⟩)
theorem d_sch_0 : decode jdk_42_method_56_code 0 = .ok (.aload_n 0, 1) := by decide +kernel
theorem d_sch_1 : decode jdk_42_method_56_code 1 = .ok (.invokevirtual 492, 3) := by decide +kernel
theorem d_sch_4 : decode jdk_42_method_56_code 4 = .ok (.ifCond .eq 12, 3) := by decide +kernel
theorem d_sch_7 : decode jdk_42_method_56_code 7 = .ok (.aload_n 0, 1) := by decide +kernel
theorem d_sch_8 : decode jdk_42_method_56_code 8 = .ok (.getfield 9, 3) := by decide +kernel
theorem d_sch_11 : decode jdk_42_method_56_code 11 = .ok (.iload_n 1, 1) := by decide +kernel
theorem d_sch_12 : decode jdk_42_method_56_code 12 = .ok (.invokestatic 495, 3) := by decide +kernel
theorem d_sch_15 : decode jdk_42_method_56_code 15 = .ok (.ireturn, 1) := by decide +kernel
abbrev rm_sch : Room := ({ frames := 3, cells := 0, slots := 0, locals := 40 } : Room)
def Q_sch (Z : State) (x t : Addr) (cs : List Int32) (i : Nat) (h0 : Heap) (v : Option Value) (h : Heap) : Prop := v = some (.int (cs.getD i 0)) ∧ h = h0
set_option maxRecDepth 65536 in
set_option maxHeartbeats 40000000 in
theorem ct_sch (l : Launch) (Z : State) (a0 : Array Value) (hw : ∀ d ∈ tables_1, d.before a0 Z = true) (G1 : Int32) (G3 : Value) (OS : Sts Z G1 G3) (x t : Addr) (cs : List Int32) (i : Nat) {h0 : Heap} (O : Ext Z.heap h0) (S0 : OStr Z h0 x t cs) (hi : i < cs.length) : Ct l Z (⟨"java/lang/String", "charAt", "(I)C"⟩ : MethodName) jdk_42_method_56_code 2 (some .char) rm_sch #[(.ref x), (.int (Int32.ofNat i))] h0 (Q_sch Z x t cs i h0) := by
  refine Ct.of_body (Ls := #[.val (.ref x), .val (.int (Int32.ofNat i))]) (by decide +kernel) O (fun m => by first | rfl | (simp [entryFrame, mkF, argsToLocals, Value.category]; done) | (rcases ref_cases (Sts.ref OS) with rfl | ⟨r, rfl⟩ <;> rfl)) ?_
  intro p e s m below meth c T0 X0 e0
  subst e0
  obtain ⟨kb, cd, N, vs, E0, F0, C0, V0, hcod, hpc, hlen⟩ := S0
  have hm := own_mem hi
  obtain ⟨rfl, rfl, rfl, hl8⟩ := hcod
  refine E_aloadN X0 d_sch_0 rfl rfl (pc' := 1) rfl ?_
  refine E_virtual X0 (rm := rm_lat) (a := x) (D := "java/lang/String") d_sch_1 (hw _ (List.mem_of_getElem? (i := 62) rfl)) (hw _ (List.mem_of_getElem? (i := 63) rfl)) (hw _ (List.mem_of_getElem? (i := 65) rfl)) (hw _ (List.mem_of_getElem? (i := 64) rfl)) (notFace_of_selects (args := #[]) (mvT X0.hZ (hw _ (List.mem_of_getElem? (i := 65) rfl)))) (by decide) E0 (hw _ (List.mem_of_getElem? (i := 11) rfl)) (hw _ (List.mem_of_getElem? (i := 66) rfl)) (argsL := []) (st := []) rfl (ct_lat l Z a0 hw G1 G3 OS x 0 X0.old C0) (lenOf (pd_3) rfl) rfl (by decide) (by decide) (by decide) (Nat.le_of_ble_eq_true rfl) (pc' := 4) rfl ?_
  intro T2 _ X3 hQ4
  obtain ⟨z1, rfl, e5, yz1, nz1⟩ := hQ4
  rw [← e5] at E0 F0 C0 V0
  obtain rfl := (yz1 rfl)
  show Ends p e below s Z _ _ _ T2 (mkF m 4 #[.val (.ref x), .val (.int (Int32.ofNat i))] [(.int (1 : Int32))])
  refine E_ifF X3 d_sch_4 (XT.i0_eq_f (by decide)) (pc' := 7) rfl ?_
  refine E_aloadN X3 d_sch_7 rfl rfl (pc' := 8) rfl ?_
  refine E_getfield X3 d_sch_8 (hw _ (List.mem_of_getElem? (i := 36) rfl)) Via.refl F0 (pc' := 11) rfl ?_
  intro T6 X7 e8
  rw [← e8] at E0 F0 C0 V0
  refine E_iloadN X7 d_sch_11 rfl (pc' := 12) rfl ?_
  refine E_static X7 (rm := rm_lch) d_sch_12 (hw _ (List.mem_of_getElem? (i := 67) rfl)) (hw _ (List.mem_of_getElem? (i := 68) rfl)) (hw _ (List.mem_of_getElem? (i := 69) rfl)) (hw _ (List.mem_of_getElem? (i := 70) rfl)) (by decide) (argsL := [(.ref t), (.int (Int32.ofNat i))]) (st := []) rfl (ct_lch l Z a0 hw G1 G3 OS t kb (Int32.ofNat cs.length) (Int32.ofNat i) (cs.getD i 0).toInt8.toInt32 (cs.map lo8) X7.old V0 (o_nn (by omega)) (o_lt hi (by omega)) (own_getD lo8 hi hlen)) (lenOf (pd_4) rfl) rfl (by decide) (by decide) (by decide) (Nat.le_of_ble_eq_true rfl) (pc' := 15) rfl ?_
  intro T9 _ X10 hQ11
  obtain ⟨rfl, e12⟩ := hQ11
  rw [← e12] at E0 F0 C0 V0
  show Ends p e below s Z _ _ _ T9 (mkF m 15 #[.val (.ref x), .val (.int (Int32.ofNat i))] [(.int (nar .char (((cs.getD i 0).toInt8.toInt32 &&& (255 : Int32)).toUInt32.toUInt16.toUInt32.toInt32)))])
  exact E_ireturnN X10 (t := .char) d_sch_15 rfl (by simp) (by decide) (by decide) (⟨by rw [o_lat (hpc _ hm).1 (hl8 _ hm), o_nar (hpc _ hm).1 (hpc _ hm).2], (e12.trans (e8.trans e5))⟩)
theorem d_compress5_0 : decode jdk_52_method_21_code 0 = .ok (.iconst 0, 1) := by decide +kernel
theorem d_compress5_1 : decode jdk_52_method_21_code 1 = .ok (.istore 5, 2) := by decide +kernel
theorem d_compress5_3 : decode jdk_52_method_21_code 3 = .ok (.iload 5, 2) := by decide +kernel
theorem d_compress5_5 : decode jdk_52_method_21_code 5 = .ok (.iload 4, 2) := by decide +kernel
theorem d_compress5_7 : decode jdk_52_method_21_code 7 = .ok (.if_icmp .ge 37, 3) := by decide +kernel
theorem d_compress5_10 : decode jdk_52_method_21_code 10 = .ok (.aload_n 0, 1) := by decide +kernel
theorem d_compress5_11 : decode jdk_52_method_21_code 11 = .ok (.iload_n 1, 1) := by decide +kernel
theorem d_compress5_12 : decode jdk_52_method_21_code 12 = .ok (.caload, 1) := by decide +kernel
theorem d_compress5_13 : decode jdk_52_method_21_code 13 = .ok (.istore 6, 2) := by decide +kernel
theorem d_compress5_15 : decode jdk_52_method_21_code 15 = .ok (.iload 6, 2) := by decide +kernel
theorem d_compress5_17 : decode jdk_52_method_21_code 17 = .ok (.sipush 255, 3) := by decide +kernel
theorem d_compress5_20 : decode jdk_52_method_21_code 20 = .ok (.if_icmp .le 6, 3) := by decide +kernel
theorem d_compress5_23 : decode jdk_52_method_21_code 23 = .ok (.iload 5, 2) := by decide +kernel
theorem d_compress5_25 : decode jdk_52_method_21_code 25 = .ok (.ireturn, 1) := by decide +kernel
theorem d_compress5_26 : decode jdk_52_method_21_code 26 = .ok (.aload_n 2, 1) := by decide +kernel
theorem d_compress5_27 : decode jdk_52_method_21_code 27 = .ok (.iload_n 3, 1) := by decide +kernel
theorem d_compress5_28 : decode jdk_52_method_21_code 28 = .ok (.iload 6, 2) := by decide +kernel
theorem d_compress5_30 : decode jdk_52_method_21_code 30 = .ok (.i2b, 1) := by decide +kernel
theorem d_compress5_31 : decode jdk_52_method_21_code 31 = .ok (.bastore, 1) := by decide +kernel
theorem d_compress5_32 : decode jdk_52_method_21_code 32 = .ok (.iinc 1 1, 3) := by decide +kernel
theorem d_compress5_35 : decode jdk_52_method_21_code 35 = .ok (.iinc 3 1, 3) := by decide +kernel
theorem d_compress5_38 : decode jdk_52_method_21_code 38 = .ok (.iinc 5 1, 3) := by decide +kernel
theorem d_compress5_41 : decode jdk_52_method_21_code 41 = .ok (.goto (-38), 3) := by decide +kernel
theorem d_compress5_44 : decode jdk_52_method_21_code 44 = .ok (.iload 4, 2) := by decide +kernel
theorem d_compress5_46 : decode jdk_52_method_21_code 46 = .ok (.ireturn, 1) := by decide +kernel
abbrev rm_compress5 : Room := ({ frames := 0, cells := 0, slots := 0, locals := 0 } : Room)
def Q_compress5 (Z : State) (b t : Addr) (kC kb : ClassId) (cs : List Int32) (dv : Value) (h0 : Heap) (v : Option Value) (h : Heap) : Prop := Keep h0 h [t] ∧ ((v = some (.int (Int32.ofNat cs.length)) ∧ (∀ c ∈ cs, ¬ (255 : Int32) < c) ∧ Arv Z h t kb .byte (Int32.ofNat cs.length) (cs.map lo8) (.int (0 : Int32))) ∨ (∃ j, j < cs.length ∧ v = some (.int (Int32.ofNat j)) ∧ (255 : Int32) < cs.getD j 0))
set_option maxRecDepth 65536 in
set_option maxHeartbeats 40000000 in
theorem lp_compress5 (l : Launch) (Z : State) (a0 : Array Value) (hw : ∀ d ∈ tables_1, d.before a0 Z = true) (G1 : Int32) (G3 : Value) (OS : Sts Z G1 G3) (b t : Addr) (kC kb : ClassId) (cs : List Int32) (dv : Value) {h0 : Heap} {p : Program} {e : Env} {s : State} {m : MethodId} {below : List Frame} {meth : Method} {c : Code} (k : Nat) : ∀ {T0 : State} (i : Nat) (o : Slot), Wk l Z rm_compress5 jdk_52_method_21_code 7 (some .int) "java/lang/StringUTF16" "compress" p e s m #[(.ref b), (.int (0 : Int32)), (.ref t), (.int (0 : Int32)), (.int (Int32.ofNat cs.length))] below meth c T0 0 0 → (i + k = cs.length) → (o = .unset ∨ ∃ w, o = .val w ∧ w.category = 1) → (cs.length ≤ 4000) → (Arv Z T0.heap b kC .char (Int32.ofNat cs.length) (cs.map Value.int) dv) → (Arv Z T0.heap t kb .byte (Int32.ofNat cs.length) ((cs.take i).map lo8) (.int (0 : Int32))) → (b ≠ t) → (Z.heap.size ≤ t) → (Keep h0 T0.heap [t]) → (∀ c ∈ cs.take i, ¬ (255 : Int32) < c) → Ends p e below s Z (Q_compress5 Z b t kC kb cs dv h0) rm_compress5.cells rm_compress5.slots T0 (mkF m 3 #[.val (.ref b), .val (.int (Int32.ofNat i)), .val (.ref t), .val (.int (Int32.ofNat i)), .val (.int (Int32.ofNat cs.length)), .val (.int (Int32.ofNat i)), o] []) := by
  induction k with
  | zero =>
    intro T0 i o X0 hi hone hlen V0 D0 hbt gt K00 hall
    have hik : i = cs.length := by omega
    subst hik
    rw [List.take_length] at hall
    rw [List.take_length] at D0
    refine E_iload X0 d_compress5_3 rfl (pc' := 5) rfl ?_
    refine E_iload X0 d_compress5_5 rfl (pc' := 7) rfl ?_
    refine E_icT X0 d_compress5_7 (XT.ii_ge_t (o_nlt (Nat.le_refl _) (by omega))) (pc' := 44) (by decide) rfl ?_
    refine E_iload X0 d_compress5_44 rfl (pc' := 46) rfl ?_
    exact E_ireturnI X0 d_compress5_46 rfl (by decide) (by decide) (⟨K00, Or.inl ⟨rfl, hall, D0⟩⟩)
  | succ k ih =>
    intro T0 i o X0 hi hone hlen V0 D0 hbt gt K00 hall
    have hlt : i < cs.length := by omega
    obtain ⟨ch, hch⟩ : ∃ c, c = cs.getD i 0 := ⟨_, rfl⟩
    refine E_iload X0 d_compress5_3 rfl (pc' := 5) rfl ?_
    refine E_iload X0 d_compress5_5 rfl (pc' := 7) rfl ?_
    refine E_icF X0 d_compress5_7 (XT.ii_ge_f (o_lt hlt (by omega))) (pc' := 10) rfl ?_
    refine E_aloadN X0 d_compress5_10 rfl rfl (pc' := 11) rfl ?_
    refine E_iloadN X0 d_compress5_11 rfl (pc' := 12) rfl ?_
    refine E_caload X0 (v := (.int ch)) d_compress5_12 V0 ⟨o_nn (by omega), o_lt hlt (by omega)⟩ (by rw [own_getD Value.int hlt hlen, hch]) (pc' := 13) rfl ?_
    refine E_istore X0 d_compress5_13 (l' := #[.val (.ref b), .val (.int (Int32.ofNat i)), .val (.ref t), .val (.int (Int32.ofNat i)), .val (.int (Int32.ofNat cs.length)), .val (.int (Int32.ofNat i)), .val (.int ch)]) (XS.store1 rfl hone rfl) (pc' := 15) rfl ?_
    refine E_iload X0 d_compress5_15 rfl (pc' := 17) rfl ?_
    refine E_sipush X0 (v := (255 : Int32)) d_compress5_17 rfl (pc' := 20) rfl ?_
    by_cases hc : (255 : Int32) < ch
    · skip
      refine E_icF X0 d_compress5_20 (XT.ii_le_f hc) (pc' := 23) rfl ?_
      refine E_iload X0 d_compress5_23 rfl (pc' := 25) rfl ?_
      exact E_ireturnI X0 d_compress5_25 rfl (by decide) (by decide) (⟨K00, Or.inr ⟨i, hlt, rfl, hch ▸ hc⟩⟩)
    · skip
      refine E_icT X0 d_compress5_20 (XT.ii_le_t hc) (pc' := 26) (by decide) rfl ?_
      refine E_aloadN X0 d_compress5_26 rfl rfl (pc' := 27) rfl ?_
      refine E_iloadN X0 d_compress5_27 rfl (pc' := 28) rfl ?_
      refine E_iload X0 d_compress5_28 rfl (pc' := 30) rfl ?_
      refine E_i2b X0 d_compress5_30 rfl (pc' := 31) rfl ?_
      refine E_bastoreA X0 (y := (ch).toInt8.toInt32) d_compress5_31 (o_b8 _) D0 ⟨o_nn (by omega), o_lt hlt (by omega)⟩ (by rw [o_cl (by omega), own_tl lo8 (by omega)]) gt (pc' := 32) rfl ?_
      intro T1 X2 K3 V4
      have KK5 := K00.trans K3 (allS (Or.inl (by simp)) (fun x q => nomatch q))
      have Arv_6 := V0.keep K3 (ninS hbt nin0)
      have V7 : Arv Z T1.heap t kb .byte (Int32.ofNat cs.length) ((cs.take i).map lo8 ++ [lo8 ch]) (.int (0 : Int32)) := V4
      refine E_iinc X2 (y := (Int32.ofNat (i + 1))) d_compress5_32 o_add rfl (l' := #[.val (.ref b), .val (.int (Int32.ofNat (i + 1))), .val (.ref t), .val (.int (Int32.ofNat i)), .val (.int (Int32.ofNat cs.length)), .val (.int (Int32.ofNat i)), .val (.int ch)]) rfl (pc' := 35) rfl ?_
      refine E_iinc X2 (y := (Int32.ofNat (i + 1))) d_compress5_35 o_add rfl (l' := #[.val (.ref b), .val (.int (Int32.ofNat (i + 1))), .val (.ref t), .val (.int (Int32.ofNat (i + 1))), .val (.int (Int32.ofNat cs.length)), .val (.int (Int32.ofNat i)), .val (.int ch)]) rfl (pc' := 38) rfl ?_
      refine E_iinc X2 (y := (Int32.ofNat (i + 1))) d_compress5_38 o_add rfl (l' := #[.val (.ref b), .val (.int (Int32.ofNat (i + 1))), .val (.ref t), .val (.int (Int32.ofNat (i + 1))), .val (.int (Int32.ofNat cs.length)), .val (.int (Int32.ofNat (i + 1))), .val (.int ch)]) rfl (pc' := 41) rfl ?_
      refine E_goto X2 d_compress5_41 (pc' := 3) (by decide) rfl ?_
      have hV2 : Arv Z T1.heap t kb .byte (Int32.ofNat cs.length) ((cs.take (i + 1)).map lo8) (.int (0 : Int32)) := by rw [own_take lo8 hlt, ← hch]; exact V7
      have hall2 := own_all hlt hch hall hc
      exact ih (i + 1) (.val (.int ch)) X2 (by omega) (Or.inr ⟨_, rfl, rfl⟩) hlen Arv_6 hV2 hbt gt KK5 hall2
set_option maxRecDepth 65536 in
set_option maxHeartbeats 40000000 in
theorem ct_compress5 (l : Launch) (Z : State) (a0 : Array Value) (hw : ∀ d ∈ tables_1, d.before a0 Z = true) (G1 : Int32) (G3 : Value) (OS : Sts Z G1 G3) (b t : Addr) (kC kb : ClassId) (cs : List Int32) (dv : Value) {h0 : Heap} (O : Ext Z.heap h0) (hlen : cs.length ≤ 4000) (V0 : Arv Z h0 b kC .char (Int32.ofNat cs.length) (cs.map Value.int) dv) (D0 : Arv Z h0 t kb .byte (Int32.ofNat cs.length) ([]) (.int (0 : Int32))) (hbt : b ≠ t) (gt : Z.heap.size ≤ t) : Ct l Z (⟨"java/lang/StringUTF16", "compress", "([CI[BII)I"⟩ : MethodName) jdk_52_method_21_code 7 (some .int) rm_compress5 #[(.ref b), (.int (0 : Int32)), (.ref t), (.int (0 : Int32)), (.int (Int32.ofNat cs.length))] h0 (Q_compress5 Z b t kC kb cs dv h0) := by
  refine Ct.of_body (Ls := #[.val (.ref b), .val (.int (0 : Int32)), .val (.ref t), .val (.int (0 : Int32)), .val (.int (Int32.ofNat cs.length)), .unset, .unset]) (by decide +kernel) O (fun m => by first | rfl | (simp [entryFrame, mkF, argsToLocals, Value.category]; done) | (rcases ref_cases (Sts.ref OS) with rfl | ⟨r, rfl⟩ <;> rfl)) ?_
  intro p e s m below meth c T0 X0 e0
  subst e0
  refine E_iconst X0 (v := (0 : Int32)) d_compress5_0 rfl (pc' := 1) rfl ?_
  refine E_istore X0 d_compress5_1 (l' := #[.val (.ref b), .val (.int (0 : Int32)), .val (.ref t), .val (.int (0 : Int32)), .val (.int (Int32.ofNat cs.length)), .val (.int (0 : Int32)), .unset]) rfl (pc' := 3) rfl ?_
  exact lp_compress5 l Z a0 hw G1 G3 OS b t kC kb cs dv cs.length 0 .unset X0 (by omega) (Or.inl rfl) hlen V0 D0 hbt gt (Keep.refl _ _) (fun c hc => by simp at hc)
theorem d_cfl_0 : decode jdk_52_method_15_code 0 = .ok (.iload_n 1, 1) := by decide +kernel
theorem d_cfl_1 : decode jdk_52_method_15_code 1 = .ok (.aload_n 0, 1) := by decide +kernel
theorem d_cfl_2 : decode jdk_52_method_15_code 2 = .ok (.arraylength, 1) := by decide +kernel
theorem d_cfl_3 : decode jdk_52_method_15_code 3 = .ok (.isub, 1) := by decide +kernel
theorem d_cfl_4 : decode jdk_52_method_15_code 4 = .ok (.bipush 31, 2) := by decide +kernel
theorem d_cfl_6 : decode jdk_52_method_15_code 6 = .ok (.iushr, 1) := by decide +kernel
theorem d_cfl_7 : decode jdk_52_method_15_code 7 = .ok (.i2b, 1) := by decide +kernel
theorem d_cfl_8 : decode jdk_52_method_15_code 8 = .ok (.ireturn, 1) := by decide +kernel
abbrev rm_cfl : Room := ({ frames := 0, cells := 0, slots := 0, locals := 0 } : Room)
def Q_cfl (Z : State) (t : Addr) (kb : ClassId) (N n z : Int32) (vs : List Value) (h0 : Heap) (v : Option Value) (h : Heap) : Prop := v = some (.int z) ∧ h = h0
set_option maxRecDepth 65536 in
set_option maxHeartbeats 40000000 in
theorem ct_cfl (l : Launch) (Z : State) (a0 : Array Value) (hw : ∀ d ∈ tables_1, d.before a0 Z = true) (G1 : Int32) (G3 : Value) (OS : Sts Z G1 G3) (t : Addr) (kb : ClassId) (N n z : Int32) (vs : List Value) {h0 : Heap} (O : Ext Z.heap h0) (V0 : Arv Z h0 t kb .byte N vs (.int (0 : Int32))) (hz : nar .byte ((((n - N).toUInt32 >>> ((31 : Int32) &&& 31).toUInt32).toInt32).toInt8.toInt32) = z) : Ct l Z (⟨"java/lang/StringUTF16", "coderFromArrayLen", "([BI)B"⟩ : MethodName) jdk_52_method_15_code 2 (some .byte) rm_cfl #[(.ref t), (.int n)] h0 (Q_cfl Z t kb N n z vs h0) := by
  refine Ct.of_body (Ls := #[.val (.ref t), .val (.int n)]) (by decide +kernel) O (fun m => by first | rfl | (simp [entryFrame, mkF, argsToLocals, Value.category]; done) | (rcases ref_cases (Sts.ref OS) with rfl | ⟨r, rfl⟩ <;> rfl)) ?_
  intro p e s m below meth c T0 X0 e0
  subst e0
  refine E_iloadN X0 d_cfl_0 rfl (pc' := 1) rfl ?_
  refine E_aloadN X0 d_cfl_1 rfl rfl (pc' := 2) rfl ?_
  refine E_arraylength X0 d_cfl_2 V0 (pc' := 3) rfl ?_
  refine E_isub X0 d_cfl_3 rfl (pc' := 4) rfl ?_
  refine E_bipush X0 (v := (31 : Int32)) d_cfl_4 rfl (pc' := 6) rfl ?_
  refine E_iushr X0 d_cfl_6 rfl (pc' := 7) rfl ?_
  refine E_i2b X0 d_cfl_7 rfl (pc' := 8) rfl ?_
  exact E_ireturnN X0 (t := .byte) d_cfl_8 rfl (by simp) (by decide) (by decide) (⟨by rw [hz], rfl⟩)
theorem d_compress3_0 : decode jdk_52_method_16_code 0 = .ok (.iload_n 2, 1) := by decide +kernel
theorem d_compress3_1 : decode jdk_52_method_16_code 1 = .ok (.newarray .byte, 2) := by decide +kernel
theorem d_compress3_3 : decode jdk_52_method_16_code 3 = .ok (.astore_n 3, 1) := by decide +kernel
theorem d_compress3_4 : decode jdk_52_method_16_code 4 = .ok (.aload_n 0, 1) := by decide +kernel
theorem d_compress3_5 : decode jdk_52_method_16_code 5 = .ok (.iload_n 1, 1) := by decide +kernel
theorem d_compress3_6 : decode jdk_52_method_16_code 6 = .ok (.aload_n 3, 1) := by decide +kernel
theorem d_compress3_7 : decode jdk_52_method_16_code 7 = .ok (.iconst 0, 1) := by decide +kernel
theorem d_compress3_8 : decode jdk_52_method_16_code 8 = .ok (.iload_n 2, 1) := by decide +kernel
theorem d_compress3_9 : decode jdk_52_method_16_code 9 = .ok (.invokestatic 115, 3) := by decide +kernel
theorem d_compress3_12 : decode jdk_52_method_16_code 12 = .ok (.istore 4, 2) := by decide +kernel
theorem d_compress3_14 : decode jdk_52_method_16_code 14 = .ok (.iload 4, 2) := by decide +kernel
theorem d_compress3_16 : decode jdk_52_method_16_code 16 = .ok (.iload_n 2, 1) := by decide +kernel
theorem d_compress3_17 : decode jdk_52_method_16_code 17 = .ok (.if_icmp .eq 40, 3) := by decide +kernel
theorem d_compress3_57 : decode jdk_52_method_16_code 57 = .ok (.aload_n 3, 1) := by decide +kernel
theorem d_compress3_58 : decode jdk_52_method_16_code 58 = .ok (.areturn, 1) := by decide +kernel
abbrev rm_compress3 : Room := ({ frames := 1, cells := 1, slots := 63, locals := 18 } : Room)
def Q_compress3 (Z : State) (b : Addr) (kC : ClassId) (cs : List Int32) (dv : Value) (h0 : Heap) (v : Option Value) (h : Heap) : Prop := ∃ t kb, v = some (.ref t) ∧ Keep h0 h [] ∧ h0.size ≤ t ∧ ((∀ c ∈ cs, ¬ (255 : Int32) < c) ∧ Arv Z h t kb .byte (Int32.ofNat cs.length) (cs.map lo8) (.int (0 : Int32)))
set_option maxRecDepth 65536 in
set_option maxHeartbeats 40000000 in
theorem ct_compress3 (l : Launch) (Z : State) (a0 : Array Value) (hw : ∀ d ∈ tables_1, d.before a0 Z = true) (G1 : Int32) (G3 : Value) (OS : Sts Z G1 G3) (b : Addr) (kC : ClassId) (cs : List Int32) (dv : Value) {h0 : Heap} (O : Ext Z.heap h0) (hmx : cs.length ≤ 63) (hmx4 : cs.length ≤ 4000) (hp : ∀ c ∈ cs, ¬ (255 : Int32) < c) (V0 : Arv Z h0 b kC .char (Int32.ofNat cs.length) (cs.map Value.int) dv) : Ct l Z (⟨"java/lang/StringUTF16", "compress", "([CII)[B"⟩ : MethodName) jdk_52_method_16_code 6 (some (.array .byte)) rm_compress3 #[(.ref b), (.int (0 : Int32)), (.int (Int32.ofNat cs.length))] h0 (Q_compress3 Z b kC cs dv h0) := by
  refine Ct.of_body (Ls := #[.val (.ref b), .val (.int (0 : Int32)), .val (.int (Int32.ofNat cs.length)), .unset, .unset, .unset]) (by decide +kernel) O (fun m => by first | rfl | (simp [entryFrame, mkF, argsToLocals, Value.category]; done) | (rcases ref_cases (Sts.ref OS) with rfl | ⟨r, rfl⟩ <;> rfl)) ?_
  intro p e s m below meth c T0 X0 e0
  subst e0
  have K00 := Keep.refl T0.heap []
  refine E_iloadN X0 d_compress3_0 rfl (pc' := 1) rfl ?_
  refine E_newarray X0 63 d_compress3_1 (hw _ (List.mem_of_getElem? (i := 27) rfl)) (o_nn (by omega)) (by rw [o_cl (by omega)]; exact hmx) (by decide) (by decide) (by decide) (pc' := 3) rfl ?_
  intro T1 b3 k7 X2 hb4 K5 V6
  have sz8 : T0.heap.size ≤ b3 := Nat.le_trans K00.1 (Nat.le_of_eq hb4.symm)
  have ne9 : b ≠ b3 := Nat.ne_of_lt (Nat.lt_of_lt_of_eq V0.lt hb4.symm)
  have KK10 := K00.trans K5 (fun x q => nomatch q)
  have Arv_11 := V0.keep K5 nin0
  have g12 : Z.heap.size ≤ b3 := Nat.le_trans X0.le (Nat.le_of_eq hb4.symm)
  have V13 : Arv Z T1.heap b3 k7 .byte (Int32.ofNat cs.length) [] (.int (0 : Int32)) := V6
  refine E_astoreN X2 d_compress3_3 rfl (l' := #[.val (.ref b), .val (.int (0 : Int32)), .val (.int (Int32.ofNat cs.length)), .val (.ref b3), .unset, .unset]) rfl (pc' := 4) rfl ?_
  refine E_aloadN X2 d_compress3_4 rfl rfl (pc' := 5) rfl ?_
  refine E_iloadN X2 d_compress3_5 rfl (pc' := 6) rfl ?_
  refine E_aloadN X2 d_compress3_6 rfl rfl (pc' := 7) rfl ?_
  refine E_iconst X2 (v := (0 : Int32)) d_compress3_7 rfl (pc' := 8) rfl ?_
  refine E_iloadN X2 d_compress3_8 rfl (pc' := 9) rfl ?_
  refine E_static X2 (rm := rm_compress5) d_compress3_9 (hw _ (List.mem_of_getElem? (i := 28) rfl)) (hw _ (List.mem_of_getElem? (i := 29) rfl)) (hw _ (List.mem_of_getElem? (i := 25) rfl)) (hw _ (List.mem_of_getElem? (i := 30) rfl)) (by decide) (argsL := [(.ref b), (.int (0 : Int32)), (.ref b3), (.int (0 : Int32)), (.int (Int32.ofNat cs.length))]) (st := []) rfl (ct_compress5 l Z a0 hw G1 G3 OS b b3 kC k7 cs dv X2.old hmx4 Arv_11 V13 ne9 g12) (lenOf (pd_5) rfl) rfl (by decide) (by decide) (by decide) (Nat.le_of_ble_eq_true rfl) (pc' := 12) rfl ?_
  intro T14 _ X15 hQ16
  obtain ⟨K17, hor⟩ := hQ16
  have KK18 := KK10.trans K17 (allS (Or.inr sz8) (fun x q => nomatch q))
  have Arv_19 := Arv_11.keep K17 (ninS ne9 nin0)
  rcases hor with ⟨rfl, hall, VB⟩ | ⟨j, hj, rfl, hbig⟩
  · skip
    show Ends p e below s Z _ _ _ T14 (mkF m 12 #[.val (.ref b), .val (.int (0 : Int32)), .val (.int (Int32.ofNat cs.length)), .val (.ref b3), .unset, .unset] [(.int (Int32.ofNat cs.length))])
    refine E_istore X15 d_compress3_12 (l' := #[.val (.ref b), .val (.int (0 : Int32)), .val (.int (Int32.ofNat cs.length)), .val (.ref b3), .val (.int (Int32.ofNat cs.length)), .unset]) rfl (pc' := 14) rfl ?_
    refine E_iload X15 d_compress3_14 rfl (pc' := 16) rfl ?_
    refine E_iloadN X15 d_compress3_16 rfl (pc' := 17) rfl ?_
    refine E_icT X15 d_compress3_17 (XT.ii_eq_t rfl) (pc' := 57) (by decide) rfl ?_
    refine E_aloadN X15 d_compress3_57 rfl rfl (pc' := 58) rfl ?_
    exact E_areturn X15 (t := (.array .byte)) d_compress3_58 rfl rfl rfl rfl (by decide) (by decide) (⟨b3, k7, rfl, KK18, sz8, ⟨hall, VB⟩⟩)
  · skip
    exact absurd hbig (hp _ (own_mem hj))
theorem d_init4_0 : decode jdk_42_method_149_code 0 = .ok (.aload_n 0, 1) := by decide +kernel
theorem d_init4_1 : decode jdk_42_method_149_code 1 = .ok (.invokespecial 1, 3) := by decide +kernel
theorem d_init4_4 : decode jdk_42_method_149_code 4 = .ok (.iload_n 3, 1) := by decide +kernel
theorem d_init4_5 : decode jdk_42_method_149_code 5 = .ok (.ifCond .ne 22, 3) := by decide +kernel
theorem d_init4_27 : decode jdk_42_method_149_code 27 = .ok (.getstatic 38, 3) := by decide +kernel
theorem d_init4_30 : decode jdk_42_method_149_code 30 = .ok (.ifCond .eq 28, 3) := by decide +kernel
theorem d_init4_33 : decode jdk_42_method_149_code 33 = .ok (.aload_n 1, 1) := by decide +kernel
theorem d_init4_34 : decode jdk_42_method_149_code 34 = .ok (.iload_n 2, 1) := by decide +kernel
theorem d_init4_35 : decode jdk_42_method_149_code 35 = .ok (.iload_n 3, 1) := by decide +kernel
theorem d_init4_36 : decode jdk_42_method_149_code 36 = .ok (.invokestatic 177, 3) := by decide +kernel
theorem d_init4_39 : decode jdk_42_method_149_code 39 = .ok (.astore 5, 2) := by decide +kernel
theorem d_init4_41 : decode jdk_42_method_149_code 41 = .ok (.aload_n 0, 1) := by decide +kernel
theorem d_init4_42 : decode jdk_42_method_149_code 42 = .ok (.aload 5, 2) := by decide +kernel
theorem d_init4_44 : decode jdk_42_method_149_code 44 = .ok (.iload_n 3, 1) := by decide +kernel
theorem d_init4_45 : decode jdk_42_method_149_code 45 = .ok (.invokestatic 47, 3) := by decide +kernel
theorem d_init4_48 : decode jdk_42_method_149_code 48 = .ok (.putfield 15, 3) := by decide +kernel
theorem d_init4_51 : decode jdk_42_method_149_code 51 = .ok (.aload_n 0, 1) := by decide +kernel
theorem d_init4_52 : decode jdk_42_method_149_code 52 = .ok (.aload 5, 2) := by decide +kernel
theorem d_init4_54 : decode jdk_42_method_149_code 54 = .ok (.putfield 9, 3) := by decide +kernel
theorem d_init4_57 : decode jdk_42_method_149_code 57 = .ok (.return_, 1) := by decide +kernel
abbrev rm_init4 : Room := ({ frames := 2, cells := 1, slots := 63, locals := 35 } : Room)
def Q_init4 (Z : State) (x b : Addr) (kC : ClassId) (cs : List Int32) (dv v0 c0 : Value) (h0 : Heap) (v : Option Value) (h : Heap) : Prop := v = none ∧ Keep h0 h [x] ∧ ∃ t, h0.size ≤ t ∧ OStr Z h x t cs
set_option maxRecDepth 65536 in
set_option maxHeartbeats 40000000 in
theorem ct_init4 (l : Launch) (Z : State) (a0 : Array Value) (hw : ∀ d ∈ tables_1, d.before a0 Z = true) (G1 : Int32) (G3 : Value) (OS : Sts Z G1 G3) (x b : Addr) (kC : ClassId) (cs : List Int32) (dv v0 c0 : Value) {h0 : Heap} (O : Ext Z.heap h0) (h0l : 0 < cs.length) (hmx : cs.length ≤ 63) (hp : ∀ c ∈ cs, ¬ c < 0 ∧ ¬ (255 : Int32) < c) (E0 : Exa Z h0 x "java/lang/String") (F0 : Fld Z h0 x "java/lang/String" "value" "[B" v0) (C0 : Fld Z h0 x "java/lang/String" "coder" "B" c0) (gx : Z.heap.size ≤ x) (V0 : Arv Z h0 b kC .char (Int32.ofNat cs.length) (cs.map Value.int) dv) : Ct l Z (⟨"java/lang/String", "<init>", "([CIILjava/lang/Void;)V"⟩ : MethodName) jdk_42_method_149_code 6 none rm_init4 #[(.ref x), (.ref b), (.int (0 : Int32)), (.int (Int32.ofNat cs.length)), .null] h0 (Q_init4 Z x b kC cs dv v0 c0 h0) := by
  refine Ct.of_body (Ls := #[.val (.ref x), .val (.ref b), .val (.int (0 : Int32)), .val (.int (Int32.ofNat cs.length)), .val .null, .unset]) (by decide +kernel) O (fun m => by first | rfl | (simp [entryFrame, mkF, argsToLocals, Value.category]; done) | (rcases ref_cases (Sts.ref OS) with rfl | ⟨r, rfl⟩ <;> rfl)) ?_
  intro p e s m below meth c T0 X0 e0
  subst e0
  have hmx4 : cs.length ≤ 4000 := by omega
  have hxb : b ≠ x := fun q => by subst q; exact absurd rfl (ne_arr E0 (hw _ (List.mem_of_getElem? (i := 10) rfl)) (V0.choose_spec.1))
  have K00 := Keep.refl T0.heap [x]
  refine E_aloadN X0 d_init4_0 rfl rfl (pc' := 1) rfl ?_
  refine E_initO X0 d_init4_1 (hw _ (List.mem_of_getElem? (i := 19) rfl)) (hw _ (List.mem_of_getElem? (i := 20) rfl)) (hw _ (List.mem_of_getElem? (i := 21) rfl)) rfl (by decide) (Nat.le_of_ble_eq_true rfl) (pc' := 4) rfl ?_
  intro T1 X2 e3
  have KK4 := own_keq K00 e3
  rw [← e3] at E0 F0 C0 V0
  refine E_iloadN X2 d_init4_4 rfl (pc' := 5) rfl ?_
  refine E_ifT X2 d_init4_5 (XT.i0_ne_t (fun q => by have q2 := congrArg Int32.toInt q; rw [o_int (by omega)] at q2; have o1 : (0 : Int32).toInt = 0 := rfl; omega)) (pc' := 27) (by decide) rfl ?_
  refine E_getstatic X2 d_init4_27 (hw _ (List.mem_of_getElem? (i := 22) rfl)) Via.refl OS.1 (pc' := 30) rfl ?_
  intro T5 X6 e7
  have KK8 := own_keq KK4 e7
  rw [← e7] at E0 F0 C0 V0
  refine E_ifF X6 d_init4_30 (XT.i0_eq_f OS.2.1) (pc' := 33) rfl ?_
  refine E_aloadN X6 d_init4_33 rfl rfl (pc' := 34) rfl ?_
  refine E_iloadN X6 d_init4_34 rfl (pc' := 35) rfl ?_
  refine E_iloadN X6 d_init4_35 rfl (pc' := 36) rfl ?_
  refine E_static X6 (rm := rm_compress3) d_init4_36 (hw _ (List.mem_of_getElem? (i := 23) rfl)) (hw _ (List.mem_of_getElem? (i := 24) rfl)) (hw _ (List.mem_of_getElem? (i := 25) rfl)) (hw _ (List.mem_of_getElem? (i := 26) rfl)) (by decide) (argsL := [(.ref b), (.int (0 : Int32)), (.int (Int32.ofNat cs.length))]) (st := []) rfl (ct_compress3 l Z a0 hw G1 G3 OS b kC cs dv X6.old hmx hmx4 (fun c hc => (hp c hc).2) V0) (lenOf (pd_6) rfl) rfl (by decide) (by decide) (by decide) (Nat.le_of_ble_eq_true rfl) (pc' := 39) rfl ?_
  intro T9 _ X10 hQ11
  obtain ⟨t, kb, rfl, K12, szt0, hVT⟩ := hQ11
  have hxt : t ≠ x := Ne.symm (Nat.ne_of_lt (Nat.lt_of_lt_of_le E0.lt szt0))
  have KK13 := KK8.trans K12 (fun x q => nomatch q)
  have Exa_14 := E0.keep K12
  have Fld_15 := F0.keep K12 nin0
  have Fld_16 := C0.keep K12 nin0
  have Arv_17 := V0.keep K12 nin0
  have szt : T0.heap.size ≤ t := Nat.le_trans KK8.1 szt0
  obtain ⟨hall, VT⟩ := hVT
  show Ends p e below s Z _ _ _ T9 (mkF m 39 #[.val (.ref x), .val (.ref b), .val (.int (0 : Int32)), .val (.int (Int32.ofNat cs.length)), .val .null, .unset] [(.ref t)])
  refine E_astore X10 d_init4_39 rfl (l' := #[.val (.ref x), .val (.ref b), .val (.int (0 : Int32)), .val (.int (Int32.ofNat cs.length)), .val .null, .val (.ref t)]) rfl (pc' := 41) rfl ?_
  refine E_aloadN X10 d_init4_41 rfl rfl (pc' := 42) rfl ?_
  refine E_aload X10 d_init4_42 rfl rfl (pc' := 44) rfl ?_
  refine E_iloadN X10 d_init4_44 rfl (pc' := 45) rfl ?_
  refine E_static X10 (rm := rm_cfl) d_init4_45 (hw _ (List.mem_of_getElem? (i := 31) rfl)) (hw _ (List.mem_of_getElem? (i := 32) rfl)) (hw _ (List.mem_of_getElem? (i := 25) rfl)) (hw _ (List.mem_of_getElem? (i := 33) rfl)) (by decide) (argsL := [(.ref t), (.int (Int32.ofNat cs.length))]) (st := [(.ref x)]) rfl (ct_cfl l Z a0 hw G1 G3 OS t kb (Int32.ofNat cs.length) (Int32.ofNat cs.length) 0 (cs.map lo8) X10.old VT (by rw [Int32.sub_self]; rfl)) (lenOf (pd_7) rfl) rfl (by decide) (by decide) (by decide) (Nat.le_of_ble_eq_true rfl) (pc' := 48) rfl ?_
  intro T18 _ X19 hQ20
  obtain ⟨rfl, e21⟩ := hQ20
  have KK22 := own_keq KK13 e21
  rw [← e21] at Exa_14 Fld_15 Fld_16 Arv_17 VT
  show Ends p e below s Z _ _ _ T18 (mkF m 48 #[.val (.ref x), .val (.ref b), .val (.int (0 : Int32)), .val (.int (Int32.ofNat cs.length)), .val .null, .val (.ref t)] [(.int (0 : Int32)), (.ref x)])
  refine E_putfield X19 (ty := .byte) d_init4_48 (hw _ (List.mem_of_getElem? (i := 34) rfl)) Via.refl Fld_16 Exa_14 (Or.inr ⟨(hw _ (List.mem_of_getElem? (i := 35) rfl)), rfl, rfl⟩) (hw _ (List.mem_of_getElem? (i := 10) rfl)) (by decide) rfl rfl gx (pc' := 51) rfl ?_
  intro T23 X24 W25
  have K26 := Keep.of_wr W25
  have KK27 := KK22.trans K26 (allS (Or.inl (by simp)) (fun x q => nomatch q))
  have Exa_28 := Exa_14.keep K26
  have Arv_29 := Arv_17.keep K26 (ninS hxb nin0)
  have Arv_30 := VT.keep K26 (ninS hxt nin0)
  have F31 := Fld_16.same W25
  have F32 := Fld_15.other W25 (Or.inr (slot_ne (Or.inr (hw _ (List.mem_of_getElem? (i := 37) rfl))) (Or.inr (hw _ (List.mem_of_getElem? (i := 35) rfl))) (by decide) (t := (.array .byte)) (t' := .byte) (by decide) (by decide)))
  refine E_aloadN X24 d_init4_51 rfl rfl (pc' := 52) rfl ?_
  refine E_aload X24 d_init4_52 rfl rfl (pc' := 54) rfl ?_
  refine E_putfield X24 (ty := (.array .byte)) d_init4_54 (hw _ (List.mem_of_getElem? (i := 36) rfl)) Via.refl F32 Exa_28 (Or.inr ⟨(hw _ (List.mem_of_getElem? (i := 37) rfl)), rfl, rfl⟩) (hw _ (List.mem_of_getElem? (i := 10) rfl)) (by decide) rfl rfl gx (pc' := 57) rfl ?_
  intro T33 X34 W35
  have K36 := Keep.of_wr W35
  have KK37 := KK27.trans K36 (allS (Or.inl (by simp)) (fun x q => nomatch q))
  have Exa_38 := Exa_28.keep K36
  have Arv_39 := Arv_29.keep K36 (ninS hxb nin0)
  have Arv_40 := Arv_30.keep K36 (ninS hxt nin0)
  have F41 := F32.same W35
  have F42 := F31.other W35 (Or.inr (slot_ne (Or.inr (hw _ (List.mem_of_getElem? (i := 35) rfl))) (Or.inr (hw _ (List.mem_of_getElem? (i := 37) rfl))) (by decide) (t := .byte) (t' := (.array .byte)) (by decide) (by decide)))
  exact E_return X34 d_init4_57 rfl (by decide) (by decide) (⟨rfl, KK37, t, szt, kb, _, _, _, Exa_38, F41, F42, Arv_40, ⟨rfl, rfl, rfl, hall⟩, fun c hc => ⟨(hp c hc).1, fun q => (hp c hc).2 (Int32.lt_trans (by decide) q)⟩, hmx4⟩)
theorem d_sinit_0 : decode jdk_42_method_3_code 0 = .ok (.aload_n 0, 1) := by decide +kernel
theorem d_sinit_1 : decode jdk_42_method_3_code 1 = .ok (.aload_n 1, 1) := by decide +kernel
theorem d_sinit_2 : decode jdk_42_method_3_code 2 = .ok (.iconst 0, 1) := by decide +kernel
theorem d_sinit_3 : decode jdk_42_method_3_code 3 = .ok (.aload_n 1, 1) := by decide +kernel
theorem d_sinit_4 : decode jdk_42_method_3_code 4 = .ok (.arraylength, 1) := by decide +kernel
theorem d_sinit_5 : decode jdk_42_method_3_code 5 = .ok (.aconst_null, 1) := by decide +kernel
theorem d_sinit_6 : decode jdk_42_method_3_code 6 = .ok (.invokespecial 27, 3) := by decide +kernel
theorem d_sinit_9 : decode jdk_42_method_3_code 9 = .ok (.return_, 1) := by decide +kernel
abbrev rm_sinit : Room := ({ frames := 3, cells := 1, slots := 63, locals := 52 } : Room)
def Q_sinit (Z : State) (x b : Addr) (kC : ClassId) (cs : List Int32) (dv v0 c0 : Value) (h0 : Heap) (v : Option Value) (h : Heap) : Prop := v = none ∧ Keep h0 h [x] ∧ ∃ t, h0.size ≤ t ∧ OStr Z h x t cs
set_option maxRecDepth 65536 in
set_option maxHeartbeats 40000000 in
theorem ct_sinit (l : Launch) (Z : State) (a0 : Array Value) (hw : ∀ d ∈ tables_1, d.before a0 Z = true) (G1 : Int32) (G3 : Value) (OS : Sts Z G1 G3) (x b : Addr) (kC : ClassId) (cs : List Int32) (dv v0 c0 : Value) {h0 : Heap} (O : Ext Z.heap h0) (h0l : 0 < cs.length) (hmx : cs.length ≤ 63) (hp : ∀ c ∈ cs, ¬ c < 0 ∧ ¬ (255 : Int32) < c) (E0 : Exa Z h0 x "java/lang/String") (F0 : Fld Z h0 x "java/lang/String" "value" "[B" v0) (C0 : Fld Z h0 x "java/lang/String" "coder" "B" c0) (gx : Z.heap.size ≤ x) (V0 : Arv Z h0 b kC .char (Int32.ofNat cs.length) (cs.map Value.int) dv) : Ct l Z (⟨"java/lang/String", "<init>", "([C)V"⟩ : MethodName) jdk_42_method_3_code 2 none rm_sinit #[(.ref x), (.ref b)] h0 (Q_sinit Z x b kC cs dv v0 c0 h0) := by
  refine Ct.of_body (Ls := #[.val (.ref x), .val (.ref b)]) (by decide +kernel) O (fun m => by first | rfl | (simp [entryFrame, mkF, argsToLocals, Value.category]; done) | (rcases ref_cases (Sts.ref OS) with rfl | ⟨r, rfl⟩ <;> rfl)) ?_
  intro p e s m below meth c T0 X0 e0
  subst e0
  refine E_aloadN X0 d_sinit_0 rfl rfl (pc' := 1) rfl ?_
  refine E_aloadN X0 d_sinit_1 rfl rfl (pc' := 2) rfl ?_
  refine E_iconst X0 (v := (0 : Int32)) d_sinit_2 rfl (pc' := 3) rfl ?_
  refine E_aloadN X0 d_sinit_3 rfl rfl (pc' := 4) rfl ?_
  refine E_arraylength X0 d_sinit_4 V0 (pc' := 5) rfl ?_
  refine E_aconstNull X0 d_sinit_5 (pc' := 6) rfl ?_
  refine E_special X0 (rm := rm_init4) (a := x) d_sinit_6 rfl rfl (hw _ (List.mem_of_getElem? (i := 15) rfl)) (hw _ (List.mem_of_getElem? (i := 16) rfl)) (hw _ (List.mem_of_getElem? (i := 18) rfl)) (by decide) (hw _ (List.mem_of_getElem? (i := 11) rfl)) (argsL := [(.ref b), (.int (0 : Int32)), (.int (Int32.ofNat cs.length)), .null]) (st := []) rfl (ct_init4 l Z a0 hw G1 G3 OS x b kC cs dv v0 c0 X0.old h0l hmx hp E0 F0 C0 gx V0) (lenOf (pd_8) rfl) rfl (by decide) (by decide) (by decide) (Nat.le_of_ble_eq_true rfl) (pc' := 9) rfl ?_
  intro T1 _ X2 hQ3
  obtain ⟨rfl, KF, t, szt, SF⟩ := hQ3
  show Ends p e below s Z _ _ _ T1 (mkF m 9 #[.val (.ref x), .val (.ref b)] [])
  exact E_return X2 d_sinit_9 rfl (by decide) (by decide) (⟨rfl, KF, t, szt, SF⟩)
def Ltr (c : Int32) : Prop := (¬ c < 97 ∧ ¬ 122 < c) ∨ c = 95
def Rst (c : Int32) : Prop := Ltr c ∨ (¬ c < 48 ∧ ¬ 57 < c)
theorem ltr_iff (c : Int32) : Ltr c ↔ (97 ≤ c.toInt ∧ c.toInt ≤ 122) ∨ c.toInt = 95 := by
  simp only [Ltr, Int32.lt_iff_toInt_lt, ← Int32.toInt_inj, Int32.reduceToInt]; omega
theorem rst_iff (c : Int32) : Rst c ↔ (97 ≤ c.toInt ∧ c.toInt ≤ 122) ∨ c.toInt = 95 ∨ (48 ≤ c.toInt ∧ c.toInt ≤ 57) := by
  simp only [Rst, ltr_iff, Int32.lt_iff_toInt_lt, Int32.reduceToInt]; omega
theorem rst_ch {c : Int32} (h : Rst c) : ¬ c < 0 ∧ ¬ (255 : Int32) < c := by
  rw [rst_iff] at h; simp only [Int32.lt_iff_toInt_lt, Int32.reduceToInt]; omega
theorem rst_nar {c : Int32} (h : Rst c) : nar .char c = c := o_nar (rst_ch h).1 fun q => (rst_ch h).2 (Int32.lt_trans (by decide) q)
theorem own_i {m : Int32} {d : Int} (x : Int32) (hm : m.toInt = d) (hd : 0 < d) : 0 ≤ ((x &&& (2147483647 : Int32)) % m).toInt ∧ ((x &&& (2147483647 : Int32)) % m).toInt < d := by
  have e1 := c_and x (2147483647 : Int32) (by decide)
  have e2 := (c_irem (x &&& (2147483647 : Int32)) m d hm).1 e1.1
  rw [e2]; exact ⟨Int.emod_nonneg _ (by omega), Int.emod_lt_of_pos _ hd⟩
theorem ch_of {z : Int32} (a : Int) (e : (z.toInt - a) % 4294967296 = 0) (h : 0 ≤ a ∧ a ≤ 255) : (nar .char z.toUInt32.toUInt16.toUInt32.toInt32).toInt = a := by
  have r := rng32 z
  have ez : z.toInt = a := by omega
  have b1 : ¬ z < 0 := by rw [Int32.lt_iff_toInt_lt, ez]; show ¬ a < 0; omega
  have b2 : ¬ (65535 : Int32) < z := by rw [Int32.lt_iff_toInt_lt, ez]; show ¬ (65535 : Int) < a; omega
  rw [o_i2c b1 b2, o_nar b1 b2, ez]
theorem ltr_lo {i : Int32} (h : 0 ≤ i.toInt) (h2 : i < 26) : Ltr (nar .char ((97 : Int32) + i).toUInt32.toUInt16.toUInt32.toInt32) := by
  have e := c_iadd 97 i
  simp only [Int32.lt_iff_toInt_lt, Int32.reduceToInt] at h2 e
  rw [ltr_iff, ch_of (97 + i.toInt) e (by omega)]; omega
theorem rst_di {i : Int32} (h1 : ¬ i < 26) (h2 : i < 36) : Rst (nar .char ((48 : Int32) + (i - (26 : Int32))).toUInt32.toUInt16.toUInt32.toInt32) := by
  have e := c_iadd 48 (i - 26); have f := c_isub i 26
  simp only [Int32.lt_iff_toInt_lt, Int32.reduceToInt] at h1 h2 e f
  rw [rst_iff, ch_of (48 + (i.toInt - 26)) (by omega) (by omega)]; omega
theorem allN {P : Int32 → Prop} : ∀ c ∈ ([] : List Int32), P c := fun _ q => nomatch q
theorem allC {P : Int32 → Prop} {a : Int32} {r : List Int32} (h : P a) (t : ∀ c ∈ r, P c) : ∀ c ∈ a :: r, P c := fun c q => (List.mem_cons.mp q).elim (fun u => u ▸ h) (t c)
theorem own_pos {i : Nat} (h : i ≠ 0) (h2 : i ≤ 4000) : (0 : Int32) < Int32.ofNat i := by
  rw [Int32.lt_iff_toInt_lt, o_int (by omega)]; show (0 : Int) < _; omega
theorem own_k5 (x : Int32) : (x &&& (2147483647 : Int32)) % (5 : Int32) = 0 ∨ (x &&& (2147483647 : Int32)) % (5 : Int32) = 1 ∨ (x &&& (2147483647 : Int32)) % (5 : Int32) = 2 ∨ (x &&& (2147483647 : Int32)) % (5 : Int32) = 3 ∨ (x &&& (2147483647 : Int32)) % (5 : Int32) = 4 := by
  have e := own_i (m := 5) (d := 5) x rfl (by decide)
  simp only [← Int32.toInt_inj, Int32.reduceToInt]; omega
theorem d_first_0 : decode method_2_code 0 = .ok (.iload_n 0, 1) := by decide +kernel
theorem d_first_1 : decode method_2_code 1 = .ok (.ldc 7, 2) := by decide +kernel
theorem d_first_3 : decode method_2_code 3 = .ok (.iand, 1) := by decide +kernel
theorem d_first_4 : decode method_2_code 4 = .ok (.bipush 27, 2) := by decide +kernel
theorem d_first_6 : decode method_2_code 6 = .ok (.irem, 1) := by decide +kernel
theorem d_first_7 : decode method_2_code 7 = .ok (.istore_n 1, 1) := by decide +kernel
theorem d_first_8 : decode method_2_code 8 = .ok (.iload_n 1, 1) := by decide +kernel
theorem d_first_9 : decode method_2_code 9 = .ok (.bipush 26, 2) := by decide +kernel
theorem d_first_11 : decode method_2_code 11 = .ok (.if_icmp .ge 9, 3) := by decide +kernel
theorem d_first_14 : decode method_2_code 14 = .ok (.bipush 97, 2) := by decide +kernel
theorem d_first_16 : decode method_2_code 16 = .ok (.iload_n 1, 1) := by decide +kernel
theorem d_first_17 : decode method_2_code 17 = .ok (.iadd, 1) := by decide +kernel
theorem d_first_18 : decode method_2_code 18 = .ok (.i2c, 1) := by decide +kernel
theorem d_first_19 : decode method_2_code 19 = .ok (.ireturn, 1) := by decide +kernel
theorem d_first_20 : decode method_2_code 20 = .ok (.bipush 95, 2) := by decide +kernel
theorem d_first_22 : decode method_2_code 22 = .ok (.ireturn, 1) := by decide +kernel
abbrev rm_first : Room := ({ frames := 0, cells := 0, slots := 0, locals := 0 } : Room)
def Q_first (Z : State) (p0 : Int32) (h0 : Heap) (v : Option Value) (h : Heap) : Prop := ∃ z, v = some (.int z) ∧ h = h0 ∧ Ltr z
set_option maxRecDepth 65536 in
set_option maxHeartbeats 40000000 in
theorem ct_first (l : Launch) (Z : State) (a0 : Array Value) (hw : ∀ d ∈ tables_1, d.before a0 Z = true) (G1 : Int32) (G3 : Value) (OS : Sts Z G1 G3) (p0 : Int32) {h0 : Heap} (O : Ext Z.heap h0)  : Ct l Z (⟨"com/example/bedrock_dispatch/bedrockdispatch/SchemaRequireNamePinLaw", "first", "(I)C"⟩ : MethodName) method_2_code 2 (some .char) rm_first #[(.int p0)] h0 (Q_first Z p0 h0) := by
  refine Ct.of_body (Ls := #[.val (.int p0), .unset]) (by decide +kernel) O (fun m => by first | rfl | (simp [entryFrame, mkF, argsToLocals, Value.category]; done) | (rcases ref_cases (Sts.ref OS) with rfl | ⟨r, rfl⟩ <;> rfl)) ?_
  intro p e s m below meth c T0 X0 e0
  subst e0
  obtain ⟨i, hi⟩ : ∃ i, i = (p0 &&& (2147483647 : Int32)) % (27 : Int32) := ⟨_, rfl⟩
  have hr := own_i (m := 27) (d := 27) p0 rfl (by decide)
  rw [← hi] at hr
  refine E_iloadN X0 d_first_0 rfl (pc' := 1) rfl ?_
  refine E_ldcI X0 (v := (2147483647 : Int32)) d_first_1 (hw _ (List.mem_of_getElem? (i := 4) rfl)) (pc' := 3) rfl ?_
  refine E_iand X0 d_first_3 rfl (pc' := 4) rfl ?_
  refine E_bipush X0 (v := (27 : Int32)) d_first_4 rfl (pc' := 6) rfl ?_
  refine E_irem X0 (v := i) d_first_6 (by decide) hi.symm (pc' := 7) rfl ?_
  refine E_istoreN X0 d_first_7 (l' := #[.val (.int p0), .val (.int i)]) rfl (pc' := 8) rfl ?_
  refine E_iloadN X0 d_first_8 rfl (pc' := 9) rfl ?_
  refine E_bipush X0 (v := (26 : Int32)) d_first_9 rfl (pc' := 11) rfl ?_
  by_cases hc11 : i < (26 : Int32)
  · skip
    refine E_icF X0 d_first_11 (XT.ii_ge_f hc11) (pc' := 14) rfl ?_
    refine E_bipush X0 (v := (97 : Int32)) d_first_14 rfl (pc' := 16) rfl ?_
    refine E_iloadN X0 d_first_16 rfl (pc' := 17) rfl ?_
    refine E_iadd X0 d_first_17 rfl (pc' := 18) rfl ?_
    refine E_i2c X0 d_first_18 rfl (pc' := 19) rfl ?_
    exact E_ireturnN X0 (t := .char) d_first_19 rfl (by simp) (by decide) (by decide) (⟨_, rfl, rfl, ltr_lo hr.1 hc11⟩)
  · skip
    refine E_icT X0 d_first_11 (XT.ii_ge_t hc11) (pc' := 20) (by decide) rfl ?_
    refine E_bipush X0 (v := (95 : Int32)) d_first_20 rfl (pc' := 22) rfl ?_
    exact E_ireturnN X0 (t := .char) d_first_22 rfl (by simp) (by decide) (by decide) (⟨_, rfl, rfl, Or.inr rfl⟩)
theorem d_rest_0 : decode method_3_code 0 = .ok (.iload_n 0, 1) := by decide +kernel
theorem d_rest_1 : decode method_3_code 1 = .ok (.ldc 7, 2) := by decide +kernel
theorem d_rest_3 : decode method_3_code 3 = .ok (.iand, 1) := by decide +kernel
theorem d_rest_4 : decode method_3_code 4 = .ok (.bipush 37, 2) := by decide +kernel
theorem d_rest_6 : decode method_3_code 6 = .ok (.irem, 1) := by decide +kernel
theorem d_rest_7 : decode method_3_code 7 = .ok (.istore_n 1, 1) := by decide +kernel
theorem d_rest_8 : decode method_3_code 8 = .ok (.iload_n 1, 1) := by decide +kernel
theorem d_rest_9 : decode method_3_code 9 = .ok (.bipush 26, 2) := by decide +kernel
theorem d_rest_11 : decode method_3_code 11 = .ok (.if_icmp .ge 9, 3) := by decide +kernel
theorem d_rest_14 : decode method_3_code 14 = .ok (.bipush 97, 2) := by decide +kernel
theorem d_rest_16 : decode method_3_code 16 = .ok (.iload_n 1, 1) := by decide +kernel
theorem d_rest_17 : decode method_3_code 17 = .ok (.iadd, 1) := by decide +kernel
theorem d_rest_18 : decode method_3_code 18 = .ok (.i2c, 1) := by decide +kernel
theorem d_rest_19 : decode method_3_code 19 = .ok (.ireturn, 1) := by decide +kernel
theorem d_rest_20 : decode method_3_code 20 = .ok (.iload_n 1, 1) := by decide +kernel
theorem d_rest_21 : decode method_3_code 21 = .ok (.bipush 36, 2) := by decide +kernel
theorem d_rest_23 : decode method_3_code 23 = .ok (.if_icmp .ge 12, 3) := by decide +kernel
theorem d_rest_26 : decode method_3_code 26 = .ok (.bipush 48, 2) := by decide +kernel
theorem d_rest_28 : decode method_3_code 28 = .ok (.iload_n 1, 1) := by decide +kernel
theorem d_rest_29 : decode method_3_code 29 = .ok (.bipush 26, 2) := by decide +kernel
theorem d_rest_31 : decode method_3_code 31 = .ok (.isub, 1) := by decide +kernel
theorem d_rest_32 : decode method_3_code 32 = .ok (.iadd, 1) := by decide +kernel
theorem d_rest_33 : decode method_3_code 33 = .ok (.i2c, 1) := by decide +kernel
theorem d_rest_34 : decode method_3_code 34 = .ok (.ireturn, 1) := by decide +kernel
theorem d_rest_35 : decode method_3_code 35 = .ok (.bipush 95, 2) := by decide +kernel
theorem d_rest_37 : decode method_3_code 37 = .ok (.ireturn, 1) := by decide +kernel
abbrev rm_rest : Room := ({ frames := 0, cells := 0, slots := 0, locals := 0 } : Room)
def Q_rest (Z : State) (p0 : Int32) (h0 : Heap) (v : Option Value) (h : Heap) : Prop := ∃ z, v = some (.int z) ∧ h = h0 ∧ Rst z
set_option maxRecDepth 65536 in
set_option maxHeartbeats 40000000 in
theorem ct_rest (l : Launch) (Z : State) (a0 : Array Value) (hw : ∀ d ∈ tables_1, d.before a0 Z = true) (G1 : Int32) (G3 : Value) (OS : Sts Z G1 G3) (p0 : Int32) {h0 : Heap} (O : Ext Z.heap h0)  : Ct l Z (⟨"com/example/bedrock_dispatch/bedrockdispatch/SchemaRequireNamePinLaw", "rest", "(I)C"⟩ : MethodName) method_3_code 2 (some .char) rm_rest #[(.int p0)] h0 (Q_rest Z p0 h0) := by
  refine Ct.of_body (Ls := #[.val (.int p0), .unset]) (by decide +kernel) O (fun m => by first | rfl | (simp [entryFrame, mkF, argsToLocals, Value.category]; done) | (rcases ref_cases (Sts.ref OS) with rfl | ⟨r, rfl⟩ <;> rfl)) ?_
  intro p e s m below meth c T0 X0 e0
  subst e0
  obtain ⟨i, hi⟩ : ∃ i, i = (p0 &&& (2147483647 : Int32)) % (37 : Int32) := ⟨_, rfl⟩
  have hr := own_i (m := 37) (d := 37) p0 rfl (by decide)
  rw [← hi] at hr
  refine E_iloadN X0 d_rest_0 rfl (pc' := 1) rfl ?_
  refine E_ldcI X0 (v := (2147483647 : Int32)) d_rest_1 (hw _ (List.mem_of_getElem? (i := 4) rfl)) (pc' := 3) rfl ?_
  refine E_iand X0 d_rest_3 rfl (pc' := 4) rfl ?_
  refine E_bipush X0 (v := (37 : Int32)) d_rest_4 rfl (pc' := 6) rfl ?_
  refine E_irem X0 (v := i) d_rest_6 (by decide) hi.symm (pc' := 7) rfl ?_
  refine E_istoreN X0 d_rest_7 (l' := #[.val (.int p0), .val (.int i)]) rfl (pc' := 8) rfl ?_
  refine E_iloadN X0 d_rest_8 rfl (pc' := 9) rfl ?_
  refine E_bipush X0 (v := (26 : Int32)) d_rest_9 rfl (pc' := 11) rfl ?_
  by_cases hc11 : i < (26 : Int32)
  · skip
    refine E_icF X0 d_rest_11 (XT.ii_ge_f hc11) (pc' := 14) rfl ?_
    refine E_bipush X0 (v := (97 : Int32)) d_rest_14 rfl (pc' := 16) rfl ?_
    refine E_iloadN X0 d_rest_16 rfl (pc' := 17) rfl ?_
    refine E_iadd X0 d_rest_17 rfl (pc' := 18) rfl ?_
    refine E_i2c X0 d_rest_18 rfl (pc' := 19) rfl ?_
    exact E_ireturnN X0 (t := .char) d_rest_19 rfl (by simp) (by decide) (by decide) (⟨_, rfl, rfl, Or.inl (ltr_lo hr.1 hc11)⟩)
  · skip
    refine E_icT X0 d_rest_11 (XT.ii_ge_t hc11) (pc' := 20) (by decide) rfl ?_
    refine E_iloadN X0 d_rest_20 rfl (pc' := 21) rfl ?_
    refine E_bipush X0 (v := (36 : Int32)) d_rest_21 rfl (pc' := 23) rfl ?_
    by_cases hc23 : i < (36 : Int32)
    · skip
      refine E_icF X0 d_rest_23 (XT.ii_ge_f hc23) (pc' := 26) rfl ?_
      refine E_bipush X0 (v := (48 : Int32)) d_rest_26 rfl (pc' := 28) rfl ?_
      refine E_iloadN X0 d_rest_28 rfl (pc' := 29) rfl ?_
      refine E_bipush X0 (v := (26 : Int32)) d_rest_29 rfl (pc' := 31) rfl ?_
      refine E_isub X0 d_rest_31 rfl (pc' := 32) rfl ?_
      refine E_iadd X0 d_rest_32 rfl (pc' := 33) rfl ?_
      refine E_i2c X0 d_rest_33 rfl (pc' := 34) rfl ?_
      exact E_ireturnN X0 (t := .char) d_rest_34 rfl (by simp) (by decide) (by decide) (⟨_, rfl, rfl, rst_di hc11 hc23⟩)
    · skip
      refine E_icT X0 d_rest_23 (XT.ii_ge_t hc23) (pc' := 35) (by decide) rfl ?_
      refine E_bipush X0 (v := (95 : Int32)) d_rest_35 rfl (pc' := 37) rfl ?_
      exact E_ireturnN X0 (t := .char) d_rest_37 rfl (by simp) (by decide) (by decide) (⟨_, rfl, rfl, Or.inl (Or.inr rfl)⟩)
theorem d_eqself_0 : decode jdk_42_method_66_code 0 = .ok (.aload_n 0, 1) := by decide +kernel
theorem d_eqself_1 : decode jdk_42_method_66_code 1 = .ok (.aload_n 1, 1) := by decide +kernel
theorem d_eqself_2 : decode jdk_42_method_66_code 2 = .ok (.if_acmp .ne 5, 3) := by decide +kernel
theorem d_eqself_5 : decode jdk_42_method_66_code 5 = .ok (.iconst 1, 1) := by decide +kernel
theorem d_eqself_6 : decode jdk_42_method_66_code 6 = .ok (.ireturn, 1) := by decide +kernel
abbrev rm_eqself : Room := ({ frames := 0, cells := 0, slots := 0, locals := 0 } : Room)
def Q_eqself (Z : State) (x : Addr) (h0 : Heap) (v : Option Value) (h : Heap) : Prop := v = some (.int 1) ∧ h = h0
set_option maxRecDepth 65536 in
set_option maxHeartbeats 40000000 in
theorem ct_eqself (l : Launch) (Z : State) (a0 : Array Value) (hw : ∀ d ∈ tables_1, d.before a0 Z = true) (G1 : Int32) (G3 : Value) (OS : Sts Z G1 G3) (x : Addr) {h0 : Heap} (O : Ext Z.heap h0)  : Ct l Z (⟨"java/lang/String", "equals", "(Ljava/lang/Object;)Z"⟩ : MethodName) jdk_42_method_66_code 3 (some .boolean) rm_eqself #[(.ref x), (.ref x)] h0 (Q_eqself Z x h0) := by
  refine Ct.of_body (Ls := #[.val (.ref x), .val (.ref x), .unset]) (by decide +kernel) O (fun m => by first | rfl | (simp [entryFrame, mkF, argsToLocals, Value.category]; done) | (rcases ref_cases (Sts.ref OS) with rfl | ⟨r, rfl⟩ <;> rfl)) ?_
  intro p e s m below meth c T0 X0 e0
  subst e0
  refine E_aloadN X0 d_eqself_0 rfl rfl (pc' := 1) rfl ?_
  refine E_aloadN X0 d_eqself_1 rfl rfl (pc' := 2) rfl ?_
  refine E_acmp X0 d_eqself_2 rfl rfl true (decide_eq_true rfl) (pc' := 5) (by decide) rfl ?_
  refine E_iconst X0 (v := (1 : Int32)) d_eqself_5 rfl (pc' := 6) rfl ?_
  exact E_ireturnN X0 (t := .boolean) d_eqself_6 rfl (by simp) (by decide) (by decide) (⟨rfl, rfl⟩)
theorem d_reqname_0 : decode prog_11_method_2_code 0 = .ok (.aload_n 0, 1) := by decide +kernel
theorem d_reqname_1 : decode prog_11_method_2_code 1 = .ok (.invokevirtual 7, 3) := by decide +kernel
theorem d_reqname_4 : decode prog_11_method_2_code 4 = .ok (.ifCond .ne 12, 3) := by decide +kernel
theorem d_reqname_7 : decode prog_11_method_2_code 7 = .ok (.aload_n 0, 1) := by decide +kernel
theorem d_reqname_8 : decode prog_11_method_2_code 8 = .ok (.invokevirtual 13, 3) := by decide +kernel
theorem d_reqname_11 : decode prog_11_method_2_code 11 = .ok (.bipush 63, 2) := by decide +kernel
theorem d_reqname_13 : decode prog_11_method_2_code 13 = .ok (.if_icmp .le 13, 3) := by decide +kernel
theorem d_reqname_26 : decode prog_11_method_2_code 26 = .ok (.iconst 0, 1) := by decide +kernel
theorem d_reqname_27 : decode prog_11_method_2_code 27 = .ok (.istore_n 1, 1) := by decide +kernel
theorem d_reqname_28 : decode prog_11_method_2_code 28 = .ok (.iload_n 1, 1) := by decide +kernel
theorem d_reqname_29 : decode prog_11_method_2_code 29 = .ok (.aload_n 0, 1) := by decide +kernel
theorem d_reqname_30 : decode prog_11_method_2_code 30 = .ok (.invokevirtual 13, 3) := by decide +kernel
theorem d_reqname_33 : decode prog_11_method_2_code 33 = .ok (.if_icmp .ge 73, 3) := by decide +kernel
theorem d_reqname_36 : decode prog_11_method_2_code 36 = .ok (.aload_n 0, 1) := by decide +kernel
theorem d_reqname_37 : decode prog_11_method_2_code 37 = .ok (.iload_n 1, 1) := by decide +kernel
theorem d_reqname_38 : decode prog_11_method_2_code 38 = .ok (.invokevirtual 26, 3) := by decide +kernel
theorem d_reqname_41 : decode prog_11_method_2_code 41 = .ok (.istore_n 2, 1) := by decide +kernel
theorem d_reqname_42 : decode prog_11_method_2_code 42 = .ok (.iload_n 2, 1) := by decide +kernel
theorem d_reqname_43 : decode prog_11_method_2_code 43 = .ok (.bipush 97, 2) := by decide +kernel
theorem d_reqname_45 : decode prog_11_method_2_code 45 = .ok (.if_icmp .lt 9, 3) := by decide +kernel
theorem d_reqname_48 : decode prog_11_method_2_code 48 = .ok (.iload_n 2, 1) := by decide +kernel
theorem d_reqname_49 : decode prog_11_method_2_code 49 = .ok (.bipush 122, 2) := by decide +kernel
theorem d_reqname_51 : decode prog_11_method_2_code 51 = .ok (.if_icmp .le 9, 3) := by decide +kernel
theorem d_reqname_54 : decode prog_11_method_2_code 54 = .ok (.iload_n 2, 1) := by decide +kernel
theorem d_reqname_55 : decode prog_11_method_2_code 55 = .ok (.bipush 95, 2) := by decide +kernel
theorem d_reqname_57 : decode prog_11_method_2_code 57 = .ok (.if_icmp .ne 7, 3) := by decide +kernel
theorem d_reqname_60 : decode prog_11_method_2_code 60 = .ok (.iconst 1, 1) := by decide +kernel
theorem d_reqname_61 : decode prog_11_method_2_code 61 = .ok (.goto 4, 3) := by decide +kernel
theorem d_reqname_64 : decode prog_11_method_2_code 64 = .ok (.iconst 0, 1) := by decide +kernel
theorem d_reqname_65 : decode prog_11_method_2_code 65 = .ok (.istore_n 3, 1) := by decide +kernel
theorem d_reqname_66 : decode prog_11_method_2_code 66 = .ok (.iload_n 3, 1) := by decide +kernel
theorem d_reqname_67 : decode prog_11_method_2_code 67 = .ok (.ifCond .ne 33, 3) := by decide +kernel
theorem d_reqname_70 : decode prog_11_method_2_code 70 = .ok (.iload_n 1, 1) := by decide +kernel
theorem d_reqname_71 : decode prog_11_method_2_code 71 = .ok (.ifCond .le 15, 3) := by decide +kernel
theorem d_reqname_74 : decode prog_11_method_2_code 74 = .ok (.iload_n 2, 1) := by decide +kernel
theorem d_reqname_75 : decode prog_11_method_2_code 75 = .ok (.bipush 48, 2) := by decide +kernel
theorem d_reqname_77 : decode prog_11_method_2_code 77 = .ok (.if_icmp .lt 9, 3) := by decide +kernel
theorem d_reqname_80 : decode prog_11_method_2_code 80 = .ok (.iload_n 2, 1) := by decide +kernel
theorem d_reqname_81 : decode prog_11_method_2_code 81 = .ok (.bipush 57, 2) := by decide +kernel
theorem d_reqname_83 : decode prog_11_method_2_code 83 = .ok (.if_icmp .le 17, 3) := by decide +kernel
theorem d_reqname_100 : decode prog_11_method_2_code 100 = .ok (.iinc 1 1, 3) := by decide +kernel
theorem d_reqname_103 : decode prog_11_method_2_code 103 = .ok (.goto (-75), 3) := by decide +kernel
theorem d_reqname_106 : decode prog_11_method_2_code 106 = .ok (.aload_n 0, 1) := by decide +kernel
theorem d_reqname_107 : decode prog_11_method_2_code 107 = .ok (.areturn, 1) := by decide +kernel
abbrev rm_reqname : Room := ({ frames := 4, cells := 0, slots := 0, locals := 53 } : Room)
def Q_reqname (Z : State) (x t : Addr) (cs : List Int32) (h0 : Heap) (v : Option Value) (h : Heap) : Prop := v = some (.ref x) ∧ h = h0
set_option maxRecDepth 65536 in
set_option maxHeartbeats 40000000 in
theorem lp_reqname (l : Launch) (Z : State) (a0 : Array Value) (hw : ∀ d ∈ tables_1, d.before a0 Z = true) (G1 : Int32) (G3 : Value) (OS : Sts Z G1 G3) (x t : Addr) (cs : List Int32) {h0 : Heap} {p : Program} {e : Env} {s : State} {m : MethodId} {below : List Frame} {meth : Method} {c : Code} (k : Nat) : ∀ {T0 : State} (i : Nat) (o2 o3 : Slot), Wk l Z rm_reqname prog_11_method_2_code 4 (some (.object "java/lang/String")) "com/example/bedrock_dispatch/bedrockdispatch/Schema" "requireName" p e s m #[(.ref x)] below meth c T0 0 0 → (i + k = cs.length) → (T0.heap = h0) → (OStr Z T0.heap x t cs) → (cs.length ≤ 63) → (∀ c ∈ cs, Rst c) → (Ltr (cs.getD 0 0)) → (o2 = .unset ∨ ∃ w, o2 = .val w ∧ w.category = 1) → (o3 = .unset ∨ ∃ w, o3 = .val w ∧ w.category = 1) → Ends p e below s Z (Q_reqname Z x t cs h0) rm_reqname.cells rm_reqname.slots T0 (mkF m 28 #[.val (.ref x), .val (.int (Int32.ofNat i)), o2, o3] []) := by
  induction k with
  | zero =>
    intro T0 i o2 o3 X0 hi eh S0 hmx hall hfst hone2 hone3
    have hik : i = cs.length := by omega
    subst hik
    refine E_iloadN X0 d_reqname_28 rfl (pc' := 29) rfl ?_
    refine E_aloadN X0 d_reqname_29 rfl rfl (pc' := 30) rfl ?_
    refine E_virtual X0 (rm := rm_slen) (a := x) (D := "java/lang/String") d_reqname_30 (hw _ (List.mem_of_getElem? (i := 47) rfl)) (hw _ (List.mem_of_getElem? (i := 48) rfl)) (hw _ (List.mem_of_getElem? (i := 50) rfl)) (hw _ (List.mem_of_getElem? (i := 49) rfl)) (notFace_of_selects (args := #[]) (mvT X0.hZ (hw _ (List.mem_of_getElem? (i := 50) rfl)))) (by decide) (OStr.exa S0) (hw _ (List.mem_of_getElem? (i := 11) rfl)) (hw _ (List.mem_of_getElem? (i := 51) rfl)) (argsL := []) (st := [(.int (Int32.ofNat cs.length))]) rfl (ct_slen l Z a0 hw G1 G3 OS x t cs X0.old S0) (lenOf (pd_9) rfl) rfl (by decide) (by decide) (by decide) (Nat.le_of_ble_eq_true rfl) (pc' := 33) rfl ?_
    intro T1 _ X2 hQ3
    obtain ⟨rfl, e4⟩ := hQ3
    rw [← e4] at S0
    show Ends p e below s Z _ _ _ T1 (mkF m 33 #[.val (.ref x), .val (.int (Int32.ofNat cs.length)), o2, o3] [(.int (Int32.ofNat cs.length)), (.int (Int32.ofNat cs.length))])
    refine E_icT X2 d_reqname_33 (XT.ii_ge_t (o_nlt (Nat.le_refl _) (by omega))) (pc' := 106) (by decide) rfl ?_
    refine E_aloadN X2 d_reqname_106 rfl rfl (pc' := 107) rfl ?_
    exact E_areturn X2 (t := (.object "java/lang/String")) d_reqname_107 rfl rfl rfl rfl (by decide) (by decide) (⟨rfl, (e4.trans eh)⟩)
  | succ k ih =>
    intro T0 i o2 o3 X0 hi eh S0 hmx hall hfst hone2 hone3
    have hlt : i < cs.length := by omega
    obtain ⟨ch, hch⟩ : ∃ c, c = cs.getD i 0 := ⟨_, rfl⟩
    have hL : Rst ch := hch ▸ hall _ (own_mem hlt)
    have hF : i = 0 → Ltr ch := fun q => by rw [hch, q]; exact hfst
    refine E_iloadN X0 d_reqname_28 rfl (pc' := 29) rfl ?_
    refine E_aloadN X0 d_reqname_29 rfl rfl (pc' := 30) rfl ?_
    refine E_virtual X0 (rm := rm_slen) (a := x) (D := "java/lang/String") d_reqname_30 (hw _ (List.mem_of_getElem? (i := 47) rfl)) (hw _ (List.mem_of_getElem? (i := 48) rfl)) (hw _ (List.mem_of_getElem? (i := 50) rfl)) (hw _ (List.mem_of_getElem? (i := 49) rfl)) (notFace_of_selects (args := #[]) (mvT X0.hZ (hw _ (List.mem_of_getElem? (i := 50) rfl)))) (by decide) (OStr.exa S0) (hw _ (List.mem_of_getElem? (i := 11) rfl)) (hw _ (List.mem_of_getElem? (i := 51) rfl)) (argsL := []) (st := [(.int (Int32.ofNat i))]) rfl (ct_slen l Z a0 hw G1 G3 OS x t cs X0.old S0) (lenOf (pd_9) rfl) rfl (by decide) (by decide) (by decide) (Nat.le_of_ble_eq_true rfl) (pc' := 33) rfl ?_
    intro T1 _ X2 hQ3
    obtain ⟨rfl, e4⟩ := hQ3
    rw [← e4] at S0
    show Ends p e below s Z _ _ _ T1 (mkF m 33 #[.val (.ref x), .val (.int (Int32.ofNat i)), o2, o3] [(.int (Int32.ofNat cs.length)), (.int (Int32.ofNat i))])
    refine E_icF X2 d_reqname_33 (XT.ii_ge_f (o_lt hlt (by omega))) (pc' := 36) rfl ?_
    refine E_aloadN X2 d_reqname_36 rfl rfl (pc' := 37) rfl ?_
    refine E_iloadN X2 d_reqname_37 rfl (pc' := 38) rfl ?_
    refine E_virtual X2 (rm := rm_sch) (a := x) (D := "java/lang/String") d_reqname_38 (hw _ (List.mem_of_getElem? (i := 57) rfl)) (hw _ (List.mem_of_getElem? (i := 58) rfl)) (hw _ (List.mem_of_getElem? (i := 60) rfl)) (hw _ (List.mem_of_getElem? (i := 59) rfl)) (notFace_of_selects (args := #[]) (mvT X2.hZ (hw _ (List.mem_of_getElem? (i := 60) rfl)))) (by decide) (OStr.exa S0) (hw _ (List.mem_of_getElem? (i := 11) rfl)) (hw _ (List.mem_of_getElem? (i := 61) rfl)) (argsL := [(.int (Int32.ofNat i))]) (st := []) rfl (ct_sch l Z a0 hw G1 G3 OS x t cs i X2.old S0 hlt) (lenOf (pd_10) rfl) rfl (by decide) (by decide) (by decide) (Nat.le_of_ble_eq_true rfl) (pc' := 41) rfl ?_
    intro T5 _ X6 hQ7
    rw [Q_sch, ← hch] at hQ7
    obtain ⟨rfl, e8⟩ := hQ7
    rw [← e8] at S0
    show Ends p e below s Z _ _ _ T5 (mkF m 41 #[.val (.ref x), .val (.int (Int32.ofNat i)), o2, o3] [(.int ch)])
    refine E_istoreN X6 d_reqname_41 (l' := #[.val (.ref x), .val (.int (Int32.ofNat i)), .val (.int ch), o3]) (XS.store1 rfl hone2 rfl) (pc' := 42) rfl ?_
    refine E_iloadN X6 d_reqname_42 rfl (pc' := 43) rfl ?_
    refine E_bipush X6 (v := (97 : Int32)) d_reqname_43 rfl (pc' := 45) rfl ?_
    by_cases hc45 : ch < (97 : Int32)
    · skip
      refine E_icT X6 d_reqname_45 (XT.ii_lt_t hc45) (pc' := 54) (by decide) rfl ?_
      refine E_iloadN X6 d_reqname_54 rfl (pc' := 55) rfl ?_
      refine E_bipush X6 (v := (95 : Int32)) d_reqname_55 rfl (pc' := 57) rfl ?_
      by_cases h57 : ch = (95 : Int32)
      · skip
        refine E_icF X6 d_reqname_57 (XT.ii_ne_f h57) (pc' := 60) rfl ?_
        refine E_iconst X6 (v := (1 : Int32)) d_reqname_60 rfl (pc' := 61) rfl ?_
        refine E_goto X6 d_reqname_61 (pc' := 65) (by decide) rfl ?_
        refine E_istoreN X6 d_reqname_65 (l' := #[.val (.ref x), .val (.int (Int32.ofNat i)), .val (.int ch), .val (.int (1 : Int32))]) (XS.store1 rfl hone3 rfl) (pc' := 66) rfl ?_
        refine E_iloadN X6 d_reqname_66 rfl (pc' := 67) rfl ?_
        refine E_ifT X6 d_reqname_67 (XT.i0_ne_t (by decide)) (pc' := 100) (by decide) rfl ?_
        refine E_iinc X6 (y := (Int32.ofNat (i + 1))) d_reqname_100 o_add rfl (l' := #[.val (.ref x), .val (.int (Int32.ofNat (i + 1))), .val (.int ch), .val (.int (1 : Int32))]) rfl (pc' := 103) rfl ?_
        refine E_goto X6 d_reqname_103 (pc' := 28) (by decide) rfl ?_
        exact ih (i + 1) (.val (.int ch)) (.val (.int (1 : Int32))) X6 (by omega) (e8.trans (e4.trans eh)) S0 hmx hall hfst (Or.inr ⟨_, rfl, rfl⟩) (Or.inr ⟨_, rfl, rfl⟩)
      · skip
        refine E_icT X6 d_reqname_57 (XT.ii_ne_t h57) (pc' := 64) (by decide) rfl ?_
        have hn : ¬ Ltr ch := fun q => by rcases q with q | q <;> simp_all
        have hdg := hL.resolve_left hn
        have hi0 : i ≠ 0 := fun q => hn (hF q)
        refine E_iconst X6 (v := (0 : Int32)) d_reqname_64 rfl (pc' := 65) rfl ?_
        refine E_istoreN X6 d_reqname_65 (l' := #[.val (.ref x), .val (.int (Int32.ofNat i)), .val (.int ch), .val (.int (0 : Int32))]) (XS.store1 rfl hone3 rfl) (pc' := 66) rfl ?_
        refine E_iloadN X6 d_reqname_66 rfl (pc' := 67) rfl ?_
        refine E_ifF X6 d_reqname_67 (XT.i0_ne_f (by decide)) (pc' := 70) rfl ?_
        refine E_iloadN X6 d_reqname_70 rfl (pc' := 71) rfl ?_
        refine E_ifF X6 d_reqname_71 (XT.i0_le_f (own_pos hi0 (by omega))) (pc' := 74) rfl ?_
        refine E_iloadN X6 d_reqname_74 rfl (pc' := 75) rfl ?_
        refine E_bipush X6 (v := (48 : Int32)) d_reqname_75 rfl (pc' := 77) rfl ?_
        refine E_icF X6 d_reqname_77 (XT.ii_lt_f hdg.1) (pc' := 80) rfl ?_
        refine E_iloadN X6 d_reqname_80 rfl (pc' := 81) rfl ?_
        refine E_bipush X6 (v := (57 : Int32)) d_reqname_81 rfl (pc' := 83) rfl ?_
        refine E_icT X6 d_reqname_83 (XT.ii_le_t hdg.2) (pc' := 100) (by decide) rfl ?_
        refine E_iinc X6 (y := (Int32.ofNat (i + 1))) d_reqname_100 o_add rfl (l' := #[.val (.ref x), .val (.int (Int32.ofNat (i + 1))), .val (.int ch), .val (.int (0 : Int32))]) rfl (pc' := 103) rfl ?_
        refine E_goto X6 d_reqname_103 (pc' := 28) (by decide) rfl ?_
        exact ih (i + 1) (.val (.int ch)) (.val (.int (0 : Int32))) X6 (by omega) (e8.trans (e4.trans eh)) S0 hmx hall hfst (Or.inr ⟨_, rfl, rfl⟩) (Or.inr ⟨_, rfl, rfl⟩)
    · skip
      refine E_icF X6 d_reqname_45 (XT.ii_lt_f hc45) (pc' := 48) rfl ?_
      refine E_iloadN X6 d_reqname_48 rfl (pc' := 49) rfl ?_
      refine E_bipush X6 (v := (122 : Int32)) d_reqname_49 rfl (pc' := 51) rfl ?_
      by_cases hc51 : (122 : Int32) < ch
      · skip
        refine E_icF X6 d_reqname_51 (XT.ii_le_f hc51) (pc' := 54) rfl ?_
        refine E_iloadN X6 d_reqname_54 rfl (pc' := 55) rfl ?_
        refine E_bipush X6 (v := (95 : Int32)) d_reqname_55 rfl (pc' := 57) rfl ?_
        by_cases h57 : ch = (95 : Int32)
        · skip
          refine E_icF X6 d_reqname_57 (XT.ii_ne_f h57) (pc' := 60) rfl ?_
          refine E_iconst X6 (v := (1 : Int32)) d_reqname_60 rfl (pc' := 61) rfl ?_
          refine E_goto X6 d_reqname_61 (pc' := 65) (by decide) rfl ?_
          refine E_istoreN X6 d_reqname_65 (l' := #[.val (.ref x), .val (.int (Int32.ofNat i)), .val (.int ch), .val (.int (1 : Int32))]) (XS.store1 rfl hone3 rfl) (pc' := 66) rfl ?_
          refine E_iloadN X6 d_reqname_66 rfl (pc' := 67) rfl ?_
          refine E_ifT X6 d_reqname_67 (XT.i0_ne_t (by decide)) (pc' := 100) (by decide) rfl ?_
          refine E_iinc X6 (y := (Int32.ofNat (i + 1))) d_reqname_100 o_add rfl (l' := #[.val (.ref x), .val (.int (Int32.ofNat (i + 1))), .val (.int ch), .val (.int (1 : Int32))]) rfl (pc' := 103) rfl ?_
          refine E_goto X6 d_reqname_103 (pc' := 28) (by decide) rfl ?_
          exact ih (i + 1) (.val (.int ch)) (.val (.int (1 : Int32))) X6 (by omega) (e8.trans (e4.trans eh)) S0 hmx hall hfst (Or.inr ⟨_, rfl, rfl⟩) (Or.inr ⟨_, rfl, rfl⟩)
        · skip
          refine E_icT X6 d_reqname_57 (XT.ii_ne_t h57) (pc' := 64) (by decide) rfl ?_
          have hn : ¬ Ltr ch := fun q => by rcases q with q | q <;> simp_all
          have hdg := hL.resolve_left hn
          have hi0 : i ≠ 0 := fun q => hn (hF q)
          refine E_iconst X6 (v := (0 : Int32)) d_reqname_64 rfl (pc' := 65) rfl ?_
          refine E_istoreN X6 d_reqname_65 (l' := #[.val (.ref x), .val (.int (Int32.ofNat i)), .val (.int ch), .val (.int (0 : Int32))]) (XS.store1 rfl hone3 rfl) (pc' := 66) rfl ?_
          refine E_iloadN X6 d_reqname_66 rfl (pc' := 67) rfl ?_
          refine E_ifF X6 d_reqname_67 (XT.i0_ne_f (by decide)) (pc' := 70) rfl ?_
          refine E_iloadN X6 d_reqname_70 rfl (pc' := 71) rfl ?_
          refine E_ifF X6 d_reqname_71 (XT.i0_le_f (own_pos hi0 (by omega))) (pc' := 74) rfl ?_
          refine E_iloadN X6 d_reqname_74 rfl (pc' := 75) rfl ?_
          refine E_bipush X6 (v := (48 : Int32)) d_reqname_75 rfl (pc' := 77) rfl ?_
          refine E_icF X6 d_reqname_77 (XT.ii_lt_f hdg.1) (pc' := 80) rfl ?_
          refine E_iloadN X6 d_reqname_80 rfl (pc' := 81) rfl ?_
          refine E_bipush X6 (v := (57 : Int32)) d_reqname_81 rfl (pc' := 83) rfl ?_
          refine E_icT X6 d_reqname_83 (XT.ii_le_t hdg.2) (pc' := 100) (by decide) rfl ?_
          refine E_iinc X6 (y := (Int32.ofNat (i + 1))) d_reqname_100 o_add rfl (l' := #[.val (.ref x), .val (.int (Int32.ofNat (i + 1))), .val (.int ch), .val (.int (0 : Int32))]) rfl (pc' := 103) rfl ?_
          refine E_goto X6 d_reqname_103 (pc' := 28) (by decide) rfl ?_
          exact ih (i + 1) (.val (.int ch)) (.val (.int (0 : Int32))) X6 (by omega) (e8.trans (e4.trans eh)) S0 hmx hall hfst (Or.inr ⟨_, rfl, rfl⟩) (Or.inr ⟨_, rfl, rfl⟩)
      · skip
        refine E_icT X6 d_reqname_51 (XT.ii_le_t hc51) (pc' := 60) (by decide) rfl ?_
        refine E_iconst X6 (v := (1 : Int32)) d_reqname_60 rfl (pc' := 61) rfl ?_
        refine E_goto X6 d_reqname_61 (pc' := 65) (by decide) rfl ?_
        refine E_istoreN X6 d_reqname_65 (l' := #[.val (.ref x), .val (.int (Int32.ofNat i)), .val (.int ch), .val (.int (1 : Int32))]) (XS.store1 rfl hone3 rfl) (pc' := 66) rfl ?_
        refine E_iloadN X6 d_reqname_66 rfl (pc' := 67) rfl ?_
        refine E_ifT X6 d_reqname_67 (XT.i0_ne_t (by decide)) (pc' := 100) (by decide) rfl ?_
        refine E_iinc X6 (y := (Int32.ofNat (i + 1))) d_reqname_100 o_add rfl (l' := #[.val (.ref x), .val (.int (Int32.ofNat (i + 1))), .val (.int ch), .val (.int (1 : Int32))]) rfl (pc' := 103) rfl ?_
        refine E_goto X6 d_reqname_103 (pc' := 28) (by decide) rfl ?_
        exact ih (i + 1) (.val (.int ch)) (.val (.int (1 : Int32))) X6 (by omega) (e8.trans (e4.trans eh)) S0 hmx hall hfst (Or.inr ⟨_, rfl, rfl⟩) (Or.inr ⟨_, rfl, rfl⟩)
set_option maxRecDepth 65536 in
set_option maxHeartbeats 40000000 in
theorem ct_reqname (l : Launch) (Z : State) (a0 : Array Value) (hw : ∀ d ∈ tables_1, d.before a0 Z = true) (G1 : Int32) (G3 : Value) (OS : Sts Z G1 G3) (x t : Addr) (cs : List Int32) {h0 : Heap} (O : Ext Z.heap h0) (S0 : OStr Z h0 x t cs) (hne : 0 < cs.length) (hmx : cs.length ≤ 63) (hall : ∀ c ∈ cs, Rst c) (hfst : Ltr (cs.getD 0 0)) : Ct l Z (⟨"com/example/bedrock_dispatch/bedrockdispatch/Schema", "requireName", "(Ljava/lang/String;)Ljava/lang/String;"⟩ : MethodName) prog_11_method_2_code 4 (some (.object "java/lang/String")) rm_reqname #[(.ref x)] h0 (Q_reqname Z x t cs h0) := by
  refine Ct.of_body (Ls := #[.val (.ref x), .unset, .unset, .unset]) (by decide +kernel) O (fun m => by first | rfl | (simp [entryFrame, mkF, argsToLocals, Value.category]; done) | (rcases ref_cases (Sts.ref OS) with rfl | ⟨r, rfl⟩ <;> rfl)) ?_
  intro p e s m below meth c T0 X0 e0
  subst e0
  refine E_aloadN X0 d_reqname_0 rfl rfl (pc' := 1) rfl ?_
  refine E_virtual X0 (rm := rm_semp) (a := x) (D := "java/lang/String") d_reqname_1 (hw _ (List.mem_of_getElem? (i := 42) rfl)) (hw _ (List.mem_of_getElem? (i := 43) rfl)) (hw _ (List.mem_of_getElem? (i := 45) rfl)) (hw _ (List.mem_of_getElem? (i := 44) rfl)) (notFace_of_selects (args := #[]) (mvT X0.hZ (hw _ (List.mem_of_getElem? (i := 45) rfl)))) (by decide) (OStr.exa S0) (hw _ (List.mem_of_getElem? (i := 11) rfl)) (hw _ (List.mem_of_getElem? (i := 46) rfl)) (argsL := []) (st := []) rfl (ct_semp l Z a0 hw G1 G3 OS x t cs X0.old S0) (lenOf (pd_3) rfl) rfl (by decide) (by decide) (by decide) (Nat.le_of_ble_eq_true rfl) (pc' := 4) rfl ?_
  intro T1 _ X2 hQ3
  obtain ⟨z, rfl, e4, yz, nz⟩ := hQ3
  rw [← e4] at S0
  obtain rfl := nz (by omega)
  show Ends p e below s Z _ _ _ T1 (mkF m 4 #[.val (.ref x), .unset, .unset, .unset] [(.int (0 : Int32))])
  refine E_ifF X2 d_reqname_4 (XT.i0_ne_f (by decide)) (pc' := 7) rfl ?_
  refine E_aloadN X2 d_reqname_7 rfl rfl (pc' := 8) rfl ?_
  refine E_virtual X2 (rm := rm_slen) (a := x) (D := "java/lang/String") d_reqname_8 (hw _ (List.mem_of_getElem? (i := 47) rfl)) (hw _ (List.mem_of_getElem? (i := 48) rfl)) (hw _ (List.mem_of_getElem? (i := 50) rfl)) (hw _ (List.mem_of_getElem? (i := 49) rfl)) (notFace_of_selects (args := #[]) (mvT X2.hZ (hw _ (List.mem_of_getElem? (i := 50) rfl)))) (by decide) (OStr.exa S0) (hw _ (List.mem_of_getElem? (i := 11) rfl)) (hw _ (List.mem_of_getElem? (i := 51) rfl)) (argsL := []) (st := []) rfl (ct_slen l Z a0 hw G1 G3 OS x t cs X2.old S0) (lenOf (pd_9) rfl) rfl (by decide) (by decide) (by decide) (Nat.le_of_ble_eq_true rfl) (pc' := 11) rfl ?_
  intro T5 _ X6 hQ7
  obtain ⟨rfl, e8⟩ := hQ7
  rw [← e8] at S0
  show Ends p e below s Z _ _ _ T5 (mkF m 11 #[.val (.ref x), .unset, .unset, .unset] [(.int (Int32.ofNat cs.length))])
  refine E_bipush X6 (v := (63 : Int32)) d_reqname_11 rfl (pc' := 13) rfl ?_
  refine E_icT X6 d_reqname_13 (XT.ii_le_t (o_nlt (i := 63) (n := cs.length) hmx (by decide))) (pc' := 26) (by decide) rfl ?_
  refine E_iconst X6 (v := (0 : Int32)) d_reqname_26 rfl (pc' := 27) rfl ?_
  refine E_istoreN X6 d_reqname_27 (l' := #[.val (.ref x), .val (.int (0 : Int32)), .unset, .unset]) rfl (pc' := 28) rfl ?_
  exact lp_reqname l Z a0 hw G1 G3 OS x t cs cs.length 0 .unset .unset X6 (by omega) (e8.trans e4) S0 hmx hall hfst (Or.inl rfl) (Or.inl rfl)
set_option maxRecDepth 65536 in
set_option maxHeartbeats 40000000 in
theorem ct_law (l : Launch) (Z : State) (a0 : Array Value) (hw : ∀ d ∈ tables_1, d.before a0 Z = true) (p0 p1 p2 p3 p4 : Int32) (G1 : Int32) (G3 : Value) (O : Ext Z.heap Z.heap) (OS : Sts Z G1 G3) : Ct l Z x code maxLocals ret room_1 #[(.int p0), (.int p1), (.int p2), (.int p3), (.int p4)] Z.heap (fun v _ => v = some (.int 1)) := by
  show Ct l Z (⟨"com/example/bedrock_dispatch/bedrockdispatch/SchemaRequireNamePinLaw", "law", "(IIIII)Z"⟩ : MethodName) code 13 (some .boolean) ({ frames := 8, cells := 16, slots := 384, locals := 176 } : Room) _ _ _
  refine Ct.of_body (Ls := #[.val (.int p0), .val (.int p1), .val (.int p2), .val (.int p3), .val (.int p4), .unset, .unset, .unset, .unset, .unset, .unset, .unset, .unset]) (by decide +kernel) O (fun m => by first | rfl | (simp [entryFrame, mkF, argsToLocals, Value.category]; done) | (rcases ref_cases (Sts.ref OS) with rfl | ⟨r, rfl⟩ <;> rfl)) ?_
  intro p e s m below meth c T0 X0 e0
  obtain ⟨kk, hkk⟩ : ∃ z, z = (p4 &&& (2147483647 : Int32)) % (5 : Int32) := ⟨_, rfl⟩
  have hkc := own_k5 p4
  rw [← hkk] at hkc
  refine E_iloadN X0 at_0 rfl (pc' := 1) rfl ?_
  refine E_static X0 (rm := rm_first) at_1 (hw _ (List.mem_of_getElem? (i := 0) rfl)) (hw _ (List.mem_of_getElem? (i := 1) rfl)) (hw _ (List.mem_of_getElem? (i := 2) rfl)) (hw _ (List.mem_of_getElem? (i := 3) rfl)) (by decide) (argsL := [(.int p0)]) (st := []) rfl (ct_first l Z a0 hw G1 G3 OS p0 X0.old) (lenOf (pd_10) rfl) rfl (by decide) (by decide) (by decide) (Nat.le_of_ble_eq_true rfl) (pc' := 4) rfl ?_
  intro T2 _ X3 hQ4
  obtain ⟨z1, rfl, e5, az1⟩ := hQ4
  show Ends p e below s Z _ _ _ T2 (mkF m 4 #[.val (.int p0), .val (.int p1), .val (.int p2), .val (.int p3), .val (.int p4), .unset, .unset, .unset, .unset, .unset, .unset, .unset, .unset] [(.int z1)])
  refine E_istore X3 at_4 (l' := #[.val (.int p0), .val (.int p1), .val (.int p2), .val (.int p3), .val (.int p4), .val (.int z1), .unset, .unset, .unset, .unset, .unset, .unset, .unset]) rfl (pc' := 6) rfl ?_
  refine E_iloadN X3 at_6 rfl (pc' := 7) rfl ?_
  refine E_static X3 (rm := rm_rest) at_7 (hw _ (List.mem_of_getElem? (i := 5) rfl)) (hw _ (List.mem_of_getElem? (i := 6) rfl)) (hw _ (List.mem_of_getElem? (i := 2) rfl)) (hw _ (List.mem_of_getElem? (i := 7) rfl)) (by decide) (argsL := [(.int p1)]) (st := []) rfl (ct_rest l Z a0 hw G1 G3 OS p1 X3.old) (lenOf (pd_10) rfl) rfl (by decide) (by decide) (by decide) (Nat.le_of_ble_eq_true rfl) (pc' := 10) rfl ?_
  intro T7 _ X8 hQ9
  obtain ⟨z6, rfl, e10, az6⟩ := hQ9
  show Ends p e below s Z _ _ _ T7 (mkF m 10 #[.val (.int p0), .val (.int p1), .val (.int p2), .val (.int p3), .val (.int p4), .val (.int z1), .unset, .unset, .unset, .unset, .unset, .unset, .unset] [(.int z6)])
  refine E_istore X8 at_10 (l' := #[.val (.int p0), .val (.int p1), .val (.int p2), .val (.int p3), .val (.int p4), .val (.int z1), .val (.int z6), .unset, .unset, .unset, .unset, .unset, .unset]) rfl (pc' := 12) rfl ?_
  refine E_iloadN X8 at_12 rfl (pc' := 13) rfl ?_
  refine E_static X8 (rm := rm_rest) at_13 (hw _ (List.mem_of_getElem? (i := 5) rfl)) (hw _ (List.mem_of_getElem? (i := 6) rfl)) (hw _ (List.mem_of_getElem? (i := 2) rfl)) (hw _ (List.mem_of_getElem? (i := 7) rfl)) (by decide) (argsL := [(.int p2)]) (st := []) rfl (ct_rest l Z a0 hw G1 G3 OS p2 X8.old) (lenOf (pd_10) rfl) rfl (by decide) (by decide) (by decide) (Nat.le_of_ble_eq_true rfl) (pc' := 16) rfl ?_
  intro T12 _ X13 hQ14
  obtain ⟨z11, rfl, e15, az11⟩ := hQ14
  show Ends p e below s Z _ _ _ T12 (mkF m 16 #[.val (.int p0), .val (.int p1), .val (.int p2), .val (.int p3), .val (.int p4), .val (.int z1), .val (.int z6), .unset, .unset, .unset, .unset, .unset, .unset] [(.int z11)])
  refine E_istore X13 at_16 (l' := #[.val (.int p0), .val (.int p1), .val (.int p2), .val (.int p3), .val (.int p4), .val (.int z1), .val (.int z6), .val (.int z11), .unset, .unset, .unset, .unset, .unset]) rfl (pc' := 18) rfl ?_
  refine E_iloadN X13 at_18 rfl (pc' := 19) rfl ?_
  refine E_static X13 (rm := rm_rest) at_19 (hw _ (List.mem_of_getElem? (i := 5) rfl)) (hw _ (List.mem_of_getElem? (i := 6) rfl)) (hw _ (List.mem_of_getElem? (i := 2) rfl)) (hw _ (List.mem_of_getElem? (i := 7) rfl)) (by decide) (argsL := [(.int p3)]) (st := []) rfl (ct_rest l Z a0 hw G1 G3 OS p3 X13.old) (lenOf (pd_10) rfl) rfl (by decide) (by decide) (by decide) (Nat.le_of_ble_eq_true rfl) (pc' := 22) rfl ?_
  intro T17 _ X18 hQ19
  obtain ⟨z16, rfl, e20, az16⟩ := hQ19
  show Ends p e below s Z _ _ _ T17 (mkF m 22 #[.val (.int p0), .val (.int p1), .val (.int p2), .val (.int p3), .val (.int p4), .val (.int z1), .val (.int z6), .val (.int z11), .unset, .unset, .unset, .unset, .unset] [(.int z16)])
  refine E_istore X18 at_22 (l' := #[.val (.int p0), .val (.int p1), .val (.int p2), .val (.int p3), .val (.int p4), .val (.int z1), .val (.int z6), .val (.int z11), .val (.int z16), .unset, .unset, .unset, .unset]) rfl (pc' := 24) rfl ?_
  refine E_iload X18 at_24 rfl (pc' := 26) rfl ?_
  refine E_ldcI X18 (v := (2147483647 : Int32)) at_26 (hw _ (List.mem_of_getElem? (i := 4) rfl)) (pc' := 28) rfl ?_
  refine E_iand X18 at_28 rfl (pc' := 29) rfl ?_
  refine E_iconst X18 (v := (5 : Int32)) at_29 rfl (pc' := 30) rfl ?_
  refine E_irem X18 (v := kk) at_30 (by decide) hkk.symm (pc' := 31) rfl ?_
  refine E_istore X18 at_31 (l' := #[.val (.int p0), .val (.int p1), .val (.int p2), .val (.int p3), .val (.int p4), .val (.int z1), .val (.int z6), .val (.int z11), .val (.int z16), .val (.int kk), .unset, .unset, .unset]) rfl (pc' := 33) rfl ?_
  refine E_iload X18 at_33 rfl (pc' := 35) rfl ?_
  by_cases hk0 : kk = 0
  · skip
    refine E_ifF X18 at_35 (XT.i0_ne_f hk0) (pc' := 38) rfl ?_
    subst hk0
    refine E_iconst X18 (v := (1 : Int32)) at_38 rfl (pc' := 39) rfl ?_
    refine E_newarray X18 1 at_39 (hw _ (List.mem_of_getElem? (i := 8) rfl)) (by decide) (by decide) (by decide) (by decide) (by decide) (pc' := 41) rfl ?_
    intro T21 b23 k27 X22 hb24 K25 V26
    have g28 : Z.heap.size ≤ b23 := Nat.le_trans X18.le (Nat.le_of_eq hb24.symm)
    have V29 : Arv Z T21.heap b23 k27 .char (1 : Int32) [(.int (0 : Int32))] (.int (0 : Int32)) := V26.pad (pad_rep [] (.int (0 : Int32)) 1)
    refine E_dup X22 at_41 rfl (pc' := 42) rfl ?_
    refine E_iconst X22 (v := (0 : Int32)) at_42 rfl (pc' := 43) rfl ?_
    refine E_iload X22 at_43 rfl (pc' := 45) rfl ?_
    refine E_castore X22 0 (y := z1) at_45 (rst_nar (Or.inl az1)) V29 ⟨by decide, by decide⟩ rfl (Nat.le_of_ble_eq_true rfl) g28 (pc' := 46) rfl ?_
    intro T30 X31 K32 V33
    have V34 : Arv Z T30.heap b23 k27 .char (1 : Int32) [(.int z1)] (.int (0 : Int32)) := V33
    refine E_astore X31 at_46 rfl (l' := #[.val (.int p0), .val (.int p1), .val (.int p2), .val (.int p3), .val (.int p4), .val (.int z1), .val (.int z6), .val (.int z11), .val (.int z16), .val (.int (0 : Int32)), .val (.ref b23), .unset, .unset]) rfl (pc' := 48) rfl ?_
    refine E_goto X31 at_48 (pc' := 516) (by decide) rfl ?_
    refine E_new X31 at_516 (hw _ (List.mem_of_getElem? (i := 9) rfl)) (hw _ (List.mem_of_getElem? (i := 10) rfl)) (hw _ (List.mem_of_getElem? (i := 11) rfl)) (by decide) (by decide) (pc' := 519) rfl ?_
    intro T35 b37 X36 hb38 K39 E40 D41
    have ne42 : b23 ≠ b37 := Nat.ne_of_lt (Nat.lt_of_lt_of_eq V34.lt hb38.symm)
    have Arv_43 := V34.keep K39 nin0
    have g44 : Z.heap.size ≤ b37 := Nat.le_trans X31.le (Nat.le_of_eq hb38.symm)
    have F45 : Fld Z T35.heap b37 "java/lang/String" "coder" "B" (.int (0 : Int32)) := D41 (Or.inr (hw _ (List.mem_of_getElem? (i := 35) rfl))) (ty := .byte) (by decide)
    have F46 : Fld Z T35.heap b37 "java/lang/String" "value" "[B" .null := D41 (Or.inr (hw _ (List.mem_of_getElem? (i := 37) rfl))) (ty := (.array .byte)) (by decide)
    refine E_dup X36 at_519 rfl (pc' := 520) rfl ?_
    refine E_aload X36 at_520 rfl rfl (pc' := 522) rfl ?_
    refine E_special X36 (rm := rm_sinit) (a := b37) at_522 rfl rfl (hw _ (List.mem_of_getElem? (i := 12) rfl)) (hw _ (List.mem_of_getElem? (i := 13) rfl)) (hw _ (List.mem_of_getElem? (i := 14) rfl)) (by decide) (hw _ (List.mem_of_getElem? (i := 11) rfl)) (argsL := [(.ref b23)]) (st := [(.ref b37)]) rfl (ct_sinit l Z a0 hw G1 G3 OS b37 b23 k27 [z1] (.int (0 : Int32)) .null (.int (0 : Int32)) X36.old (Nat.le_of_ble_eq_true rfl) (Nat.le_of_ble_eq_true rfl) (allC (rst_ch (Or.inl az1)) allN) E40 F46 F45 g44 Arv_43) (lenOf (pd_11) rfl) rfl (by decide) (by decide) (by decide) (Nat.le_of_ble_eq_true rfl) (pc' := 525) rfl ?_
    intro T47 _ X48 hQ49
    obtain ⟨rfl, K50, t51, sz52, S53⟩ := hQ49
    have ne54 : b23 ≠ t51 := Nat.ne_of_lt (Nat.lt_of_lt_of_le Arv_43.lt sz52)
    have ne55 : b37 ≠ t51 := Nat.ne_of_lt (Nat.lt_of_lt_of_le E40.lt sz52)
    have Arv_56 := Arv_43.keep K50 (ninS ne42 nin0)
    show Ends p e below s Z _ _ _ T47 (mkF m 525 #[.val (.int p0), .val (.int p1), .val (.int p2), .val (.int p3), .val (.int p4), .val (.int z1), .val (.int z6), .val (.int z11), .val (.int z16), .val (.int (0 : Int32)), .val (.ref b23), .unset, .unset] [(.ref b37)])
    refine E_astore X48 at_525 rfl (l' := #[.val (.int p0), .val (.int p1), .val (.int p2), .val (.int p3), .val (.int p4), .val (.int z1), .val (.int z6), .val (.int z11), .val (.int z16), .val (.int (0 : Int32)), .val (.ref b23), .val (.ref b37), .unset]) rfl (pc' := 527) rfl ?_
    refine E_iload X48 at_527 rfl (pc' := 529) rfl ?_
    refine E_iconst X48 (v := (4 : Int32)) at_529 rfl (pc' := 530) rfl ?_
    refine E_icT X48 at_530 (XT.ii_ne_t (by decide)) (pc' := 545) (by decide) rfl ?_
    refine E_aload X48 at_545 rfl rfl (pc' := 547) rfl ?_
    refine E_static X48 (rm := rm_reqname) at_547 (hw _ (List.mem_of_getElem? (i := 38) rfl)) (hw _ (List.mem_of_getElem? (i := 39) rfl)) (hw _ (List.mem_of_getElem? (i := 40) rfl)) (hw _ (List.mem_of_getElem? (i := 41) rfl)) (by decide) (argsL := [(.ref b37)]) (st := []) rfl (ct_reqname l Z a0 hw G1 G3 OS b37 t51 [z1] X48.old S53 (Nat.le_of_ble_eq_true rfl) (Nat.le_of_ble_eq_true rfl) (allC (Or.inl az1) allN) az1) (lenOf (pd_12) rfl) rfl (by decide) (by decide) (by decide) (Nat.le_of_ble_eq_true rfl) (pc' := 550) rfl ?_
    intro T57 _ X58 hQ59
    obtain ⟨rfl, e60⟩ := hQ59
    rw [← e60] at Arv_56 S53
    show Ends p e below s Z _ _ _ T57 (mkF m 550 #[.val (.int p0), .val (.int p1), .val (.int p2), .val (.int p3), .val (.int p4), .val (.int z1), .val (.int z6), .val (.int z11), .val (.int z16), .val (.int (0 : Int32)), .val (.ref b23), .val (.ref b37), .unset] [(.ref b37)])
    refine E_astore X58 at_550 rfl (l' := #[.val (.int p0), .val (.int p1), .val (.int p2), .val (.int p3), .val (.int p4), .val (.int z1), .val (.int z6), .val (.int z11), .val (.int z16), .val (.int (0 : Int32)), .val (.ref b23), .val (.ref b37), .val (.ref b37)]) rfl (pc' := 552) rfl ?_
    refine E_aload X58 at_552 rfl rfl (pc' := 554) rfl ?_
    refine E_nullF X58 at_554 (pc' := 557) rfl ?_
    refine E_aload X58 at_557 rfl rfl (pc' := 559) rfl ?_
    refine E_aload X58 at_559 rfl rfl (pc' := 561) rfl ?_
    refine E_virtual X58 (rm := rm_eqself) (a := b37) (D := "java/lang/String") at_561 (hw _ (List.mem_of_getElem? (i := 79) rfl)) (hw _ (List.mem_of_getElem? (i := 80) rfl)) (hw _ (List.mem_of_getElem? (i := 82) rfl)) (hw _ (List.mem_of_getElem? (i := 81) rfl)) (notFace_of_selects (args := #[]) (mvT X58.hZ (hw _ (List.mem_of_getElem? (i := 82) rfl)))) (by decide) (OStr.exa S53) (hw _ (List.mem_of_getElem? (i := 11) rfl)) (hw _ (List.mem_of_getElem? (i := 83) rfl)) (argsL := [(.ref b37)]) (st := []) rfl (ct_eqself l Z a0 hw G1 G3 OS b37 X58.old) (lenOf (pd_13) rfl) rfl (by decide) (by decide) (by decide) (Nat.le_of_ble_eq_true rfl) (pc' := 564) rfl ?_
    intro T61 _ X62 hQ63
    obtain ⟨rfl, e64⟩ := hQ63
    rw [← e64] at Arv_56 S53
    show Ends p e below s Z _ _ _ T61 (mkF m 564 #[.val (.int p0), .val (.int p1), .val (.int p2), .val (.int p3), .val (.int p4), .val (.int z1), .val (.int z6), .val (.int z11), .val (.int z16), .val (.int (0 : Int32)), .val (.ref b23), .val (.ref b37), .val (.ref b37)] [(.int (1 : Int32))])
    refine E_ifF X62 at_564 (XT.i0_eq_f (by decide)) (pc' := 567) rfl ?_
    refine E_iconst X62 (v := (1 : Int32)) at_567 rfl (pc' := 568) rfl ?_
    refine E_goto X62 at_568 (pc' := 572) (by decide) rfl ?_
    exact E_ireturnN X62 (t := .boolean) at_572 rfl (by simp) (by decide) (by decide) (rfl)
  · skip
    refine E_ifT X18 at_35 (XT.i0_ne_t hk0) (pc' := 51) (by decide) rfl ?_
    refine E_iload X18 at_51 rfl (pc' := 53) rfl ?_
    refine E_iconst X18 (v := (1 : Int32)) at_53 rfl (pc' := 54) rfl ?_
    by_cases hk1 : kk = (1 : Int32)
    · skip
      refine E_icF X18 at_54 (XT.ii_ne_f hk1) (pc' := 57) rfl ?_
      subst hk1
      refine E_iconst X18 (v := (2 : Int32)) at_57 rfl (pc' := 58) rfl ?_
      refine E_newarray X18 2 at_58 (hw _ (List.mem_of_getElem? (i := 8) rfl)) (by decide) (by decide) (by decide) (by decide) (by decide) (pc' := 60) rfl ?_
      intro T65 b67 k71 X66 hb68 K69 V70
      have g72 : Z.heap.size ≤ b67 := Nat.le_trans X18.le (Nat.le_of_eq hb68.symm)
      have V73 : Arv Z T65.heap b67 k71 .char (2 : Int32) [(.int (0 : Int32)), (.int (0 : Int32))] (.int (0 : Int32)) := V70.pad (pad_rep [] (.int (0 : Int32)) 2)
      refine E_dup X66 at_60 rfl (pc' := 61) rfl ?_
      refine E_iconst X66 (v := (0 : Int32)) at_61 rfl (pc' := 62) rfl ?_
      refine E_iload X66 at_62 rfl (pc' := 64) rfl ?_
      refine E_castore X66 0 (y := z1) at_64 (rst_nar (Or.inl az1)) V73 ⟨by decide, by decide⟩ rfl (Nat.le_of_ble_eq_true rfl) g72 (pc' := 65) rfl ?_
      intro T74 X75 K76 V77
      have V78 : Arv Z T74.heap b67 k71 .char (2 : Int32) [(.int z1), (.int (0 : Int32))] (.int (0 : Int32)) := V77
      refine E_dup X75 at_65 rfl (pc' := 66) rfl ?_
      refine E_iconst X75 (v := (1 : Int32)) at_66 rfl (pc' := 67) rfl ?_
      refine E_iload X75 at_67 rfl (pc' := 69) rfl ?_
      refine E_castore X75 1 (y := z6) at_69 (rst_nar az6) V78 ⟨by decide, by decide⟩ rfl (Nat.le_of_ble_eq_true rfl) g72 (pc' := 70) rfl ?_
      intro T79 X80 K81 V82
      have V83 : Arv Z T79.heap b67 k71 .char (2 : Int32) [(.int z1), (.int z6)] (.int (0 : Int32)) := V82
      refine E_astore X80 at_70 rfl (l' := #[.val (.int p0), .val (.int p1), .val (.int p2), .val (.int p3), .val (.int p4), .val (.int z1), .val (.int z6), .val (.int z11), .val (.int z16), .val (.int (1 : Int32)), .val (.ref b67), .unset, .unset]) rfl (pc' := 72) rfl ?_
      refine E_goto X80 at_72 (pc' := 516) (by decide) rfl ?_
      refine E_new X80 at_516 (hw _ (List.mem_of_getElem? (i := 9) rfl)) (hw _ (List.mem_of_getElem? (i := 10) rfl)) (hw _ (List.mem_of_getElem? (i := 11) rfl)) (by decide) (by decide) (pc' := 519) rfl ?_
      intro T84 b86 X85 hb87 K88 E89 D90
      have ne91 : b67 ≠ b86 := Nat.ne_of_lt (Nat.lt_of_lt_of_eq V83.lt hb87.symm)
      have Arv_92 := V83.keep K88 nin0
      have g93 : Z.heap.size ≤ b86 := Nat.le_trans X80.le (Nat.le_of_eq hb87.symm)
      have F94 : Fld Z T84.heap b86 "java/lang/String" "coder" "B" (.int (0 : Int32)) := D90 (Or.inr (hw _ (List.mem_of_getElem? (i := 35) rfl))) (ty := .byte) (by decide)
      have F95 : Fld Z T84.heap b86 "java/lang/String" "value" "[B" .null := D90 (Or.inr (hw _ (List.mem_of_getElem? (i := 37) rfl))) (ty := (.array .byte)) (by decide)
      refine E_dup X85 at_519 rfl (pc' := 520) rfl ?_
      refine E_aload X85 at_520 rfl rfl (pc' := 522) rfl ?_
      refine E_special X85 (rm := rm_sinit) (a := b86) at_522 rfl rfl (hw _ (List.mem_of_getElem? (i := 12) rfl)) (hw _ (List.mem_of_getElem? (i := 13) rfl)) (hw _ (List.mem_of_getElem? (i := 14) rfl)) (by decide) (hw _ (List.mem_of_getElem? (i := 11) rfl)) (argsL := [(.ref b67)]) (st := [(.ref b86)]) rfl (ct_sinit l Z a0 hw G1 G3 OS b86 b67 k71 [z1, z6] (.int (0 : Int32)) .null (.int (0 : Int32)) X85.old (Nat.le_of_ble_eq_true rfl) (Nat.le_of_ble_eq_true rfl) (allC (rst_ch (Or.inl az1)) (allC (rst_ch az6) allN)) E89 F95 F94 g93 Arv_92) (lenOf (pd_11) rfl) rfl (by decide) (by decide) (by decide) (Nat.le_of_ble_eq_true rfl) (pc' := 525) rfl ?_
      intro T96 _ X97 hQ98
      obtain ⟨rfl, K99, t100, sz101, S102⟩ := hQ98
      have ne103 : b67 ≠ t100 := Nat.ne_of_lt (Nat.lt_of_lt_of_le Arv_92.lt sz101)
      have ne104 : b86 ≠ t100 := Nat.ne_of_lt (Nat.lt_of_lt_of_le E89.lt sz101)
      have Arv_105 := Arv_92.keep K99 (ninS ne91 nin0)
      show Ends p e below s Z _ _ _ T96 (mkF m 525 #[.val (.int p0), .val (.int p1), .val (.int p2), .val (.int p3), .val (.int p4), .val (.int z1), .val (.int z6), .val (.int z11), .val (.int z16), .val (.int (1 : Int32)), .val (.ref b67), .unset, .unset] [(.ref b86)])
      refine E_astore X97 at_525 rfl (l' := #[.val (.int p0), .val (.int p1), .val (.int p2), .val (.int p3), .val (.int p4), .val (.int z1), .val (.int z6), .val (.int z11), .val (.int z16), .val (.int (1 : Int32)), .val (.ref b67), .val (.ref b86), .unset]) rfl (pc' := 527) rfl ?_
      refine E_iload X97 at_527 rfl (pc' := 529) rfl ?_
      refine E_iconst X97 (v := (4 : Int32)) at_529 rfl (pc' := 530) rfl ?_
      refine E_icT X97 at_530 (XT.ii_ne_t (by decide)) (pc' := 545) (by decide) rfl ?_
      refine E_aload X97 at_545 rfl rfl (pc' := 547) rfl ?_
      refine E_static X97 (rm := rm_reqname) at_547 (hw _ (List.mem_of_getElem? (i := 38) rfl)) (hw _ (List.mem_of_getElem? (i := 39) rfl)) (hw _ (List.mem_of_getElem? (i := 40) rfl)) (hw _ (List.mem_of_getElem? (i := 41) rfl)) (by decide) (argsL := [(.ref b86)]) (st := []) rfl (ct_reqname l Z a0 hw G1 G3 OS b86 t100 [z1, z6] X97.old S102 (Nat.le_of_ble_eq_true rfl) (Nat.le_of_ble_eq_true rfl) (allC (Or.inl az1) (allC az6 allN)) az1) (lenOf (pd_12) rfl) rfl (by decide) (by decide) (by decide) (Nat.le_of_ble_eq_true rfl) (pc' := 550) rfl ?_
      intro T106 _ X107 hQ108
      obtain ⟨rfl, e109⟩ := hQ108
      rw [← e109] at Arv_105 S102
      show Ends p e below s Z _ _ _ T106 (mkF m 550 #[.val (.int p0), .val (.int p1), .val (.int p2), .val (.int p3), .val (.int p4), .val (.int z1), .val (.int z6), .val (.int z11), .val (.int z16), .val (.int (1 : Int32)), .val (.ref b67), .val (.ref b86), .unset] [(.ref b86)])
      refine E_astore X107 at_550 rfl (l' := #[.val (.int p0), .val (.int p1), .val (.int p2), .val (.int p3), .val (.int p4), .val (.int z1), .val (.int z6), .val (.int z11), .val (.int z16), .val (.int (1 : Int32)), .val (.ref b67), .val (.ref b86), .val (.ref b86)]) rfl (pc' := 552) rfl ?_
      refine E_aload X107 at_552 rfl rfl (pc' := 554) rfl ?_
      refine E_nullF X107 at_554 (pc' := 557) rfl ?_
      refine E_aload X107 at_557 rfl rfl (pc' := 559) rfl ?_
      refine E_aload X107 at_559 rfl rfl (pc' := 561) rfl ?_
      refine E_virtual X107 (rm := rm_eqself) (a := b86) (D := "java/lang/String") at_561 (hw _ (List.mem_of_getElem? (i := 79) rfl)) (hw _ (List.mem_of_getElem? (i := 80) rfl)) (hw _ (List.mem_of_getElem? (i := 82) rfl)) (hw _ (List.mem_of_getElem? (i := 81) rfl)) (notFace_of_selects (args := #[]) (mvT X107.hZ (hw _ (List.mem_of_getElem? (i := 82) rfl)))) (by decide) (OStr.exa S102) (hw _ (List.mem_of_getElem? (i := 11) rfl)) (hw _ (List.mem_of_getElem? (i := 83) rfl)) (argsL := [(.ref b86)]) (st := []) rfl (ct_eqself l Z a0 hw G1 G3 OS b86 X107.old) (lenOf (pd_13) rfl) rfl (by decide) (by decide) (by decide) (Nat.le_of_ble_eq_true rfl) (pc' := 564) rfl ?_
      intro T110 _ X111 hQ112
      obtain ⟨rfl, e113⟩ := hQ112
      rw [← e113] at Arv_105 S102
      show Ends p e below s Z _ _ _ T110 (mkF m 564 #[.val (.int p0), .val (.int p1), .val (.int p2), .val (.int p3), .val (.int p4), .val (.int z1), .val (.int z6), .val (.int z11), .val (.int z16), .val (.int (1 : Int32)), .val (.ref b67), .val (.ref b86), .val (.ref b86)] [(.int (1 : Int32))])
      refine E_ifF X111 at_564 (XT.i0_eq_f (by decide)) (pc' := 567) rfl ?_
      refine E_iconst X111 (v := (1 : Int32)) at_567 rfl (pc' := 568) rfl ?_
      refine E_goto X111 at_568 (pc' := 572) (by decide) rfl ?_
      exact E_ireturnN X111 (t := .boolean) at_572 rfl (by simp) (by decide) (by decide) (rfl)
    · skip
      refine E_icT X18 at_54 (XT.ii_ne_t hk1) (pc' := 75) (by decide) rfl ?_
      refine E_iload X18 at_75 rfl (pc' := 77) rfl ?_
      refine E_iconst X18 (v := (2 : Int32)) at_77 rfl (pc' := 78) rfl ?_
      by_cases hk2 : kk = (2 : Int32)
      · skip
        refine E_icF X18 at_78 (XT.ii_ne_f hk2) (pc' := 81) rfl ?_
        subst hk2
        refine E_iconst X18 (v := (3 : Int32)) at_81 rfl (pc' := 82) rfl ?_
        refine E_newarray X18 3 at_82 (hw _ (List.mem_of_getElem? (i := 8) rfl)) (by decide) (by decide) (by decide) (by decide) (by decide) (pc' := 84) rfl ?_
        intro T114 b116 k120 X115 hb117 K118 V119
        have g121 : Z.heap.size ≤ b116 := Nat.le_trans X18.le (Nat.le_of_eq hb117.symm)
        have V122 : Arv Z T114.heap b116 k120 .char (3 : Int32) [(.int (0 : Int32)), (.int (0 : Int32)), (.int (0 : Int32))] (.int (0 : Int32)) := V119.pad (pad_rep [] (.int (0 : Int32)) 3)
        refine E_dup X115 at_84 rfl (pc' := 85) rfl ?_
        refine E_iconst X115 (v := (0 : Int32)) at_85 rfl (pc' := 86) rfl ?_
        refine E_iload X115 at_86 rfl (pc' := 88) rfl ?_
        refine E_castore X115 0 (y := z1) at_88 (rst_nar (Or.inl az1)) V122 ⟨by decide, by decide⟩ rfl (Nat.le_of_ble_eq_true rfl) g121 (pc' := 89) rfl ?_
        intro T123 X124 K125 V126
        have V127 : Arv Z T123.heap b116 k120 .char (3 : Int32) [(.int z1), (.int (0 : Int32)), (.int (0 : Int32))] (.int (0 : Int32)) := V126
        refine E_dup X124 at_89 rfl (pc' := 90) rfl ?_
        refine E_iconst X124 (v := (1 : Int32)) at_90 rfl (pc' := 91) rfl ?_
        refine E_iload X124 at_91 rfl (pc' := 93) rfl ?_
        refine E_castore X124 1 (y := z6) at_93 (rst_nar az6) V127 ⟨by decide, by decide⟩ rfl (Nat.le_of_ble_eq_true rfl) g121 (pc' := 94) rfl ?_
        intro T128 X129 K130 V131
        have V132 : Arv Z T128.heap b116 k120 .char (3 : Int32) [(.int z1), (.int z6), (.int (0 : Int32))] (.int (0 : Int32)) := V131
        refine E_dup X129 at_94 rfl (pc' := 95) rfl ?_
        refine E_iconst X129 (v := (2 : Int32)) at_95 rfl (pc' := 96) rfl ?_
        refine E_iload X129 at_96 rfl (pc' := 98) rfl ?_
        refine E_castore X129 2 (y := z11) at_98 (rst_nar az11) V132 ⟨by decide, by decide⟩ rfl (Nat.le_of_ble_eq_true rfl) g121 (pc' := 99) rfl ?_
        intro T133 X134 K135 V136
        have V137 : Arv Z T133.heap b116 k120 .char (3 : Int32) [(.int z1), (.int z6), (.int z11)] (.int (0 : Int32)) := V136
        refine E_astore X134 at_99 rfl (l' := #[.val (.int p0), .val (.int p1), .val (.int p2), .val (.int p3), .val (.int p4), .val (.int z1), .val (.int z6), .val (.int z11), .val (.int z16), .val (.int (2 : Int32)), .val (.ref b116), .unset, .unset]) rfl (pc' := 101) rfl ?_
        refine E_goto X134 at_101 (pc' := 516) (by decide) rfl ?_
        refine E_new X134 at_516 (hw _ (List.mem_of_getElem? (i := 9) rfl)) (hw _ (List.mem_of_getElem? (i := 10) rfl)) (hw _ (List.mem_of_getElem? (i := 11) rfl)) (by decide) (by decide) (pc' := 519) rfl ?_
        intro T138 b140 X139 hb141 K142 E143 D144
        have ne145 : b116 ≠ b140 := Nat.ne_of_lt (Nat.lt_of_lt_of_eq V137.lt hb141.symm)
        have Arv_146 := V137.keep K142 nin0
        have g147 : Z.heap.size ≤ b140 := Nat.le_trans X134.le (Nat.le_of_eq hb141.symm)
        have F148 : Fld Z T138.heap b140 "java/lang/String" "coder" "B" (.int (0 : Int32)) := D144 (Or.inr (hw _ (List.mem_of_getElem? (i := 35) rfl))) (ty := .byte) (by decide)
        have F149 : Fld Z T138.heap b140 "java/lang/String" "value" "[B" .null := D144 (Or.inr (hw _ (List.mem_of_getElem? (i := 37) rfl))) (ty := (.array .byte)) (by decide)
        refine E_dup X139 at_519 rfl (pc' := 520) rfl ?_
        refine E_aload X139 at_520 rfl rfl (pc' := 522) rfl ?_
        refine E_special X139 (rm := rm_sinit) (a := b140) at_522 rfl rfl (hw _ (List.mem_of_getElem? (i := 12) rfl)) (hw _ (List.mem_of_getElem? (i := 13) rfl)) (hw _ (List.mem_of_getElem? (i := 14) rfl)) (by decide) (hw _ (List.mem_of_getElem? (i := 11) rfl)) (argsL := [(.ref b116)]) (st := [(.ref b140)]) rfl (ct_sinit l Z a0 hw G1 G3 OS b140 b116 k120 [z1, z6, z11] (.int (0 : Int32)) .null (.int (0 : Int32)) X139.old (Nat.le_of_ble_eq_true rfl) (Nat.le_of_ble_eq_true rfl) (allC (rst_ch (Or.inl az1)) (allC (rst_ch az6) (allC (rst_ch az11) allN))) E143 F149 F148 g147 Arv_146) (lenOf (pd_11) rfl) rfl (by decide) (by decide) (by decide) (Nat.le_of_ble_eq_true rfl) (pc' := 525) rfl ?_
        intro T150 _ X151 hQ152
        obtain ⟨rfl, K153, t154, sz155, S156⟩ := hQ152
        have ne157 : b116 ≠ t154 := Nat.ne_of_lt (Nat.lt_of_lt_of_le Arv_146.lt sz155)
        have ne158 : b140 ≠ t154 := Nat.ne_of_lt (Nat.lt_of_lt_of_le E143.lt sz155)
        have Arv_159 := Arv_146.keep K153 (ninS ne145 nin0)
        show Ends p e below s Z _ _ _ T150 (mkF m 525 #[.val (.int p0), .val (.int p1), .val (.int p2), .val (.int p3), .val (.int p4), .val (.int z1), .val (.int z6), .val (.int z11), .val (.int z16), .val (.int (2 : Int32)), .val (.ref b116), .unset, .unset] [(.ref b140)])
        refine E_astore X151 at_525 rfl (l' := #[.val (.int p0), .val (.int p1), .val (.int p2), .val (.int p3), .val (.int p4), .val (.int z1), .val (.int z6), .val (.int z11), .val (.int z16), .val (.int (2 : Int32)), .val (.ref b116), .val (.ref b140), .unset]) rfl (pc' := 527) rfl ?_
        refine E_iload X151 at_527 rfl (pc' := 529) rfl ?_
        refine E_iconst X151 (v := (4 : Int32)) at_529 rfl (pc' := 530) rfl ?_
        refine E_icT X151 at_530 (XT.ii_ne_t (by decide)) (pc' := 545) (by decide) rfl ?_
        refine E_aload X151 at_545 rfl rfl (pc' := 547) rfl ?_
        refine E_static X151 (rm := rm_reqname) at_547 (hw _ (List.mem_of_getElem? (i := 38) rfl)) (hw _ (List.mem_of_getElem? (i := 39) rfl)) (hw _ (List.mem_of_getElem? (i := 40) rfl)) (hw _ (List.mem_of_getElem? (i := 41) rfl)) (by decide) (argsL := [(.ref b140)]) (st := []) rfl (ct_reqname l Z a0 hw G1 G3 OS b140 t154 [z1, z6, z11] X151.old S156 (Nat.le_of_ble_eq_true rfl) (Nat.le_of_ble_eq_true rfl) (allC (Or.inl az1) (allC az6 (allC az11 allN))) az1) (lenOf (pd_12) rfl) rfl (by decide) (by decide) (by decide) (Nat.le_of_ble_eq_true rfl) (pc' := 550) rfl ?_
        intro T160 _ X161 hQ162
        obtain ⟨rfl, e163⟩ := hQ162
        rw [← e163] at Arv_159 S156
        show Ends p e below s Z _ _ _ T160 (mkF m 550 #[.val (.int p0), .val (.int p1), .val (.int p2), .val (.int p3), .val (.int p4), .val (.int z1), .val (.int z6), .val (.int z11), .val (.int z16), .val (.int (2 : Int32)), .val (.ref b116), .val (.ref b140), .unset] [(.ref b140)])
        refine E_astore X161 at_550 rfl (l' := #[.val (.int p0), .val (.int p1), .val (.int p2), .val (.int p3), .val (.int p4), .val (.int z1), .val (.int z6), .val (.int z11), .val (.int z16), .val (.int (2 : Int32)), .val (.ref b116), .val (.ref b140), .val (.ref b140)]) rfl (pc' := 552) rfl ?_
        refine E_aload X161 at_552 rfl rfl (pc' := 554) rfl ?_
        refine E_nullF X161 at_554 (pc' := 557) rfl ?_
        refine E_aload X161 at_557 rfl rfl (pc' := 559) rfl ?_
        refine E_aload X161 at_559 rfl rfl (pc' := 561) rfl ?_
        refine E_virtual X161 (rm := rm_eqself) (a := b140) (D := "java/lang/String") at_561 (hw _ (List.mem_of_getElem? (i := 79) rfl)) (hw _ (List.mem_of_getElem? (i := 80) rfl)) (hw _ (List.mem_of_getElem? (i := 82) rfl)) (hw _ (List.mem_of_getElem? (i := 81) rfl)) (notFace_of_selects (args := #[]) (mvT X161.hZ (hw _ (List.mem_of_getElem? (i := 82) rfl)))) (by decide) (OStr.exa S156) (hw _ (List.mem_of_getElem? (i := 11) rfl)) (hw _ (List.mem_of_getElem? (i := 83) rfl)) (argsL := [(.ref b140)]) (st := []) rfl (ct_eqself l Z a0 hw G1 G3 OS b140 X161.old) (lenOf (pd_13) rfl) rfl (by decide) (by decide) (by decide) (Nat.le_of_ble_eq_true rfl) (pc' := 564) rfl ?_
        intro T164 _ X165 hQ166
        obtain ⟨rfl, e167⟩ := hQ166
        rw [← e167] at Arv_159 S156
        show Ends p e below s Z _ _ _ T164 (mkF m 564 #[.val (.int p0), .val (.int p1), .val (.int p2), .val (.int p3), .val (.int p4), .val (.int z1), .val (.int z6), .val (.int z11), .val (.int z16), .val (.int (2 : Int32)), .val (.ref b116), .val (.ref b140), .val (.ref b140)] [(.int (1 : Int32))])
        refine E_ifF X165 at_564 (XT.i0_eq_f (by decide)) (pc' := 567) rfl ?_
        refine E_iconst X165 (v := (1 : Int32)) at_567 rfl (pc' := 568) rfl ?_
        refine E_goto X165 at_568 (pc' := 572) (by decide) rfl ?_
        exact E_ireturnN X165 (t := .boolean) at_572 rfl (by simp) (by decide) (by decide) (rfl)
      · skip
        refine E_icT X18 at_78 (XT.ii_ne_t hk2) (pc' := 104) (by decide) rfl ?_
        refine E_iload X18 at_104 rfl (pc' := 106) rfl ?_
        refine E_iconst X18 (v := (3 : Int32)) at_106 rfl (pc' := 107) rfl ?_
        by_cases hk3 : kk = (3 : Int32)
        · skip
          refine E_icF X18 at_107 (XT.ii_ne_f hk3) (pc' := 110) rfl ?_
          subst hk3
          refine E_iconst X18 (v := (4 : Int32)) at_110 rfl (pc' := 111) rfl ?_
          refine E_newarray X18 4 at_111 (hw _ (List.mem_of_getElem? (i := 8) rfl)) (by decide) (by decide) (by decide) (by decide) (by decide) (pc' := 113) rfl ?_
          intro T168 b170 k174 X169 hb171 K172 V173
          have g175 : Z.heap.size ≤ b170 := Nat.le_trans X18.le (Nat.le_of_eq hb171.symm)
          have V176 : Arv Z T168.heap b170 k174 .char (4 : Int32) [(.int (0 : Int32)), (.int (0 : Int32)), (.int (0 : Int32)), (.int (0 : Int32))] (.int (0 : Int32)) := V173.pad (pad_rep [] (.int (0 : Int32)) 4)
          refine E_dup X169 at_113 rfl (pc' := 114) rfl ?_
          refine E_iconst X169 (v := (0 : Int32)) at_114 rfl (pc' := 115) rfl ?_
          refine E_iload X169 at_115 rfl (pc' := 117) rfl ?_
          refine E_castore X169 0 (y := z1) at_117 (rst_nar (Or.inl az1)) V176 ⟨by decide, by decide⟩ rfl (Nat.le_of_ble_eq_true rfl) g175 (pc' := 118) rfl ?_
          intro T177 X178 K179 V180
          have V181 : Arv Z T177.heap b170 k174 .char (4 : Int32) [(.int z1), (.int (0 : Int32)), (.int (0 : Int32)), (.int (0 : Int32))] (.int (0 : Int32)) := V180
          refine E_dup X178 at_118 rfl (pc' := 119) rfl ?_
          refine E_iconst X178 (v := (1 : Int32)) at_119 rfl (pc' := 120) rfl ?_
          refine E_iload X178 at_120 rfl (pc' := 122) rfl ?_
          refine E_castore X178 1 (y := z6) at_122 (rst_nar az6) V181 ⟨by decide, by decide⟩ rfl (Nat.le_of_ble_eq_true rfl) g175 (pc' := 123) rfl ?_
          intro T182 X183 K184 V185
          have V186 : Arv Z T182.heap b170 k174 .char (4 : Int32) [(.int z1), (.int z6), (.int (0 : Int32)), (.int (0 : Int32))] (.int (0 : Int32)) := V185
          refine E_dup X183 at_123 rfl (pc' := 124) rfl ?_
          refine E_iconst X183 (v := (2 : Int32)) at_124 rfl (pc' := 125) rfl ?_
          refine E_iload X183 at_125 rfl (pc' := 127) rfl ?_
          refine E_castore X183 2 (y := z11) at_127 (rst_nar az11) V186 ⟨by decide, by decide⟩ rfl (Nat.le_of_ble_eq_true rfl) g175 (pc' := 128) rfl ?_
          intro T187 X188 K189 V190
          have V191 : Arv Z T187.heap b170 k174 .char (4 : Int32) [(.int z1), (.int z6), (.int z11), (.int (0 : Int32))] (.int (0 : Int32)) := V190
          refine E_dup X188 at_128 rfl (pc' := 129) rfl ?_
          refine E_iconst X188 (v := (3 : Int32)) at_129 rfl (pc' := 130) rfl ?_
          refine E_iload X188 at_130 rfl (pc' := 132) rfl ?_
          refine E_castore X188 3 (y := z16) at_132 (rst_nar az16) V191 ⟨by decide, by decide⟩ rfl (Nat.le_of_ble_eq_true rfl) g175 (pc' := 133) rfl ?_
          intro T192 X193 K194 V195
          have V196 : Arv Z T192.heap b170 k174 .char (4 : Int32) [(.int z1), (.int z6), (.int z11), (.int z16)] (.int (0 : Int32)) := V195
          refine E_astore X193 at_133 rfl (l' := #[.val (.int p0), .val (.int p1), .val (.int p2), .val (.int p3), .val (.int p4), .val (.int z1), .val (.int z6), .val (.int z11), .val (.int z16), .val (.int (3 : Int32)), .val (.ref b170), .unset, .unset]) rfl (pc' := 135) rfl ?_
          refine E_goto X193 at_135 (pc' := 516) (by decide) rfl ?_
          refine E_new X193 at_516 (hw _ (List.mem_of_getElem? (i := 9) rfl)) (hw _ (List.mem_of_getElem? (i := 10) rfl)) (hw _ (List.mem_of_getElem? (i := 11) rfl)) (by decide) (by decide) (pc' := 519) rfl ?_
          intro T197 b199 X198 hb200 K201 E202 D203
          have ne204 : b170 ≠ b199 := Nat.ne_of_lt (Nat.lt_of_lt_of_eq V196.lt hb200.symm)
          have Arv_205 := V196.keep K201 nin0
          have g206 : Z.heap.size ≤ b199 := Nat.le_trans X193.le (Nat.le_of_eq hb200.symm)
          have F207 : Fld Z T197.heap b199 "java/lang/String" "coder" "B" (.int (0 : Int32)) := D203 (Or.inr (hw _ (List.mem_of_getElem? (i := 35) rfl))) (ty := .byte) (by decide)
          have F208 : Fld Z T197.heap b199 "java/lang/String" "value" "[B" .null := D203 (Or.inr (hw _ (List.mem_of_getElem? (i := 37) rfl))) (ty := (.array .byte)) (by decide)
          refine E_dup X198 at_519 rfl (pc' := 520) rfl ?_
          refine E_aload X198 at_520 rfl rfl (pc' := 522) rfl ?_
          refine E_special X198 (rm := rm_sinit) (a := b199) at_522 rfl rfl (hw _ (List.mem_of_getElem? (i := 12) rfl)) (hw _ (List.mem_of_getElem? (i := 13) rfl)) (hw _ (List.mem_of_getElem? (i := 14) rfl)) (by decide) (hw _ (List.mem_of_getElem? (i := 11) rfl)) (argsL := [(.ref b170)]) (st := [(.ref b199)]) rfl (ct_sinit l Z a0 hw G1 G3 OS b199 b170 k174 [z1, z6, z11, z16] (.int (0 : Int32)) .null (.int (0 : Int32)) X198.old (Nat.le_of_ble_eq_true rfl) (Nat.le_of_ble_eq_true rfl) (allC (rst_ch (Or.inl az1)) (allC (rst_ch az6) (allC (rst_ch az11) (allC (rst_ch az16) allN)))) E202 F208 F207 g206 Arv_205) (lenOf (pd_11) rfl) rfl (by decide) (by decide) (by decide) (Nat.le_of_ble_eq_true rfl) (pc' := 525) rfl ?_
          intro T209 _ X210 hQ211
          obtain ⟨rfl, K212, t213, sz214, S215⟩ := hQ211
          have ne216 : b170 ≠ t213 := Nat.ne_of_lt (Nat.lt_of_lt_of_le Arv_205.lt sz214)
          have ne217 : b199 ≠ t213 := Nat.ne_of_lt (Nat.lt_of_lt_of_le E202.lt sz214)
          have Arv_218 := Arv_205.keep K212 (ninS ne204 nin0)
          show Ends p e below s Z _ _ _ T209 (mkF m 525 #[.val (.int p0), .val (.int p1), .val (.int p2), .val (.int p3), .val (.int p4), .val (.int z1), .val (.int z6), .val (.int z11), .val (.int z16), .val (.int (3 : Int32)), .val (.ref b170), .unset, .unset] [(.ref b199)])
          refine E_astore X210 at_525 rfl (l' := #[.val (.int p0), .val (.int p1), .val (.int p2), .val (.int p3), .val (.int p4), .val (.int z1), .val (.int z6), .val (.int z11), .val (.int z16), .val (.int (3 : Int32)), .val (.ref b170), .val (.ref b199), .unset]) rfl (pc' := 527) rfl ?_
          refine E_iload X210 at_527 rfl (pc' := 529) rfl ?_
          refine E_iconst X210 (v := (4 : Int32)) at_529 rfl (pc' := 530) rfl ?_
          refine E_icT X210 at_530 (XT.ii_ne_t (by decide)) (pc' := 545) (by decide) rfl ?_
          refine E_aload X210 at_545 rfl rfl (pc' := 547) rfl ?_
          refine E_static X210 (rm := rm_reqname) at_547 (hw _ (List.mem_of_getElem? (i := 38) rfl)) (hw _ (List.mem_of_getElem? (i := 39) rfl)) (hw _ (List.mem_of_getElem? (i := 40) rfl)) (hw _ (List.mem_of_getElem? (i := 41) rfl)) (by decide) (argsL := [(.ref b199)]) (st := []) rfl (ct_reqname l Z a0 hw G1 G3 OS b199 t213 [z1, z6, z11, z16] X210.old S215 (Nat.le_of_ble_eq_true rfl) (Nat.le_of_ble_eq_true rfl) (allC (Or.inl az1) (allC az6 (allC az11 (allC az16 allN)))) az1) (lenOf (pd_12) rfl) rfl (by decide) (by decide) (by decide) (Nat.le_of_ble_eq_true rfl) (pc' := 550) rfl ?_
          intro T219 _ X220 hQ221
          obtain ⟨rfl, e222⟩ := hQ221
          rw [← e222] at Arv_218 S215
          show Ends p e below s Z _ _ _ T219 (mkF m 550 #[.val (.int p0), .val (.int p1), .val (.int p2), .val (.int p3), .val (.int p4), .val (.int z1), .val (.int z6), .val (.int z11), .val (.int z16), .val (.int (3 : Int32)), .val (.ref b170), .val (.ref b199), .unset] [(.ref b199)])
          refine E_astore X220 at_550 rfl (l' := #[.val (.int p0), .val (.int p1), .val (.int p2), .val (.int p3), .val (.int p4), .val (.int z1), .val (.int z6), .val (.int z11), .val (.int z16), .val (.int (3 : Int32)), .val (.ref b170), .val (.ref b199), .val (.ref b199)]) rfl (pc' := 552) rfl ?_
          refine E_aload X220 at_552 rfl rfl (pc' := 554) rfl ?_
          refine E_nullF X220 at_554 (pc' := 557) rfl ?_
          refine E_aload X220 at_557 rfl rfl (pc' := 559) rfl ?_
          refine E_aload X220 at_559 rfl rfl (pc' := 561) rfl ?_
          refine E_virtual X220 (rm := rm_eqself) (a := b199) (D := "java/lang/String") at_561 (hw _ (List.mem_of_getElem? (i := 79) rfl)) (hw _ (List.mem_of_getElem? (i := 80) rfl)) (hw _ (List.mem_of_getElem? (i := 82) rfl)) (hw _ (List.mem_of_getElem? (i := 81) rfl)) (notFace_of_selects (args := #[]) (mvT X220.hZ (hw _ (List.mem_of_getElem? (i := 82) rfl)))) (by decide) (OStr.exa S215) (hw _ (List.mem_of_getElem? (i := 11) rfl)) (hw _ (List.mem_of_getElem? (i := 83) rfl)) (argsL := [(.ref b199)]) (st := []) rfl (ct_eqself l Z a0 hw G1 G3 OS b199 X220.old) (lenOf (pd_13) rfl) rfl (by decide) (by decide) (by decide) (Nat.le_of_ble_eq_true rfl) (pc' := 564) rfl ?_
          intro T223 _ X224 hQ225
          obtain ⟨rfl, e226⟩ := hQ225
          rw [← e226] at Arv_218 S215
          show Ends p e below s Z _ _ _ T223 (mkF m 564 #[.val (.int p0), .val (.int p1), .val (.int p2), .val (.int p3), .val (.int p4), .val (.int z1), .val (.int z6), .val (.int z11), .val (.int z16), .val (.int (3 : Int32)), .val (.ref b170), .val (.ref b199), .val (.ref b199)] [(.int (1 : Int32))])
          refine E_ifF X224 at_564 (XT.i0_eq_f (by decide)) (pc' := 567) rfl ?_
          refine E_iconst X224 (v := (1 : Int32)) at_567 rfl (pc' := 568) rfl ?_
          refine E_goto X224 at_568 (pc' := 572) (by decide) rfl ?_
          exact E_ireturnN X224 (t := .boolean) at_572 rfl (by simp) (by decide) (by decide) (rfl)
        · skip
          refine E_icT X18 at_107 (XT.ii_ne_t hk3) (pc' := 138) (by decide) rfl ?_
          have h4 : kk = 4 := (((hkc.resolve_left hk0).resolve_left hk1).resolve_left hk2).resolve_left hk3
          subst h4
          refine E_bipush X18 (v := (63 : Int32)) at_138 rfl (pc' := 140) rfl ?_
          refine E_newarray X18 63 at_140 (hw _ (List.mem_of_getElem? (i := 8) rfl)) (by decide) (by decide) (by decide) (by decide) (by decide) (pc' := 142) rfl ?_
          intro T227 b229 k233 X228 hb230 K231 V232
          have g234 : Z.heap.size ≤ b229 := Nat.le_trans X18.le (Nat.le_of_eq hb230.symm)
          have V235 : Arv Z T227.heap b229 k233 .char (63 : Int32) [(.int (0 : Int32)), (.int (0 : Int32)), (.int (0 : Int32)), (.int (0 : Int32)), (.int (0 : Int32)), (.int (0 : Int32)), (.int (0 : Int32)), (.int (0 : Int32)), (.int (0 : Int32)), (.int (0 : Int32)), (.int (0 : Int32)), (.int (0 : Int32)), (.int (0 : Int32)), (.int (0 : Int32)), (.int (0 : Int32)), (.int (0 : Int32)), (.int (0 : Int32)), (.int (0 : Int32)), (.int (0 : Int32)), (.int (0 : Int32)), (.int (0 : Int32)), (.int (0 : Int32)), (.int (0 : Int32)), (.int (0 : Int32)), (.int (0 : Int32)), (.int (0 : Int32)), (.int (0 : Int32)), (.int (0 : Int32)), (.int (0 : Int32)), (.int (0 : Int32)), (.int (0 : Int32)), (.int (0 : Int32)), (.int (0 : Int32)), (.int (0 : Int32)), (.int (0 : Int32)), (.int (0 : Int32)), (.int (0 : Int32)), (.int (0 : Int32)), (.int (0 : Int32)), (.int (0 : Int32)), (.int (0 : Int32)), (.int (0 : Int32)), (.int (0 : Int32)), (.int (0 : Int32)), (.int (0 : Int32)), (.int (0 : Int32)), (.int (0 : Int32)), (.int (0 : Int32)), (.int (0 : Int32)), (.int (0 : Int32)), (.int (0 : Int32)), (.int (0 : Int32)), (.int (0 : Int32)), (.int (0 : Int32)), (.int (0 : Int32)), (.int (0 : Int32)), (.int (0 : Int32)), (.int (0 : Int32)), (.int (0 : Int32)), (.int (0 : Int32)), (.int (0 : Int32)), (.int (0 : Int32)), (.int (0 : Int32))] (.int (0 : Int32)) := V232.pad (pad_rep [] (.int (0 : Int32)) 63)
          refine E_dup X228 at_142 rfl (pc' := 143) rfl ?_
          refine E_iconst X228 (v := (0 : Int32)) at_143 rfl (pc' := 144) rfl ?_
          refine E_iload X228 at_144 rfl (pc' := 146) rfl ?_
          refine E_castore X228 0 (y := z1) at_146 (rst_nar (Or.inl az1)) V235 ⟨by decide, by decide⟩ rfl (Nat.le_of_ble_eq_true rfl) g234 (pc' := 147) rfl ?_
          intro T236 X237 K238 V239
          have V240 : Arv Z T236.heap b229 k233 .char (63 : Int32) [(.int z1), (.int (0 : Int32)), (.int (0 : Int32)), (.int (0 : Int32)), (.int (0 : Int32)), (.int (0 : Int32)), (.int (0 : Int32)), (.int (0 : Int32)), (.int (0 : Int32)), (.int (0 : Int32)), (.int (0 : Int32)), (.int (0 : Int32)), (.int (0 : Int32)), (.int (0 : Int32)), (.int (0 : Int32)), (.int (0 : Int32)), (.int (0 : Int32)), (.int (0 : Int32)), (.int (0 : Int32)), (.int (0 : Int32)), (.int (0 : Int32)), (.int (0 : Int32)), (.int (0 : Int32)), (.int (0 : Int32)), (.int (0 : Int32)), (.int (0 : Int32)), (.int (0 : Int32)), (.int (0 : Int32)), (.int (0 : Int32)), (.int (0 : Int32)), (.int (0 : Int32)), (.int (0 : Int32)), (.int (0 : Int32)), (.int (0 : Int32)), (.int (0 : Int32)), (.int (0 : Int32)), (.int (0 : Int32)), (.int (0 : Int32)), (.int (0 : Int32)), (.int (0 : Int32)), (.int (0 : Int32)), (.int (0 : Int32)), (.int (0 : Int32)), (.int (0 : Int32)), (.int (0 : Int32)), (.int (0 : Int32)), (.int (0 : Int32)), (.int (0 : Int32)), (.int (0 : Int32)), (.int (0 : Int32)), (.int (0 : Int32)), (.int (0 : Int32)), (.int (0 : Int32)), (.int (0 : Int32)), (.int (0 : Int32)), (.int (0 : Int32)), (.int (0 : Int32)), (.int (0 : Int32)), (.int (0 : Int32)), (.int (0 : Int32)), (.int (0 : Int32)), (.int (0 : Int32)), (.int (0 : Int32))] (.int (0 : Int32)) := V239
          refine E_dup X237 at_147 rfl (pc' := 148) rfl ?_
          refine E_iconst X237 (v := (1 : Int32)) at_148 rfl (pc' := 149) rfl ?_
          refine E_iload X237 at_149 rfl (pc' := 151) rfl ?_
          refine E_castore X237 1 (y := z6) at_151 (rst_nar az6) V240 ⟨by decide, by decide⟩ rfl (Nat.le_of_ble_eq_true rfl) g234 (pc' := 152) rfl ?_
          intro T241 X242 K243 V244
          have V245 : Arv Z T241.heap b229 k233 .char (63 : Int32) [(.int z1), (.int z6), (.int (0 : Int32)), (.int (0 : Int32)), (.int (0 : Int32)), (.int (0 : Int32)), (.int (0 : Int32)), (.int (0 : Int32)), (.int (0 : Int32)), (.int (0 : Int32)), (.int (0 : Int32)), (.int (0 : Int32)), (.int (0 : Int32)), (.int (0 : Int32)), (.int (0 : Int32)), (.int (0 : Int32)), (.int (0 : Int32)), (.int (0 : Int32)), (.int (0 : Int32)), (.int (0 : Int32)), (.int (0 : Int32)), (.int (0 : Int32)), (.int (0 : Int32)), (.int (0 : Int32)), (.int (0 : Int32)), (.int (0 : Int32)), (.int (0 : Int32)), (.int (0 : Int32)), (.int (0 : Int32)), (.int (0 : Int32)), (.int (0 : Int32)), (.int (0 : Int32)), (.int (0 : Int32)), (.int (0 : Int32)), (.int (0 : Int32)), (.int (0 : Int32)), (.int (0 : Int32)), (.int (0 : Int32)), (.int (0 : Int32)), (.int (0 : Int32)), (.int (0 : Int32)), (.int (0 : Int32)), (.int (0 : Int32)), (.int (0 : Int32)), (.int (0 : Int32)), (.int (0 : Int32)), (.int (0 : Int32)), (.int (0 : Int32)), (.int (0 : Int32)), (.int (0 : Int32)), (.int (0 : Int32)), (.int (0 : Int32)), (.int (0 : Int32)), (.int (0 : Int32)), (.int (0 : Int32)), (.int (0 : Int32)), (.int (0 : Int32)), (.int (0 : Int32)), (.int (0 : Int32)), (.int (0 : Int32)), (.int (0 : Int32)), (.int (0 : Int32)), (.int (0 : Int32))] (.int (0 : Int32)) := V244
          refine E_dup X242 at_152 rfl (pc' := 153) rfl ?_
          refine E_iconst X242 (v := (2 : Int32)) at_153 rfl (pc' := 154) rfl ?_
          refine E_iload X242 at_154 rfl (pc' := 156) rfl ?_
          refine E_castore X242 2 (y := z11) at_156 (rst_nar az11) V245 ⟨by decide, by decide⟩ rfl (Nat.le_of_ble_eq_true rfl) g234 (pc' := 157) rfl ?_
          intro T246 X247 K248 V249
          have V250 : Arv Z T246.heap b229 k233 .char (63 : Int32) [(.int z1), (.int z6), (.int z11), (.int (0 : Int32)), (.int (0 : Int32)), (.int (0 : Int32)), (.int (0 : Int32)), (.int (0 : Int32)), (.int (0 : Int32)), (.int (0 : Int32)), (.int (0 : Int32)), (.int (0 : Int32)), (.int (0 : Int32)), (.int (0 : Int32)), (.int (0 : Int32)), (.int (0 : Int32)), (.int (0 : Int32)), (.int (0 : Int32)), (.int (0 : Int32)), (.int (0 : Int32)), (.int (0 : Int32)), (.int (0 : Int32)), (.int (0 : Int32)), (.int (0 : Int32)), (.int (0 : Int32)), (.int (0 : Int32)), (.int (0 : Int32)), (.int (0 : Int32)), (.int (0 : Int32)), (.int (0 : Int32)), (.int (0 : Int32)), (.int (0 : Int32)), (.int (0 : Int32)), (.int (0 : Int32)), (.int (0 : Int32)), (.int (0 : Int32)), (.int (0 : Int32)), (.int (0 : Int32)), (.int (0 : Int32)), (.int (0 : Int32)), (.int (0 : Int32)), (.int (0 : Int32)), (.int (0 : Int32)), (.int (0 : Int32)), (.int (0 : Int32)), (.int (0 : Int32)), (.int (0 : Int32)), (.int (0 : Int32)), (.int (0 : Int32)), (.int (0 : Int32)), (.int (0 : Int32)), (.int (0 : Int32)), (.int (0 : Int32)), (.int (0 : Int32)), (.int (0 : Int32)), (.int (0 : Int32)), (.int (0 : Int32)), (.int (0 : Int32)), (.int (0 : Int32)), (.int (0 : Int32)), (.int (0 : Int32)), (.int (0 : Int32)), (.int (0 : Int32))] (.int (0 : Int32)) := V249
          refine E_dup X247 at_157 rfl (pc' := 158) rfl ?_
          refine E_iconst X247 (v := (3 : Int32)) at_158 rfl (pc' := 159) rfl ?_
          refine E_iload X247 at_159 rfl (pc' := 161) rfl ?_
          refine E_castore X247 3 (y := z16) at_161 (rst_nar az16) V250 ⟨by decide, by decide⟩ rfl (Nat.le_of_ble_eq_true rfl) g234 (pc' := 162) rfl ?_
          intro T251 X252 K253 V254
          have V255 : Arv Z T251.heap b229 k233 .char (63 : Int32) [(.int z1), (.int z6), (.int z11), (.int z16), (.int (0 : Int32)), (.int (0 : Int32)), (.int (0 : Int32)), (.int (0 : Int32)), (.int (0 : Int32)), (.int (0 : Int32)), (.int (0 : Int32)), (.int (0 : Int32)), (.int (0 : Int32)), (.int (0 : Int32)), (.int (0 : Int32)), (.int (0 : Int32)), (.int (0 : Int32)), (.int (0 : Int32)), (.int (0 : Int32)), (.int (0 : Int32)), (.int (0 : Int32)), (.int (0 : Int32)), (.int (0 : Int32)), (.int (0 : Int32)), (.int (0 : Int32)), (.int (0 : Int32)), (.int (0 : Int32)), (.int (0 : Int32)), (.int (0 : Int32)), (.int (0 : Int32)), (.int (0 : Int32)), (.int (0 : Int32)), (.int (0 : Int32)), (.int (0 : Int32)), (.int (0 : Int32)), (.int (0 : Int32)), (.int (0 : Int32)), (.int (0 : Int32)), (.int (0 : Int32)), (.int (0 : Int32)), (.int (0 : Int32)), (.int (0 : Int32)), (.int (0 : Int32)), (.int (0 : Int32)), (.int (0 : Int32)), (.int (0 : Int32)), (.int (0 : Int32)), (.int (0 : Int32)), (.int (0 : Int32)), (.int (0 : Int32)), (.int (0 : Int32)), (.int (0 : Int32)), (.int (0 : Int32)), (.int (0 : Int32)), (.int (0 : Int32)), (.int (0 : Int32)), (.int (0 : Int32)), (.int (0 : Int32)), (.int (0 : Int32)), (.int (0 : Int32)), (.int (0 : Int32)), (.int (0 : Int32)), (.int (0 : Int32))] (.int (0 : Int32)) := V254
          refine E_dup X252 at_162 rfl (pc' := 163) rfl ?_
          refine E_iconst X252 (v := (4 : Int32)) at_163 rfl (pc' := 164) rfl ?_
          refine E_iload X252 at_164 rfl (pc' := 166) rfl ?_
          refine E_castore X252 4 (y := z6) at_166 (rst_nar az6) V255 ⟨by decide, by decide⟩ rfl (Nat.le_of_ble_eq_true rfl) g234 (pc' := 167) rfl ?_
          intro T256 X257 K258 V259
          have V260 : Arv Z T256.heap b229 k233 .char (63 : Int32) [(.int z1), (.int z6), (.int z11), (.int z16), (.int z6), (.int (0 : Int32)), (.int (0 : Int32)), (.int (0 : Int32)), (.int (0 : Int32)), (.int (0 : Int32)), (.int (0 : Int32)), (.int (0 : Int32)), (.int (0 : Int32)), (.int (0 : Int32)), (.int (0 : Int32)), (.int (0 : Int32)), (.int (0 : Int32)), (.int (0 : Int32)), (.int (0 : Int32)), (.int (0 : Int32)), (.int (0 : Int32)), (.int (0 : Int32)), (.int (0 : Int32)), (.int (0 : Int32)), (.int (0 : Int32)), (.int (0 : Int32)), (.int (0 : Int32)), (.int (0 : Int32)), (.int (0 : Int32)), (.int (0 : Int32)), (.int (0 : Int32)), (.int (0 : Int32)), (.int (0 : Int32)), (.int (0 : Int32)), (.int (0 : Int32)), (.int (0 : Int32)), (.int (0 : Int32)), (.int (0 : Int32)), (.int (0 : Int32)), (.int (0 : Int32)), (.int (0 : Int32)), (.int (0 : Int32)), (.int (0 : Int32)), (.int (0 : Int32)), (.int (0 : Int32)), (.int (0 : Int32)), (.int (0 : Int32)), (.int (0 : Int32)), (.int (0 : Int32)), (.int (0 : Int32)), (.int (0 : Int32)), (.int (0 : Int32)), (.int (0 : Int32)), (.int (0 : Int32)), (.int (0 : Int32)), (.int (0 : Int32)), (.int (0 : Int32)), (.int (0 : Int32)), (.int (0 : Int32)), (.int (0 : Int32)), (.int (0 : Int32)), (.int (0 : Int32)), (.int (0 : Int32))] (.int (0 : Int32)) := V259
          refine E_dup X257 at_167 rfl (pc' := 168) rfl ?_
          refine E_iconst X257 (v := (5 : Int32)) at_168 rfl (pc' := 169) rfl ?_
          refine E_iload X257 at_169 rfl (pc' := 171) rfl ?_
          refine E_castore X257 5 (y := z11) at_171 (rst_nar az11) V260 ⟨by decide, by decide⟩ rfl (Nat.le_of_ble_eq_true rfl) g234 (pc' := 172) rfl ?_
          intro T261 X262 K263 V264
          have V265 : Arv Z T261.heap b229 k233 .char (63 : Int32) [(.int z1), (.int z6), (.int z11), (.int z16), (.int z6), (.int z11), (.int (0 : Int32)), (.int (0 : Int32)), (.int (0 : Int32)), (.int (0 : Int32)), (.int (0 : Int32)), (.int (0 : Int32)), (.int (0 : Int32)), (.int (0 : Int32)), (.int (0 : Int32)), (.int (0 : Int32)), (.int (0 : Int32)), (.int (0 : Int32)), (.int (0 : Int32)), (.int (0 : Int32)), (.int (0 : Int32)), (.int (0 : Int32)), (.int (0 : Int32)), (.int (0 : Int32)), (.int (0 : Int32)), (.int (0 : Int32)), (.int (0 : Int32)), (.int (0 : Int32)), (.int (0 : Int32)), (.int (0 : Int32)), (.int (0 : Int32)), (.int (0 : Int32)), (.int (0 : Int32)), (.int (0 : Int32)), (.int (0 : Int32)), (.int (0 : Int32)), (.int (0 : Int32)), (.int (0 : Int32)), (.int (0 : Int32)), (.int (0 : Int32)), (.int (0 : Int32)), (.int (0 : Int32)), (.int (0 : Int32)), (.int (0 : Int32)), (.int (0 : Int32)), (.int (0 : Int32)), (.int (0 : Int32)), (.int (0 : Int32)), (.int (0 : Int32)), (.int (0 : Int32)), (.int (0 : Int32)), (.int (0 : Int32)), (.int (0 : Int32)), (.int (0 : Int32)), (.int (0 : Int32)), (.int (0 : Int32)), (.int (0 : Int32)), (.int (0 : Int32)), (.int (0 : Int32)), (.int (0 : Int32)), (.int (0 : Int32)), (.int (0 : Int32)), (.int (0 : Int32))] (.int (0 : Int32)) := V264
          refine E_dup X262 at_172 rfl (pc' := 173) rfl ?_
          refine E_bipush X262 (v := (6 : Int32)) at_173 rfl (pc' := 175) rfl ?_
          refine E_iload X262 at_175 rfl (pc' := 177) rfl ?_
          refine E_castore X262 6 (y := z16) at_177 (rst_nar az16) V265 ⟨by decide, by decide⟩ rfl (Nat.le_of_ble_eq_true rfl) g234 (pc' := 178) rfl ?_
          intro T266 X267 K268 V269
          have V270 : Arv Z T266.heap b229 k233 .char (63 : Int32) [(.int z1), (.int z6), (.int z11), (.int z16), (.int z6), (.int z11), (.int z16), (.int (0 : Int32)), (.int (0 : Int32)), (.int (0 : Int32)), (.int (0 : Int32)), (.int (0 : Int32)), (.int (0 : Int32)), (.int (0 : Int32)), (.int (0 : Int32)), (.int (0 : Int32)), (.int (0 : Int32)), (.int (0 : Int32)), (.int (0 : Int32)), (.int (0 : Int32)), (.int (0 : Int32)), (.int (0 : Int32)), (.int (0 : Int32)), (.int (0 : Int32)), (.int (0 : Int32)), (.int (0 : Int32)), (.int (0 : Int32)), (.int (0 : Int32)), (.int (0 : Int32)), (.int (0 : Int32)), (.int (0 : Int32)), (.int (0 : Int32)), (.int (0 : Int32)), (.int (0 : Int32)), (.int (0 : Int32)), (.int (0 : Int32)), (.int (0 : Int32)), (.int (0 : Int32)), (.int (0 : Int32)), (.int (0 : Int32)), (.int (0 : Int32)), (.int (0 : Int32)), (.int (0 : Int32)), (.int (0 : Int32)), (.int (0 : Int32)), (.int (0 : Int32)), (.int (0 : Int32)), (.int (0 : Int32)), (.int (0 : Int32)), (.int (0 : Int32)), (.int (0 : Int32)), (.int (0 : Int32)), (.int (0 : Int32)), (.int (0 : Int32)), (.int (0 : Int32)), (.int (0 : Int32)), (.int (0 : Int32)), (.int (0 : Int32)), (.int (0 : Int32)), (.int (0 : Int32)), (.int (0 : Int32)), (.int (0 : Int32)), (.int (0 : Int32))] (.int (0 : Int32)) := V269
          refine E_dup X267 at_178 rfl (pc' := 179) rfl ?_
          refine E_bipush X267 (v := (7 : Int32)) at_179 rfl (pc' := 181) rfl ?_
          refine E_iload X267 at_181 rfl (pc' := 183) rfl ?_
          refine E_castore X267 7 (y := z6) at_183 (rst_nar az6) V270 ⟨by decide, by decide⟩ rfl (Nat.le_of_ble_eq_true rfl) g234 (pc' := 184) rfl ?_
          intro T271 X272 K273 V274
          have V275 : Arv Z T271.heap b229 k233 .char (63 : Int32) [(.int z1), (.int z6), (.int z11), (.int z16), (.int z6), (.int z11), (.int z16), (.int z6), (.int (0 : Int32)), (.int (0 : Int32)), (.int (0 : Int32)), (.int (0 : Int32)), (.int (0 : Int32)), (.int (0 : Int32)), (.int (0 : Int32)), (.int (0 : Int32)), (.int (0 : Int32)), (.int (0 : Int32)), (.int (0 : Int32)), (.int (0 : Int32)), (.int (0 : Int32)), (.int (0 : Int32)), (.int (0 : Int32)), (.int (0 : Int32)), (.int (0 : Int32)), (.int (0 : Int32)), (.int (0 : Int32)), (.int (0 : Int32)), (.int (0 : Int32)), (.int (0 : Int32)), (.int (0 : Int32)), (.int (0 : Int32)), (.int (0 : Int32)), (.int (0 : Int32)), (.int (0 : Int32)), (.int (0 : Int32)), (.int (0 : Int32)), (.int (0 : Int32)), (.int (0 : Int32)), (.int (0 : Int32)), (.int (0 : Int32)), (.int (0 : Int32)), (.int (0 : Int32)), (.int (0 : Int32)), (.int (0 : Int32)), (.int (0 : Int32)), (.int (0 : Int32)), (.int (0 : Int32)), (.int (0 : Int32)), (.int (0 : Int32)), (.int (0 : Int32)), (.int (0 : Int32)), (.int (0 : Int32)), (.int (0 : Int32)), (.int (0 : Int32)), (.int (0 : Int32)), (.int (0 : Int32)), (.int (0 : Int32)), (.int (0 : Int32)), (.int (0 : Int32)), (.int (0 : Int32)), (.int (0 : Int32)), (.int (0 : Int32))] (.int (0 : Int32)) := V274
          refine E_dup X272 at_184 rfl (pc' := 185) rfl ?_
          refine E_bipush X272 (v := (8 : Int32)) at_185 rfl (pc' := 187) rfl ?_
          refine E_iload X272 at_187 rfl (pc' := 189) rfl ?_
          refine E_castore X272 8 (y := z11) at_189 (rst_nar az11) V275 ⟨by decide, by decide⟩ rfl (Nat.le_of_ble_eq_true rfl) g234 (pc' := 190) rfl ?_
          intro T276 X277 K278 V279
          have V280 : Arv Z T276.heap b229 k233 .char (63 : Int32) [(.int z1), (.int z6), (.int z11), (.int z16), (.int z6), (.int z11), (.int z16), (.int z6), (.int z11), (.int (0 : Int32)), (.int (0 : Int32)), (.int (0 : Int32)), (.int (0 : Int32)), (.int (0 : Int32)), (.int (0 : Int32)), (.int (0 : Int32)), (.int (0 : Int32)), (.int (0 : Int32)), (.int (0 : Int32)), (.int (0 : Int32)), (.int (0 : Int32)), (.int (0 : Int32)), (.int (0 : Int32)), (.int (0 : Int32)), (.int (0 : Int32)), (.int (0 : Int32)), (.int (0 : Int32)), (.int (0 : Int32)), (.int (0 : Int32)), (.int (0 : Int32)), (.int (0 : Int32)), (.int (0 : Int32)), (.int (0 : Int32)), (.int (0 : Int32)), (.int (0 : Int32)), (.int (0 : Int32)), (.int (0 : Int32)), (.int (0 : Int32)), (.int (0 : Int32)), (.int (0 : Int32)), (.int (0 : Int32)), (.int (0 : Int32)), (.int (0 : Int32)), (.int (0 : Int32)), (.int (0 : Int32)), (.int (0 : Int32)), (.int (0 : Int32)), (.int (0 : Int32)), (.int (0 : Int32)), (.int (0 : Int32)), (.int (0 : Int32)), (.int (0 : Int32)), (.int (0 : Int32)), (.int (0 : Int32)), (.int (0 : Int32)), (.int (0 : Int32)), (.int (0 : Int32)), (.int (0 : Int32)), (.int (0 : Int32)), (.int (0 : Int32)), (.int (0 : Int32)), (.int (0 : Int32)), (.int (0 : Int32))] (.int (0 : Int32)) := V279
          refine E_dup X277 at_190 rfl (pc' := 191) rfl ?_
          refine E_bipush X277 (v := (9 : Int32)) at_191 rfl (pc' := 193) rfl ?_
          refine E_iload X277 at_193 rfl (pc' := 195) rfl ?_
          refine E_castore X277 9 (y := z16) at_195 (rst_nar az16) V280 ⟨by decide, by decide⟩ rfl (Nat.le_of_ble_eq_true rfl) g234 (pc' := 196) rfl ?_
          intro T281 X282 K283 V284
          have V285 : Arv Z T281.heap b229 k233 .char (63 : Int32) [(.int z1), (.int z6), (.int z11), (.int z16), (.int z6), (.int z11), (.int z16), (.int z6), (.int z11), (.int z16), (.int (0 : Int32)), (.int (0 : Int32)), (.int (0 : Int32)), (.int (0 : Int32)), (.int (0 : Int32)), (.int (0 : Int32)), (.int (0 : Int32)), (.int (0 : Int32)), (.int (0 : Int32)), (.int (0 : Int32)), (.int (0 : Int32)), (.int (0 : Int32)), (.int (0 : Int32)), (.int (0 : Int32)), (.int (0 : Int32)), (.int (0 : Int32)), (.int (0 : Int32)), (.int (0 : Int32)), (.int (0 : Int32)), (.int (0 : Int32)), (.int (0 : Int32)), (.int (0 : Int32)), (.int (0 : Int32)), (.int (0 : Int32)), (.int (0 : Int32)), (.int (0 : Int32)), (.int (0 : Int32)), (.int (0 : Int32)), (.int (0 : Int32)), (.int (0 : Int32)), (.int (0 : Int32)), (.int (0 : Int32)), (.int (0 : Int32)), (.int (0 : Int32)), (.int (0 : Int32)), (.int (0 : Int32)), (.int (0 : Int32)), (.int (0 : Int32)), (.int (0 : Int32)), (.int (0 : Int32)), (.int (0 : Int32)), (.int (0 : Int32)), (.int (0 : Int32)), (.int (0 : Int32)), (.int (0 : Int32)), (.int (0 : Int32)), (.int (0 : Int32)), (.int (0 : Int32)), (.int (0 : Int32)), (.int (0 : Int32)), (.int (0 : Int32)), (.int (0 : Int32)), (.int (0 : Int32))] (.int (0 : Int32)) := V284
          refine E_dup X282 at_196 rfl (pc' := 197) rfl ?_
          refine E_bipush X282 (v := (10 : Int32)) at_197 rfl (pc' := 199) rfl ?_
          refine E_iload X282 at_199 rfl (pc' := 201) rfl ?_
          refine E_castore X282 10 (y := z6) at_201 (rst_nar az6) V285 ⟨by decide, by decide⟩ rfl (Nat.le_of_ble_eq_true rfl) g234 (pc' := 202) rfl ?_
          intro T286 X287 K288 V289
          have V290 : Arv Z T286.heap b229 k233 .char (63 : Int32) [(.int z1), (.int z6), (.int z11), (.int z16), (.int z6), (.int z11), (.int z16), (.int z6), (.int z11), (.int z16), (.int z6), (.int (0 : Int32)), (.int (0 : Int32)), (.int (0 : Int32)), (.int (0 : Int32)), (.int (0 : Int32)), (.int (0 : Int32)), (.int (0 : Int32)), (.int (0 : Int32)), (.int (0 : Int32)), (.int (0 : Int32)), (.int (0 : Int32)), (.int (0 : Int32)), (.int (0 : Int32)), (.int (0 : Int32)), (.int (0 : Int32)), (.int (0 : Int32)), (.int (0 : Int32)), (.int (0 : Int32)), (.int (0 : Int32)), (.int (0 : Int32)), (.int (0 : Int32)), (.int (0 : Int32)), (.int (0 : Int32)), (.int (0 : Int32)), (.int (0 : Int32)), (.int (0 : Int32)), (.int (0 : Int32)), (.int (0 : Int32)), (.int (0 : Int32)), (.int (0 : Int32)), (.int (0 : Int32)), (.int (0 : Int32)), (.int (0 : Int32)), (.int (0 : Int32)), (.int (0 : Int32)), (.int (0 : Int32)), (.int (0 : Int32)), (.int (0 : Int32)), (.int (0 : Int32)), (.int (0 : Int32)), (.int (0 : Int32)), (.int (0 : Int32)), (.int (0 : Int32)), (.int (0 : Int32)), (.int (0 : Int32)), (.int (0 : Int32)), (.int (0 : Int32)), (.int (0 : Int32)), (.int (0 : Int32)), (.int (0 : Int32)), (.int (0 : Int32)), (.int (0 : Int32))] (.int (0 : Int32)) := V289
          refine E_dup X287 at_202 rfl (pc' := 203) rfl ?_
          refine E_bipush X287 (v := (11 : Int32)) at_203 rfl (pc' := 205) rfl ?_
          refine E_iload X287 at_205 rfl (pc' := 207) rfl ?_
          refine E_castore X287 11 (y := z11) at_207 (rst_nar az11) V290 ⟨by decide, by decide⟩ rfl (Nat.le_of_ble_eq_true rfl) g234 (pc' := 208) rfl ?_
          intro T291 X292 K293 V294
          have V295 : Arv Z T291.heap b229 k233 .char (63 : Int32) [(.int z1), (.int z6), (.int z11), (.int z16), (.int z6), (.int z11), (.int z16), (.int z6), (.int z11), (.int z16), (.int z6), (.int z11), (.int (0 : Int32)), (.int (0 : Int32)), (.int (0 : Int32)), (.int (0 : Int32)), (.int (0 : Int32)), (.int (0 : Int32)), (.int (0 : Int32)), (.int (0 : Int32)), (.int (0 : Int32)), (.int (0 : Int32)), (.int (0 : Int32)), (.int (0 : Int32)), (.int (0 : Int32)), (.int (0 : Int32)), (.int (0 : Int32)), (.int (0 : Int32)), (.int (0 : Int32)), (.int (0 : Int32)), (.int (0 : Int32)), (.int (0 : Int32)), (.int (0 : Int32)), (.int (0 : Int32)), (.int (0 : Int32)), (.int (0 : Int32)), (.int (0 : Int32)), (.int (0 : Int32)), (.int (0 : Int32)), (.int (0 : Int32)), (.int (0 : Int32)), (.int (0 : Int32)), (.int (0 : Int32)), (.int (0 : Int32)), (.int (0 : Int32)), (.int (0 : Int32)), (.int (0 : Int32)), (.int (0 : Int32)), (.int (0 : Int32)), (.int (0 : Int32)), (.int (0 : Int32)), (.int (0 : Int32)), (.int (0 : Int32)), (.int (0 : Int32)), (.int (0 : Int32)), (.int (0 : Int32)), (.int (0 : Int32)), (.int (0 : Int32)), (.int (0 : Int32)), (.int (0 : Int32)), (.int (0 : Int32)), (.int (0 : Int32)), (.int (0 : Int32))] (.int (0 : Int32)) := V294
          refine E_dup X292 at_208 rfl (pc' := 209) rfl ?_
          refine E_bipush X292 (v := (12 : Int32)) at_209 rfl (pc' := 211) rfl ?_
          refine E_iload X292 at_211 rfl (pc' := 213) rfl ?_
          refine E_castore X292 12 (y := z16) at_213 (rst_nar az16) V295 ⟨by decide, by decide⟩ rfl (Nat.le_of_ble_eq_true rfl) g234 (pc' := 214) rfl ?_
          intro T296 X297 K298 V299
          have V300 : Arv Z T296.heap b229 k233 .char (63 : Int32) [(.int z1), (.int z6), (.int z11), (.int z16), (.int z6), (.int z11), (.int z16), (.int z6), (.int z11), (.int z16), (.int z6), (.int z11), (.int z16), (.int (0 : Int32)), (.int (0 : Int32)), (.int (0 : Int32)), (.int (0 : Int32)), (.int (0 : Int32)), (.int (0 : Int32)), (.int (0 : Int32)), (.int (0 : Int32)), (.int (0 : Int32)), (.int (0 : Int32)), (.int (0 : Int32)), (.int (0 : Int32)), (.int (0 : Int32)), (.int (0 : Int32)), (.int (0 : Int32)), (.int (0 : Int32)), (.int (0 : Int32)), (.int (0 : Int32)), (.int (0 : Int32)), (.int (0 : Int32)), (.int (0 : Int32)), (.int (0 : Int32)), (.int (0 : Int32)), (.int (0 : Int32)), (.int (0 : Int32)), (.int (0 : Int32)), (.int (0 : Int32)), (.int (0 : Int32)), (.int (0 : Int32)), (.int (0 : Int32)), (.int (0 : Int32)), (.int (0 : Int32)), (.int (0 : Int32)), (.int (0 : Int32)), (.int (0 : Int32)), (.int (0 : Int32)), (.int (0 : Int32)), (.int (0 : Int32)), (.int (0 : Int32)), (.int (0 : Int32)), (.int (0 : Int32)), (.int (0 : Int32)), (.int (0 : Int32)), (.int (0 : Int32)), (.int (0 : Int32)), (.int (0 : Int32)), (.int (0 : Int32)), (.int (0 : Int32)), (.int (0 : Int32)), (.int (0 : Int32))] (.int (0 : Int32)) := V299
          refine E_dup X297 at_214 rfl (pc' := 215) rfl ?_
          refine E_bipush X297 (v := (13 : Int32)) at_215 rfl (pc' := 217) rfl ?_
          refine E_iload X297 at_217 rfl (pc' := 219) rfl ?_
          refine E_castore X297 13 (y := z6) at_219 (rst_nar az6) V300 ⟨by decide, by decide⟩ rfl (Nat.le_of_ble_eq_true rfl) g234 (pc' := 220) rfl ?_
          intro T301 X302 K303 V304
          have V305 : Arv Z T301.heap b229 k233 .char (63 : Int32) [(.int z1), (.int z6), (.int z11), (.int z16), (.int z6), (.int z11), (.int z16), (.int z6), (.int z11), (.int z16), (.int z6), (.int z11), (.int z16), (.int z6), (.int (0 : Int32)), (.int (0 : Int32)), (.int (0 : Int32)), (.int (0 : Int32)), (.int (0 : Int32)), (.int (0 : Int32)), (.int (0 : Int32)), (.int (0 : Int32)), (.int (0 : Int32)), (.int (0 : Int32)), (.int (0 : Int32)), (.int (0 : Int32)), (.int (0 : Int32)), (.int (0 : Int32)), (.int (0 : Int32)), (.int (0 : Int32)), (.int (0 : Int32)), (.int (0 : Int32)), (.int (0 : Int32)), (.int (0 : Int32)), (.int (0 : Int32)), (.int (0 : Int32)), (.int (0 : Int32)), (.int (0 : Int32)), (.int (0 : Int32)), (.int (0 : Int32)), (.int (0 : Int32)), (.int (0 : Int32)), (.int (0 : Int32)), (.int (0 : Int32)), (.int (0 : Int32)), (.int (0 : Int32)), (.int (0 : Int32)), (.int (0 : Int32)), (.int (0 : Int32)), (.int (0 : Int32)), (.int (0 : Int32)), (.int (0 : Int32)), (.int (0 : Int32)), (.int (0 : Int32)), (.int (0 : Int32)), (.int (0 : Int32)), (.int (0 : Int32)), (.int (0 : Int32)), (.int (0 : Int32)), (.int (0 : Int32)), (.int (0 : Int32)), (.int (0 : Int32)), (.int (0 : Int32))] (.int (0 : Int32)) := V304
          refine E_dup X302 at_220 rfl (pc' := 221) rfl ?_
          refine E_bipush X302 (v := (14 : Int32)) at_221 rfl (pc' := 223) rfl ?_
          refine E_iload X302 at_223 rfl (pc' := 225) rfl ?_
          refine E_castore X302 14 (y := z11) at_225 (rst_nar az11) V305 ⟨by decide, by decide⟩ rfl (Nat.le_of_ble_eq_true rfl) g234 (pc' := 226) rfl ?_
          intro T306 X307 K308 V309
          have V310 : Arv Z T306.heap b229 k233 .char (63 : Int32) [(.int z1), (.int z6), (.int z11), (.int z16), (.int z6), (.int z11), (.int z16), (.int z6), (.int z11), (.int z16), (.int z6), (.int z11), (.int z16), (.int z6), (.int z11), (.int (0 : Int32)), (.int (0 : Int32)), (.int (0 : Int32)), (.int (0 : Int32)), (.int (0 : Int32)), (.int (0 : Int32)), (.int (0 : Int32)), (.int (0 : Int32)), (.int (0 : Int32)), (.int (0 : Int32)), (.int (0 : Int32)), (.int (0 : Int32)), (.int (0 : Int32)), (.int (0 : Int32)), (.int (0 : Int32)), (.int (0 : Int32)), (.int (0 : Int32)), (.int (0 : Int32)), (.int (0 : Int32)), (.int (0 : Int32)), (.int (0 : Int32)), (.int (0 : Int32)), (.int (0 : Int32)), (.int (0 : Int32)), (.int (0 : Int32)), (.int (0 : Int32)), (.int (0 : Int32)), (.int (0 : Int32)), (.int (0 : Int32)), (.int (0 : Int32)), (.int (0 : Int32)), (.int (0 : Int32)), (.int (0 : Int32)), (.int (0 : Int32)), (.int (0 : Int32)), (.int (0 : Int32)), (.int (0 : Int32)), (.int (0 : Int32)), (.int (0 : Int32)), (.int (0 : Int32)), (.int (0 : Int32)), (.int (0 : Int32)), (.int (0 : Int32)), (.int (0 : Int32)), (.int (0 : Int32)), (.int (0 : Int32)), (.int (0 : Int32)), (.int (0 : Int32))] (.int (0 : Int32)) := V309
          refine E_dup X307 at_226 rfl (pc' := 227) rfl ?_
          refine E_bipush X307 (v := (15 : Int32)) at_227 rfl (pc' := 229) rfl ?_
          refine E_iload X307 at_229 rfl (pc' := 231) rfl ?_
          refine E_castore X307 15 (y := z16) at_231 (rst_nar az16) V310 ⟨by decide, by decide⟩ rfl (Nat.le_of_ble_eq_true rfl) g234 (pc' := 232) rfl ?_
          intro T311 X312 K313 V314
          have V315 : Arv Z T311.heap b229 k233 .char (63 : Int32) [(.int z1), (.int z6), (.int z11), (.int z16), (.int z6), (.int z11), (.int z16), (.int z6), (.int z11), (.int z16), (.int z6), (.int z11), (.int z16), (.int z6), (.int z11), (.int z16), (.int (0 : Int32)), (.int (0 : Int32)), (.int (0 : Int32)), (.int (0 : Int32)), (.int (0 : Int32)), (.int (0 : Int32)), (.int (0 : Int32)), (.int (0 : Int32)), (.int (0 : Int32)), (.int (0 : Int32)), (.int (0 : Int32)), (.int (0 : Int32)), (.int (0 : Int32)), (.int (0 : Int32)), (.int (0 : Int32)), (.int (0 : Int32)), (.int (0 : Int32)), (.int (0 : Int32)), (.int (0 : Int32)), (.int (0 : Int32)), (.int (0 : Int32)), (.int (0 : Int32)), (.int (0 : Int32)), (.int (0 : Int32)), (.int (0 : Int32)), (.int (0 : Int32)), (.int (0 : Int32)), (.int (0 : Int32)), (.int (0 : Int32)), (.int (0 : Int32)), (.int (0 : Int32)), (.int (0 : Int32)), (.int (0 : Int32)), (.int (0 : Int32)), (.int (0 : Int32)), (.int (0 : Int32)), (.int (0 : Int32)), (.int (0 : Int32)), (.int (0 : Int32)), (.int (0 : Int32)), (.int (0 : Int32)), (.int (0 : Int32)), (.int (0 : Int32)), (.int (0 : Int32)), (.int (0 : Int32)), (.int (0 : Int32)), (.int (0 : Int32))] (.int (0 : Int32)) := V314
          refine E_dup X312 at_232 rfl (pc' := 233) rfl ?_
          refine E_bipush X312 (v := (16 : Int32)) at_233 rfl (pc' := 235) rfl ?_
          refine E_iload X312 at_235 rfl (pc' := 237) rfl ?_
          refine E_castore X312 16 (y := z6) at_237 (rst_nar az6) V315 ⟨by decide, by decide⟩ rfl (Nat.le_of_ble_eq_true rfl) g234 (pc' := 238) rfl ?_
          intro T316 X317 K318 V319
          have V320 : Arv Z T316.heap b229 k233 .char (63 : Int32) [(.int z1), (.int z6), (.int z11), (.int z16), (.int z6), (.int z11), (.int z16), (.int z6), (.int z11), (.int z16), (.int z6), (.int z11), (.int z16), (.int z6), (.int z11), (.int z16), (.int z6), (.int (0 : Int32)), (.int (0 : Int32)), (.int (0 : Int32)), (.int (0 : Int32)), (.int (0 : Int32)), (.int (0 : Int32)), (.int (0 : Int32)), (.int (0 : Int32)), (.int (0 : Int32)), (.int (0 : Int32)), (.int (0 : Int32)), (.int (0 : Int32)), (.int (0 : Int32)), (.int (0 : Int32)), (.int (0 : Int32)), (.int (0 : Int32)), (.int (0 : Int32)), (.int (0 : Int32)), (.int (0 : Int32)), (.int (0 : Int32)), (.int (0 : Int32)), (.int (0 : Int32)), (.int (0 : Int32)), (.int (0 : Int32)), (.int (0 : Int32)), (.int (0 : Int32)), (.int (0 : Int32)), (.int (0 : Int32)), (.int (0 : Int32)), (.int (0 : Int32)), (.int (0 : Int32)), (.int (0 : Int32)), (.int (0 : Int32)), (.int (0 : Int32)), (.int (0 : Int32)), (.int (0 : Int32)), (.int (0 : Int32)), (.int (0 : Int32)), (.int (0 : Int32)), (.int (0 : Int32)), (.int (0 : Int32)), (.int (0 : Int32)), (.int (0 : Int32)), (.int (0 : Int32)), (.int (0 : Int32)), (.int (0 : Int32))] (.int (0 : Int32)) := V319
          refine E_dup X317 at_238 rfl (pc' := 239) rfl ?_
          refine E_bipush X317 (v := (17 : Int32)) at_239 rfl (pc' := 241) rfl ?_
          refine E_iload X317 at_241 rfl (pc' := 243) rfl ?_
          refine E_castore X317 17 (y := z11) at_243 (rst_nar az11) V320 ⟨by decide, by decide⟩ rfl (Nat.le_of_ble_eq_true rfl) g234 (pc' := 244) rfl ?_
          intro T321 X322 K323 V324
          have V325 : Arv Z T321.heap b229 k233 .char (63 : Int32) [(.int z1), (.int z6), (.int z11), (.int z16), (.int z6), (.int z11), (.int z16), (.int z6), (.int z11), (.int z16), (.int z6), (.int z11), (.int z16), (.int z6), (.int z11), (.int z16), (.int z6), (.int z11), (.int (0 : Int32)), (.int (0 : Int32)), (.int (0 : Int32)), (.int (0 : Int32)), (.int (0 : Int32)), (.int (0 : Int32)), (.int (0 : Int32)), (.int (0 : Int32)), (.int (0 : Int32)), (.int (0 : Int32)), (.int (0 : Int32)), (.int (0 : Int32)), (.int (0 : Int32)), (.int (0 : Int32)), (.int (0 : Int32)), (.int (0 : Int32)), (.int (0 : Int32)), (.int (0 : Int32)), (.int (0 : Int32)), (.int (0 : Int32)), (.int (0 : Int32)), (.int (0 : Int32)), (.int (0 : Int32)), (.int (0 : Int32)), (.int (0 : Int32)), (.int (0 : Int32)), (.int (0 : Int32)), (.int (0 : Int32)), (.int (0 : Int32)), (.int (0 : Int32)), (.int (0 : Int32)), (.int (0 : Int32)), (.int (0 : Int32)), (.int (0 : Int32)), (.int (0 : Int32)), (.int (0 : Int32)), (.int (0 : Int32)), (.int (0 : Int32)), (.int (0 : Int32)), (.int (0 : Int32)), (.int (0 : Int32)), (.int (0 : Int32)), (.int (0 : Int32)), (.int (0 : Int32)), (.int (0 : Int32))] (.int (0 : Int32)) := V324
          refine E_dup X322 at_244 rfl (pc' := 245) rfl ?_
          refine E_bipush X322 (v := (18 : Int32)) at_245 rfl (pc' := 247) rfl ?_
          refine E_iload X322 at_247 rfl (pc' := 249) rfl ?_
          refine E_castore X322 18 (y := z16) at_249 (rst_nar az16) V325 ⟨by decide, by decide⟩ rfl (Nat.le_of_ble_eq_true rfl) g234 (pc' := 250) rfl ?_
          intro T326 X327 K328 V329
          have V330 : Arv Z T326.heap b229 k233 .char (63 : Int32) [(.int z1), (.int z6), (.int z11), (.int z16), (.int z6), (.int z11), (.int z16), (.int z6), (.int z11), (.int z16), (.int z6), (.int z11), (.int z16), (.int z6), (.int z11), (.int z16), (.int z6), (.int z11), (.int z16), (.int (0 : Int32)), (.int (0 : Int32)), (.int (0 : Int32)), (.int (0 : Int32)), (.int (0 : Int32)), (.int (0 : Int32)), (.int (0 : Int32)), (.int (0 : Int32)), (.int (0 : Int32)), (.int (0 : Int32)), (.int (0 : Int32)), (.int (0 : Int32)), (.int (0 : Int32)), (.int (0 : Int32)), (.int (0 : Int32)), (.int (0 : Int32)), (.int (0 : Int32)), (.int (0 : Int32)), (.int (0 : Int32)), (.int (0 : Int32)), (.int (0 : Int32)), (.int (0 : Int32)), (.int (0 : Int32)), (.int (0 : Int32)), (.int (0 : Int32)), (.int (0 : Int32)), (.int (0 : Int32)), (.int (0 : Int32)), (.int (0 : Int32)), (.int (0 : Int32)), (.int (0 : Int32)), (.int (0 : Int32)), (.int (0 : Int32)), (.int (0 : Int32)), (.int (0 : Int32)), (.int (0 : Int32)), (.int (0 : Int32)), (.int (0 : Int32)), (.int (0 : Int32)), (.int (0 : Int32)), (.int (0 : Int32)), (.int (0 : Int32)), (.int (0 : Int32)), (.int (0 : Int32))] (.int (0 : Int32)) := V329
          refine E_dup X327 at_250 rfl (pc' := 251) rfl ?_
          refine E_bipush X327 (v := (19 : Int32)) at_251 rfl (pc' := 253) rfl ?_
          refine E_iload X327 at_253 rfl (pc' := 255) rfl ?_
          refine E_castore X327 19 (y := z6) at_255 (rst_nar az6) V330 ⟨by decide, by decide⟩ rfl (Nat.le_of_ble_eq_true rfl) g234 (pc' := 256) rfl ?_
          intro T331 X332 K333 V334
          have V335 : Arv Z T331.heap b229 k233 .char (63 : Int32) [(.int z1), (.int z6), (.int z11), (.int z16), (.int z6), (.int z11), (.int z16), (.int z6), (.int z11), (.int z16), (.int z6), (.int z11), (.int z16), (.int z6), (.int z11), (.int z16), (.int z6), (.int z11), (.int z16), (.int z6), (.int (0 : Int32)), (.int (0 : Int32)), (.int (0 : Int32)), (.int (0 : Int32)), (.int (0 : Int32)), (.int (0 : Int32)), (.int (0 : Int32)), (.int (0 : Int32)), (.int (0 : Int32)), (.int (0 : Int32)), (.int (0 : Int32)), (.int (0 : Int32)), (.int (0 : Int32)), (.int (0 : Int32)), (.int (0 : Int32)), (.int (0 : Int32)), (.int (0 : Int32)), (.int (0 : Int32)), (.int (0 : Int32)), (.int (0 : Int32)), (.int (0 : Int32)), (.int (0 : Int32)), (.int (0 : Int32)), (.int (0 : Int32)), (.int (0 : Int32)), (.int (0 : Int32)), (.int (0 : Int32)), (.int (0 : Int32)), (.int (0 : Int32)), (.int (0 : Int32)), (.int (0 : Int32)), (.int (0 : Int32)), (.int (0 : Int32)), (.int (0 : Int32)), (.int (0 : Int32)), (.int (0 : Int32)), (.int (0 : Int32)), (.int (0 : Int32)), (.int (0 : Int32)), (.int (0 : Int32)), (.int (0 : Int32)), (.int (0 : Int32)), (.int (0 : Int32))] (.int (0 : Int32)) := V334
          refine E_dup X332 at_256 rfl (pc' := 257) rfl ?_
          refine E_bipush X332 (v := (20 : Int32)) at_257 rfl (pc' := 259) rfl ?_
          refine E_iload X332 at_259 rfl (pc' := 261) rfl ?_
          refine E_castore X332 20 (y := z11) at_261 (rst_nar az11) V335 ⟨by decide, by decide⟩ rfl (Nat.le_of_ble_eq_true rfl) g234 (pc' := 262) rfl ?_
          intro T336 X337 K338 V339
          have V340 : Arv Z T336.heap b229 k233 .char (63 : Int32) [(.int z1), (.int z6), (.int z11), (.int z16), (.int z6), (.int z11), (.int z16), (.int z6), (.int z11), (.int z16), (.int z6), (.int z11), (.int z16), (.int z6), (.int z11), (.int z16), (.int z6), (.int z11), (.int z16), (.int z6), (.int z11), (.int (0 : Int32)), (.int (0 : Int32)), (.int (0 : Int32)), (.int (0 : Int32)), (.int (0 : Int32)), (.int (0 : Int32)), (.int (0 : Int32)), (.int (0 : Int32)), (.int (0 : Int32)), (.int (0 : Int32)), (.int (0 : Int32)), (.int (0 : Int32)), (.int (0 : Int32)), (.int (0 : Int32)), (.int (0 : Int32)), (.int (0 : Int32)), (.int (0 : Int32)), (.int (0 : Int32)), (.int (0 : Int32)), (.int (0 : Int32)), (.int (0 : Int32)), (.int (0 : Int32)), (.int (0 : Int32)), (.int (0 : Int32)), (.int (0 : Int32)), (.int (0 : Int32)), (.int (0 : Int32)), (.int (0 : Int32)), (.int (0 : Int32)), (.int (0 : Int32)), (.int (0 : Int32)), (.int (0 : Int32)), (.int (0 : Int32)), (.int (0 : Int32)), (.int (0 : Int32)), (.int (0 : Int32)), (.int (0 : Int32)), (.int (0 : Int32)), (.int (0 : Int32)), (.int (0 : Int32)), (.int (0 : Int32)), (.int (0 : Int32))] (.int (0 : Int32)) := V339
          refine E_dup X337 at_262 rfl (pc' := 263) rfl ?_
          refine E_bipush X337 (v := (21 : Int32)) at_263 rfl (pc' := 265) rfl ?_
          refine E_iload X337 at_265 rfl (pc' := 267) rfl ?_
          refine E_castore X337 21 (y := z16) at_267 (rst_nar az16) V340 ⟨by decide, by decide⟩ rfl (Nat.le_of_ble_eq_true rfl) g234 (pc' := 268) rfl ?_
          intro T341 X342 K343 V344
          have V345 : Arv Z T341.heap b229 k233 .char (63 : Int32) [(.int z1), (.int z6), (.int z11), (.int z16), (.int z6), (.int z11), (.int z16), (.int z6), (.int z11), (.int z16), (.int z6), (.int z11), (.int z16), (.int z6), (.int z11), (.int z16), (.int z6), (.int z11), (.int z16), (.int z6), (.int z11), (.int z16), (.int (0 : Int32)), (.int (0 : Int32)), (.int (0 : Int32)), (.int (0 : Int32)), (.int (0 : Int32)), (.int (0 : Int32)), (.int (0 : Int32)), (.int (0 : Int32)), (.int (0 : Int32)), (.int (0 : Int32)), (.int (0 : Int32)), (.int (0 : Int32)), (.int (0 : Int32)), (.int (0 : Int32)), (.int (0 : Int32)), (.int (0 : Int32)), (.int (0 : Int32)), (.int (0 : Int32)), (.int (0 : Int32)), (.int (0 : Int32)), (.int (0 : Int32)), (.int (0 : Int32)), (.int (0 : Int32)), (.int (0 : Int32)), (.int (0 : Int32)), (.int (0 : Int32)), (.int (0 : Int32)), (.int (0 : Int32)), (.int (0 : Int32)), (.int (0 : Int32)), (.int (0 : Int32)), (.int (0 : Int32)), (.int (0 : Int32)), (.int (0 : Int32)), (.int (0 : Int32)), (.int (0 : Int32)), (.int (0 : Int32)), (.int (0 : Int32)), (.int (0 : Int32)), (.int (0 : Int32)), (.int (0 : Int32))] (.int (0 : Int32)) := V344
          refine E_dup X342 at_268 rfl (pc' := 269) rfl ?_
          refine E_bipush X342 (v := (22 : Int32)) at_269 rfl (pc' := 271) rfl ?_
          refine E_iload X342 at_271 rfl (pc' := 273) rfl ?_
          refine E_castore X342 22 (y := z6) at_273 (rst_nar az6) V345 ⟨by decide, by decide⟩ rfl (Nat.le_of_ble_eq_true rfl) g234 (pc' := 274) rfl ?_
          intro T346 X347 K348 V349
          have V350 : Arv Z T346.heap b229 k233 .char (63 : Int32) [(.int z1), (.int z6), (.int z11), (.int z16), (.int z6), (.int z11), (.int z16), (.int z6), (.int z11), (.int z16), (.int z6), (.int z11), (.int z16), (.int z6), (.int z11), (.int z16), (.int z6), (.int z11), (.int z16), (.int z6), (.int z11), (.int z16), (.int z6), (.int (0 : Int32)), (.int (0 : Int32)), (.int (0 : Int32)), (.int (0 : Int32)), (.int (0 : Int32)), (.int (0 : Int32)), (.int (0 : Int32)), (.int (0 : Int32)), (.int (0 : Int32)), (.int (0 : Int32)), (.int (0 : Int32)), (.int (0 : Int32)), (.int (0 : Int32)), (.int (0 : Int32)), (.int (0 : Int32)), (.int (0 : Int32)), (.int (0 : Int32)), (.int (0 : Int32)), (.int (0 : Int32)), (.int (0 : Int32)), (.int (0 : Int32)), (.int (0 : Int32)), (.int (0 : Int32)), (.int (0 : Int32)), (.int (0 : Int32)), (.int (0 : Int32)), (.int (0 : Int32)), (.int (0 : Int32)), (.int (0 : Int32)), (.int (0 : Int32)), (.int (0 : Int32)), (.int (0 : Int32)), (.int (0 : Int32)), (.int (0 : Int32)), (.int (0 : Int32)), (.int (0 : Int32)), (.int (0 : Int32)), (.int (0 : Int32)), (.int (0 : Int32)), (.int (0 : Int32))] (.int (0 : Int32)) := V349
          refine E_dup X347 at_274 rfl (pc' := 275) rfl ?_
          refine E_bipush X347 (v := (23 : Int32)) at_275 rfl (pc' := 277) rfl ?_
          refine E_iload X347 at_277 rfl (pc' := 279) rfl ?_
          refine E_castore X347 23 (y := z11) at_279 (rst_nar az11) V350 ⟨by decide, by decide⟩ rfl (Nat.le_of_ble_eq_true rfl) g234 (pc' := 280) rfl ?_
          intro T351 X352 K353 V354
          have V355 : Arv Z T351.heap b229 k233 .char (63 : Int32) [(.int z1), (.int z6), (.int z11), (.int z16), (.int z6), (.int z11), (.int z16), (.int z6), (.int z11), (.int z16), (.int z6), (.int z11), (.int z16), (.int z6), (.int z11), (.int z16), (.int z6), (.int z11), (.int z16), (.int z6), (.int z11), (.int z16), (.int z6), (.int z11), (.int (0 : Int32)), (.int (0 : Int32)), (.int (0 : Int32)), (.int (0 : Int32)), (.int (0 : Int32)), (.int (0 : Int32)), (.int (0 : Int32)), (.int (0 : Int32)), (.int (0 : Int32)), (.int (0 : Int32)), (.int (0 : Int32)), (.int (0 : Int32)), (.int (0 : Int32)), (.int (0 : Int32)), (.int (0 : Int32)), (.int (0 : Int32)), (.int (0 : Int32)), (.int (0 : Int32)), (.int (0 : Int32)), (.int (0 : Int32)), (.int (0 : Int32)), (.int (0 : Int32)), (.int (0 : Int32)), (.int (0 : Int32)), (.int (0 : Int32)), (.int (0 : Int32)), (.int (0 : Int32)), (.int (0 : Int32)), (.int (0 : Int32)), (.int (0 : Int32)), (.int (0 : Int32)), (.int (0 : Int32)), (.int (0 : Int32)), (.int (0 : Int32)), (.int (0 : Int32)), (.int (0 : Int32)), (.int (0 : Int32)), (.int (0 : Int32)), (.int (0 : Int32))] (.int (0 : Int32)) := V354
          refine E_dup X352 at_280 rfl (pc' := 281) rfl ?_
          refine E_bipush X352 (v := (24 : Int32)) at_281 rfl (pc' := 283) rfl ?_
          refine E_iload X352 at_283 rfl (pc' := 285) rfl ?_
          refine E_castore X352 24 (y := z16) at_285 (rst_nar az16) V355 ⟨by decide, by decide⟩ rfl (Nat.le_of_ble_eq_true rfl) g234 (pc' := 286) rfl ?_
          intro T356 X357 K358 V359
          have V360 : Arv Z T356.heap b229 k233 .char (63 : Int32) [(.int z1), (.int z6), (.int z11), (.int z16), (.int z6), (.int z11), (.int z16), (.int z6), (.int z11), (.int z16), (.int z6), (.int z11), (.int z16), (.int z6), (.int z11), (.int z16), (.int z6), (.int z11), (.int z16), (.int z6), (.int z11), (.int z16), (.int z6), (.int z11), (.int z16), (.int (0 : Int32)), (.int (0 : Int32)), (.int (0 : Int32)), (.int (0 : Int32)), (.int (0 : Int32)), (.int (0 : Int32)), (.int (0 : Int32)), (.int (0 : Int32)), (.int (0 : Int32)), (.int (0 : Int32)), (.int (0 : Int32)), (.int (0 : Int32)), (.int (0 : Int32)), (.int (0 : Int32)), (.int (0 : Int32)), (.int (0 : Int32)), (.int (0 : Int32)), (.int (0 : Int32)), (.int (0 : Int32)), (.int (0 : Int32)), (.int (0 : Int32)), (.int (0 : Int32)), (.int (0 : Int32)), (.int (0 : Int32)), (.int (0 : Int32)), (.int (0 : Int32)), (.int (0 : Int32)), (.int (0 : Int32)), (.int (0 : Int32)), (.int (0 : Int32)), (.int (0 : Int32)), (.int (0 : Int32)), (.int (0 : Int32)), (.int (0 : Int32)), (.int (0 : Int32)), (.int (0 : Int32)), (.int (0 : Int32)), (.int (0 : Int32))] (.int (0 : Int32)) := V359
          refine E_dup X357 at_286 rfl (pc' := 287) rfl ?_
          refine E_bipush X357 (v := (25 : Int32)) at_287 rfl (pc' := 289) rfl ?_
          refine E_iload X357 at_289 rfl (pc' := 291) rfl ?_
          refine E_castore X357 25 (y := z6) at_291 (rst_nar az6) V360 ⟨by decide, by decide⟩ rfl (Nat.le_of_ble_eq_true rfl) g234 (pc' := 292) rfl ?_
          intro T361 X362 K363 V364
          have V365 : Arv Z T361.heap b229 k233 .char (63 : Int32) [(.int z1), (.int z6), (.int z11), (.int z16), (.int z6), (.int z11), (.int z16), (.int z6), (.int z11), (.int z16), (.int z6), (.int z11), (.int z16), (.int z6), (.int z11), (.int z16), (.int z6), (.int z11), (.int z16), (.int z6), (.int z11), (.int z16), (.int z6), (.int z11), (.int z16), (.int z6), (.int (0 : Int32)), (.int (0 : Int32)), (.int (0 : Int32)), (.int (0 : Int32)), (.int (0 : Int32)), (.int (0 : Int32)), (.int (0 : Int32)), (.int (0 : Int32)), (.int (0 : Int32)), (.int (0 : Int32)), (.int (0 : Int32)), (.int (0 : Int32)), (.int (0 : Int32)), (.int (0 : Int32)), (.int (0 : Int32)), (.int (0 : Int32)), (.int (0 : Int32)), (.int (0 : Int32)), (.int (0 : Int32)), (.int (0 : Int32)), (.int (0 : Int32)), (.int (0 : Int32)), (.int (0 : Int32)), (.int (0 : Int32)), (.int (0 : Int32)), (.int (0 : Int32)), (.int (0 : Int32)), (.int (0 : Int32)), (.int (0 : Int32)), (.int (0 : Int32)), (.int (0 : Int32)), (.int (0 : Int32)), (.int (0 : Int32)), (.int (0 : Int32)), (.int (0 : Int32)), (.int (0 : Int32)), (.int (0 : Int32))] (.int (0 : Int32)) := V364
          refine E_dup X362 at_292 rfl (pc' := 293) rfl ?_
          refine E_bipush X362 (v := (26 : Int32)) at_293 rfl (pc' := 295) rfl ?_
          refine E_iload X362 at_295 rfl (pc' := 297) rfl ?_
          refine E_castore X362 26 (y := z11) at_297 (rst_nar az11) V365 ⟨by decide, by decide⟩ rfl (Nat.le_of_ble_eq_true rfl) g234 (pc' := 298) rfl ?_
          intro T366 X367 K368 V369
          have V370 : Arv Z T366.heap b229 k233 .char (63 : Int32) [(.int z1), (.int z6), (.int z11), (.int z16), (.int z6), (.int z11), (.int z16), (.int z6), (.int z11), (.int z16), (.int z6), (.int z11), (.int z16), (.int z6), (.int z11), (.int z16), (.int z6), (.int z11), (.int z16), (.int z6), (.int z11), (.int z16), (.int z6), (.int z11), (.int z16), (.int z6), (.int z11), (.int (0 : Int32)), (.int (0 : Int32)), (.int (0 : Int32)), (.int (0 : Int32)), (.int (0 : Int32)), (.int (0 : Int32)), (.int (0 : Int32)), (.int (0 : Int32)), (.int (0 : Int32)), (.int (0 : Int32)), (.int (0 : Int32)), (.int (0 : Int32)), (.int (0 : Int32)), (.int (0 : Int32)), (.int (0 : Int32)), (.int (0 : Int32)), (.int (0 : Int32)), (.int (0 : Int32)), (.int (0 : Int32)), (.int (0 : Int32)), (.int (0 : Int32)), (.int (0 : Int32)), (.int (0 : Int32)), (.int (0 : Int32)), (.int (0 : Int32)), (.int (0 : Int32)), (.int (0 : Int32)), (.int (0 : Int32)), (.int (0 : Int32)), (.int (0 : Int32)), (.int (0 : Int32)), (.int (0 : Int32)), (.int (0 : Int32)), (.int (0 : Int32)), (.int (0 : Int32)), (.int (0 : Int32))] (.int (0 : Int32)) := V369
          refine E_dup X367 at_298 rfl (pc' := 299) rfl ?_
          refine E_bipush X367 (v := (27 : Int32)) at_299 rfl (pc' := 301) rfl ?_
          refine E_iload X367 at_301 rfl (pc' := 303) rfl ?_
          refine E_castore X367 27 (y := z16) at_303 (rst_nar az16) V370 ⟨by decide, by decide⟩ rfl (Nat.le_of_ble_eq_true rfl) g234 (pc' := 304) rfl ?_
          intro T371 X372 K373 V374
          have V375 : Arv Z T371.heap b229 k233 .char (63 : Int32) [(.int z1), (.int z6), (.int z11), (.int z16), (.int z6), (.int z11), (.int z16), (.int z6), (.int z11), (.int z16), (.int z6), (.int z11), (.int z16), (.int z6), (.int z11), (.int z16), (.int z6), (.int z11), (.int z16), (.int z6), (.int z11), (.int z16), (.int z6), (.int z11), (.int z16), (.int z6), (.int z11), (.int z16), (.int (0 : Int32)), (.int (0 : Int32)), (.int (0 : Int32)), (.int (0 : Int32)), (.int (0 : Int32)), (.int (0 : Int32)), (.int (0 : Int32)), (.int (0 : Int32)), (.int (0 : Int32)), (.int (0 : Int32)), (.int (0 : Int32)), (.int (0 : Int32)), (.int (0 : Int32)), (.int (0 : Int32)), (.int (0 : Int32)), (.int (0 : Int32)), (.int (0 : Int32)), (.int (0 : Int32)), (.int (0 : Int32)), (.int (0 : Int32)), (.int (0 : Int32)), (.int (0 : Int32)), (.int (0 : Int32)), (.int (0 : Int32)), (.int (0 : Int32)), (.int (0 : Int32)), (.int (0 : Int32)), (.int (0 : Int32)), (.int (0 : Int32)), (.int (0 : Int32)), (.int (0 : Int32)), (.int (0 : Int32)), (.int (0 : Int32)), (.int (0 : Int32)), (.int (0 : Int32))] (.int (0 : Int32)) := V374
          refine E_dup X372 at_304 rfl (pc' := 305) rfl ?_
          refine E_bipush X372 (v := (28 : Int32)) at_305 rfl (pc' := 307) rfl ?_
          refine E_iload X372 at_307 rfl (pc' := 309) rfl ?_
          refine E_castore X372 28 (y := z6) at_309 (rst_nar az6) V375 ⟨by decide, by decide⟩ rfl (Nat.le_of_ble_eq_true rfl) g234 (pc' := 310) rfl ?_
          intro T376 X377 K378 V379
          have V380 : Arv Z T376.heap b229 k233 .char (63 : Int32) [(.int z1), (.int z6), (.int z11), (.int z16), (.int z6), (.int z11), (.int z16), (.int z6), (.int z11), (.int z16), (.int z6), (.int z11), (.int z16), (.int z6), (.int z11), (.int z16), (.int z6), (.int z11), (.int z16), (.int z6), (.int z11), (.int z16), (.int z6), (.int z11), (.int z16), (.int z6), (.int z11), (.int z16), (.int z6), (.int (0 : Int32)), (.int (0 : Int32)), (.int (0 : Int32)), (.int (0 : Int32)), (.int (0 : Int32)), (.int (0 : Int32)), (.int (0 : Int32)), (.int (0 : Int32)), (.int (0 : Int32)), (.int (0 : Int32)), (.int (0 : Int32)), (.int (0 : Int32)), (.int (0 : Int32)), (.int (0 : Int32)), (.int (0 : Int32)), (.int (0 : Int32)), (.int (0 : Int32)), (.int (0 : Int32)), (.int (0 : Int32)), (.int (0 : Int32)), (.int (0 : Int32)), (.int (0 : Int32)), (.int (0 : Int32)), (.int (0 : Int32)), (.int (0 : Int32)), (.int (0 : Int32)), (.int (0 : Int32)), (.int (0 : Int32)), (.int (0 : Int32)), (.int (0 : Int32)), (.int (0 : Int32)), (.int (0 : Int32)), (.int (0 : Int32)), (.int (0 : Int32))] (.int (0 : Int32)) := V379
          refine E_dup X377 at_310 rfl (pc' := 311) rfl ?_
          refine E_bipush X377 (v := (29 : Int32)) at_311 rfl (pc' := 313) rfl ?_
          refine E_iload X377 at_313 rfl (pc' := 315) rfl ?_
          refine E_castore X377 29 (y := z11) at_315 (rst_nar az11) V380 ⟨by decide, by decide⟩ rfl (Nat.le_of_ble_eq_true rfl) g234 (pc' := 316) rfl ?_
          intro T381 X382 K383 V384
          have V385 : Arv Z T381.heap b229 k233 .char (63 : Int32) [(.int z1), (.int z6), (.int z11), (.int z16), (.int z6), (.int z11), (.int z16), (.int z6), (.int z11), (.int z16), (.int z6), (.int z11), (.int z16), (.int z6), (.int z11), (.int z16), (.int z6), (.int z11), (.int z16), (.int z6), (.int z11), (.int z16), (.int z6), (.int z11), (.int z16), (.int z6), (.int z11), (.int z16), (.int z6), (.int z11), (.int (0 : Int32)), (.int (0 : Int32)), (.int (0 : Int32)), (.int (0 : Int32)), (.int (0 : Int32)), (.int (0 : Int32)), (.int (0 : Int32)), (.int (0 : Int32)), (.int (0 : Int32)), (.int (0 : Int32)), (.int (0 : Int32)), (.int (0 : Int32)), (.int (0 : Int32)), (.int (0 : Int32)), (.int (0 : Int32)), (.int (0 : Int32)), (.int (0 : Int32)), (.int (0 : Int32)), (.int (0 : Int32)), (.int (0 : Int32)), (.int (0 : Int32)), (.int (0 : Int32)), (.int (0 : Int32)), (.int (0 : Int32)), (.int (0 : Int32)), (.int (0 : Int32)), (.int (0 : Int32)), (.int (0 : Int32)), (.int (0 : Int32)), (.int (0 : Int32)), (.int (0 : Int32)), (.int (0 : Int32)), (.int (0 : Int32))] (.int (0 : Int32)) := V384
          refine E_dup X382 at_316 rfl (pc' := 317) rfl ?_
          refine E_bipush X382 (v := (30 : Int32)) at_317 rfl (pc' := 319) rfl ?_
          refine E_iload X382 at_319 rfl (pc' := 321) rfl ?_
          refine E_castore X382 30 (y := z16) at_321 (rst_nar az16) V385 ⟨by decide, by decide⟩ rfl (Nat.le_of_ble_eq_true rfl) g234 (pc' := 322) rfl ?_
          intro T386 X387 K388 V389
          have V390 : Arv Z T386.heap b229 k233 .char (63 : Int32) [(.int z1), (.int z6), (.int z11), (.int z16), (.int z6), (.int z11), (.int z16), (.int z6), (.int z11), (.int z16), (.int z6), (.int z11), (.int z16), (.int z6), (.int z11), (.int z16), (.int z6), (.int z11), (.int z16), (.int z6), (.int z11), (.int z16), (.int z6), (.int z11), (.int z16), (.int z6), (.int z11), (.int z16), (.int z6), (.int z11), (.int z16), (.int (0 : Int32)), (.int (0 : Int32)), (.int (0 : Int32)), (.int (0 : Int32)), (.int (0 : Int32)), (.int (0 : Int32)), (.int (0 : Int32)), (.int (0 : Int32)), (.int (0 : Int32)), (.int (0 : Int32)), (.int (0 : Int32)), (.int (0 : Int32)), (.int (0 : Int32)), (.int (0 : Int32)), (.int (0 : Int32)), (.int (0 : Int32)), (.int (0 : Int32)), (.int (0 : Int32)), (.int (0 : Int32)), (.int (0 : Int32)), (.int (0 : Int32)), (.int (0 : Int32)), (.int (0 : Int32)), (.int (0 : Int32)), (.int (0 : Int32)), (.int (0 : Int32)), (.int (0 : Int32)), (.int (0 : Int32)), (.int (0 : Int32)), (.int (0 : Int32)), (.int (0 : Int32)), (.int (0 : Int32))] (.int (0 : Int32)) := V389
          refine E_dup X387 at_322 rfl (pc' := 323) rfl ?_
          refine E_bipush X387 (v := (31 : Int32)) at_323 rfl (pc' := 325) rfl ?_
          refine E_iload X387 at_325 rfl (pc' := 327) rfl ?_
          refine E_castore X387 31 (y := z6) at_327 (rst_nar az6) V390 ⟨by decide, by decide⟩ rfl (Nat.le_of_ble_eq_true rfl) g234 (pc' := 328) rfl ?_
          intro T391 X392 K393 V394
          have V395 : Arv Z T391.heap b229 k233 .char (63 : Int32) [(.int z1), (.int z6), (.int z11), (.int z16), (.int z6), (.int z11), (.int z16), (.int z6), (.int z11), (.int z16), (.int z6), (.int z11), (.int z16), (.int z6), (.int z11), (.int z16), (.int z6), (.int z11), (.int z16), (.int z6), (.int z11), (.int z16), (.int z6), (.int z11), (.int z16), (.int z6), (.int z11), (.int z16), (.int z6), (.int z11), (.int z16), (.int z6), (.int (0 : Int32)), (.int (0 : Int32)), (.int (0 : Int32)), (.int (0 : Int32)), (.int (0 : Int32)), (.int (0 : Int32)), (.int (0 : Int32)), (.int (0 : Int32)), (.int (0 : Int32)), (.int (0 : Int32)), (.int (0 : Int32)), (.int (0 : Int32)), (.int (0 : Int32)), (.int (0 : Int32)), (.int (0 : Int32)), (.int (0 : Int32)), (.int (0 : Int32)), (.int (0 : Int32)), (.int (0 : Int32)), (.int (0 : Int32)), (.int (0 : Int32)), (.int (0 : Int32)), (.int (0 : Int32)), (.int (0 : Int32)), (.int (0 : Int32)), (.int (0 : Int32)), (.int (0 : Int32)), (.int (0 : Int32)), (.int (0 : Int32)), (.int (0 : Int32)), (.int (0 : Int32))] (.int (0 : Int32)) := V394
          refine E_dup X392 at_328 rfl (pc' := 329) rfl ?_
          refine E_bipush X392 (v := (32 : Int32)) at_329 rfl (pc' := 331) rfl ?_
          refine E_iload X392 at_331 rfl (pc' := 333) rfl ?_
          refine E_castore X392 32 (y := z11) at_333 (rst_nar az11) V395 ⟨by decide, by decide⟩ rfl (Nat.le_of_ble_eq_true rfl) g234 (pc' := 334) rfl ?_
          intro T396 X397 K398 V399
          have V400 : Arv Z T396.heap b229 k233 .char (63 : Int32) [(.int z1), (.int z6), (.int z11), (.int z16), (.int z6), (.int z11), (.int z16), (.int z6), (.int z11), (.int z16), (.int z6), (.int z11), (.int z16), (.int z6), (.int z11), (.int z16), (.int z6), (.int z11), (.int z16), (.int z6), (.int z11), (.int z16), (.int z6), (.int z11), (.int z16), (.int z6), (.int z11), (.int z16), (.int z6), (.int z11), (.int z16), (.int z6), (.int z11), (.int (0 : Int32)), (.int (0 : Int32)), (.int (0 : Int32)), (.int (0 : Int32)), (.int (0 : Int32)), (.int (0 : Int32)), (.int (0 : Int32)), (.int (0 : Int32)), (.int (0 : Int32)), (.int (0 : Int32)), (.int (0 : Int32)), (.int (0 : Int32)), (.int (0 : Int32)), (.int (0 : Int32)), (.int (0 : Int32)), (.int (0 : Int32)), (.int (0 : Int32)), (.int (0 : Int32)), (.int (0 : Int32)), (.int (0 : Int32)), (.int (0 : Int32)), (.int (0 : Int32)), (.int (0 : Int32)), (.int (0 : Int32)), (.int (0 : Int32)), (.int (0 : Int32)), (.int (0 : Int32)), (.int (0 : Int32)), (.int (0 : Int32)), (.int (0 : Int32))] (.int (0 : Int32)) := V399
          refine E_dup X397 at_334 rfl (pc' := 335) rfl ?_
          refine E_bipush X397 (v := (33 : Int32)) at_335 rfl (pc' := 337) rfl ?_
          refine E_iload X397 at_337 rfl (pc' := 339) rfl ?_
          refine E_castore X397 33 (y := z16) at_339 (rst_nar az16) V400 ⟨by decide, by decide⟩ rfl (Nat.le_of_ble_eq_true rfl) g234 (pc' := 340) rfl ?_
          intro T401 X402 K403 V404
          have V405 : Arv Z T401.heap b229 k233 .char (63 : Int32) [(.int z1), (.int z6), (.int z11), (.int z16), (.int z6), (.int z11), (.int z16), (.int z6), (.int z11), (.int z16), (.int z6), (.int z11), (.int z16), (.int z6), (.int z11), (.int z16), (.int z6), (.int z11), (.int z16), (.int z6), (.int z11), (.int z16), (.int z6), (.int z11), (.int z16), (.int z6), (.int z11), (.int z16), (.int z6), (.int z11), (.int z16), (.int z6), (.int z11), (.int z16), (.int (0 : Int32)), (.int (0 : Int32)), (.int (0 : Int32)), (.int (0 : Int32)), (.int (0 : Int32)), (.int (0 : Int32)), (.int (0 : Int32)), (.int (0 : Int32)), (.int (0 : Int32)), (.int (0 : Int32)), (.int (0 : Int32)), (.int (0 : Int32)), (.int (0 : Int32)), (.int (0 : Int32)), (.int (0 : Int32)), (.int (0 : Int32)), (.int (0 : Int32)), (.int (0 : Int32)), (.int (0 : Int32)), (.int (0 : Int32)), (.int (0 : Int32)), (.int (0 : Int32)), (.int (0 : Int32)), (.int (0 : Int32)), (.int (0 : Int32)), (.int (0 : Int32)), (.int (0 : Int32)), (.int (0 : Int32)), (.int (0 : Int32))] (.int (0 : Int32)) := V404
          refine E_dup X402 at_340 rfl (pc' := 341) rfl ?_
          refine E_bipush X402 (v := (34 : Int32)) at_341 rfl (pc' := 343) rfl ?_
          refine E_iload X402 at_343 rfl (pc' := 345) rfl ?_
          refine E_castore X402 34 (y := z6) at_345 (rst_nar az6) V405 ⟨by decide, by decide⟩ rfl (Nat.le_of_ble_eq_true rfl) g234 (pc' := 346) rfl ?_
          intro T406 X407 K408 V409
          have V410 : Arv Z T406.heap b229 k233 .char (63 : Int32) [(.int z1), (.int z6), (.int z11), (.int z16), (.int z6), (.int z11), (.int z16), (.int z6), (.int z11), (.int z16), (.int z6), (.int z11), (.int z16), (.int z6), (.int z11), (.int z16), (.int z6), (.int z11), (.int z16), (.int z6), (.int z11), (.int z16), (.int z6), (.int z11), (.int z16), (.int z6), (.int z11), (.int z16), (.int z6), (.int z11), (.int z16), (.int z6), (.int z11), (.int z16), (.int z6), (.int (0 : Int32)), (.int (0 : Int32)), (.int (0 : Int32)), (.int (0 : Int32)), (.int (0 : Int32)), (.int (0 : Int32)), (.int (0 : Int32)), (.int (0 : Int32)), (.int (0 : Int32)), (.int (0 : Int32)), (.int (0 : Int32)), (.int (0 : Int32)), (.int (0 : Int32)), (.int (0 : Int32)), (.int (0 : Int32)), (.int (0 : Int32)), (.int (0 : Int32)), (.int (0 : Int32)), (.int (0 : Int32)), (.int (0 : Int32)), (.int (0 : Int32)), (.int (0 : Int32)), (.int (0 : Int32)), (.int (0 : Int32)), (.int (0 : Int32)), (.int (0 : Int32)), (.int (0 : Int32)), (.int (0 : Int32))] (.int (0 : Int32)) := V409
          refine E_dup X407 at_346 rfl (pc' := 347) rfl ?_
          refine E_bipush X407 (v := (35 : Int32)) at_347 rfl (pc' := 349) rfl ?_
          refine E_iload X407 at_349 rfl (pc' := 351) rfl ?_
          refine E_castore X407 35 (y := z11) at_351 (rst_nar az11) V410 ⟨by decide, by decide⟩ rfl (Nat.le_of_ble_eq_true rfl) g234 (pc' := 352) rfl ?_
          intro T411 X412 K413 V414
          have V415 : Arv Z T411.heap b229 k233 .char (63 : Int32) [(.int z1), (.int z6), (.int z11), (.int z16), (.int z6), (.int z11), (.int z16), (.int z6), (.int z11), (.int z16), (.int z6), (.int z11), (.int z16), (.int z6), (.int z11), (.int z16), (.int z6), (.int z11), (.int z16), (.int z6), (.int z11), (.int z16), (.int z6), (.int z11), (.int z16), (.int z6), (.int z11), (.int z16), (.int z6), (.int z11), (.int z16), (.int z6), (.int z11), (.int z16), (.int z6), (.int z11), (.int (0 : Int32)), (.int (0 : Int32)), (.int (0 : Int32)), (.int (0 : Int32)), (.int (0 : Int32)), (.int (0 : Int32)), (.int (0 : Int32)), (.int (0 : Int32)), (.int (0 : Int32)), (.int (0 : Int32)), (.int (0 : Int32)), (.int (0 : Int32)), (.int (0 : Int32)), (.int (0 : Int32)), (.int (0 : Int32)), (.int (0 : Int32)), (.int (0 : Int32)), (.int (0 : Int32)), (.int (0 : Int32)), (.int (0 : Int32)), (.int (0 : Int32)), (.int (0 : Int32)), (.int (0 : Int32)), (.int (0 : Int32)), (.int (0 : Int32)), (.int (0 : Int32)), (.int (0 : Int32))] (.int (0 : Int32)) := V414
          refine E_dup X412 at_352 rfl (pc' := 353) rfl ?_
          refine E_bipush X412 (v := (36 : Int32)) at_353 rfl (pc' := 355) rfl ?_
          refine E_iload X412 at_355 rfl (pc' := 357) rfl ?_
          refine E_castore X412 36 (y := z16) at_357 (rst_nar az16) V415 ⟨by decide, by decide⟩ rfl (Nat.le_of_ble_eq_true rfl) g234 (pc' := 358) rfl ?_
          intro T416 X417 K418 V419
          have V420 : Arv Z T416.heap b229 k233 .char (63 : Int32) [(.int z1), (.int z6), (.int z11), (.int z16), (.int z6), (.int z11), (.int z16), (.int z6), (.int z11), (.int z16), (.int z6), (.int z11), (.int z16), (.int z6), (.int z11), (.int z16), (.int z6), (.int z11), (.int z16), (.int z6), (.int z11), (.int z16), (.int z6), (.int z11), (.int z16), (.int z6), (.int z11), (.int z16), (.int z6), (.int z11), (.int z16), (.int z6), (.int z11), (.int z16), (.int z6), (.int z11), (.int z16), (.int (0 : Int32)), (.int (0 : Int32)), (.int (0 : Int32)), (.int (0 : Int32)), (.int (0 : Int32)), (.int (0 : Int32)), (.int (0 : Int32)), (.int (0 : Int32)), (.int (0 : Int32)), (.int (0 : Int32)), (.int (0 : Int32)), (.int (0 : Int32)), (.int (0 : Int32)), (.int (0 : Int32)), (.int (0 : Int32)), (.int (0 : Int32)), (.int (0 : Int32)), (.int (0 : Int32)), (.int (0 : Int32)), (.int (0 : Int32)), (.int (0 : Int32)), (.int (0 : Int32)), (.int (0 : Int32)), (.int (0 : Int32)), (.int (0 : Int32)), (.int (0 : Int32))] (.int (0 : Int32)) := V419
          refine E_dup X417 at_358 rfl (pc' := 359) rfl ?_
          refine E_bipush X417 (v := (37 : Int32)) at_359 rfl (pc' := 361) rfl ?_
          refine E_iload X417 at_361 rfl (pc' := 363) rfl ?_
          refine E_castore X417 37 (y := z6) at_363 (rst_nar az6) V420 ⟨by decide, by decide⟩ rfl (Nat.le_of_ble_eq_true rfl) g234 (pc' := 364) rfl ?_
          intro T421 X422 K423 V424
          have V425 : Arv Z T421.heap b229 k233 .char (63 : Int32) [(.int z1), (.int z6), (.int z11), (.int z16), (.int z6), (.int z11), (.int z16), (.int z6), (.int z11), (.int z16), (.int z6), (.int z11), (.int z16), (.int z6), (.int z11), (.int z16), (.int z6), (.int z11), (.int z16), (.int z6), (.int z11), (.int z16), (.int z6), (.int z11), (.int z16), (.int z6), (.int z11), (.int z16), (.int z6), (.int z11), (.int z16), (.int z6), (.int z11), (.int z16), (.int z6), (.int z11), (.int z16), (.int z6), (.int (0 : Int32)), (.int (0 : Int32)), (.int (0 : Int32)), (.int (0 : Int32)), (.int (0 : Int32)), (.int (0 : Int32)), (.int (0 : Int32)), (.int (0 : Int32)), (.int (0 : Int32)), (.int (0 : Int32)), (.int (0 : Int32)), (.int (0 : Int32)), (.int (0 : Int32)), (.int (0 : Int32)), (.int (0 : Int32)), (.int (0 : Int32)), (.int (0 : Int32)), (.int (0 : Int32)), (.int (0 : Int32)), (.int (0 : Int32)), (.int (0 : Int32)), (.int (0 : Int32)), (.int (0 : Int32)), (.int (0 : Int32)), (.int (0 : Int32))] (.int (0 : Int32)) := V424
          refine E_dup X422 at_364 rfl (pc' := 365) rfl ?_
          refine E_bipush X422 (v := (38 : Int32)) at_365 rfl (pc' := 367) rfl ?_
          refine E_iload X422 at_367 rfl (pc' := 369) rfl ?_
          refine E_castore X422 38 (y := z11) at_369 (rst_nar az11) V425 ⟨by decide, by decide⟩ rfl (Nat.le_of_ble_eq_true rfl) g234 (pc' := 370) rfl ?_
          intro T426 X427 K428 V429
          have V430 : Arv Z T426.heap b229 k233 .char (63 : Int32) [(.int z1), (.int z6), (.int z11), (.int z16), (.int z6), (.int z11), (.int z16), (.int z6), (.int z11), (.int z16), (.int z6), (.int z11), (.int z16), (.int z6), (.int z11), (.int z16), (.int z6), (.int z11), (.int z16), (.int z6), (.int z11), (.int z16), (.int z6), (.int z11), (.int z16), (.int z6), (.int z11), (.int z16), (.int z6), (.int z11), (.int z16), (.int z6), (.int z11), (.int z16), (.int z6), (.int z11), (.int z16), (.int z6), (.int z11), (.int (0 : Int32)), (.int (0 : Int32)), (.int (0 : Int32)), (.int (0 : Int32)), (.int (0 : Int32)), (.int (0 : Int32)), (.int (0 : Int32)), (.int (0 : Int32)), (.int (0 : Int32)), (.int (0 : Int32)), (.int (0 : Int32)), (.int (0 : Int32)), (.int (0 : Int32)), (.int (0 : Int32)), (.int (0 : Int32)), (.int (0 : Int32)), (.int (0 : Int32)), (.int (0 : Int32)), (.int (0 : Int32)), (.int (0 : Int32)), (.int (0 : Int32)), (.int (0 : Int32)), (.int (0 : Int32)), (.int (0 : Int32))] (.int (0 : Int32)) := V429
          refine E_dup X427 at_370 rfl (pc' := 371) rfl ?_
          refine E_bipush X427 (v := (39 : Int32)) at_371 rfl (pc' := 373) rfl ?_
          refine E_iload X427 at_373 rfl (pc' := 375) rfl ?_
          refine E_castore X427 39 (y := z16) at_375 (rst_nar az16) V430 ⟨by decide, by decide⟩ rfl (Nat.le_of_ble_eq_true rfl) g234 (pc' := 376) rfl ?_
          intro T431 X432 K433 V434
          have V435 : Arv Z T431.heap b229 k233 .char (63 : Int32) [(.int z1), (.int z6), (.int z11), (.int z16), (.int z6), (.int z11), (.int z16), (.int z6), (.int z11), (.int z16), (.int z6), (.int z11), (.int z16), (.int z6), (.int z11), (.int z16), (.int z6), (.int z11), (.int z16), (.int z6), (.int z11), (.int z16), (.int z6), (.int z11), (.int z16), (.int z6), (.int z11), (.int z16), (.int z6), (.int z11), (.int z16), (.int z6), (.int z11), (.int z16), (.int z6), (.int z11), (.int z16), (.int z6), (.int z11), (.int z16), (.int (0 : Int32)), (.int (0 : Int32)), (.int (0 : Int32)), (.int (0 : Int32)), (.int (0 : Int32)), (.int (0 : Int32)), (.int (0 : Int32)), (.int (0 : Int32)), (.int (0 : Int32)), (.int (0 : Int32)), (.int (0 : Int32)), (.int (0 : Int32)), (.int (0 : Int32)), (.int (0 : Int32)), (.int (0 : Int32)), (.int (0 : Int32)), (.int (0 : Int32)), (.int (0 : Int32)), (.int (0 : Int32)), (.int (0 : Int32)), (.int (0 : Int32)), (.int (0 : Int32)), (.int (0 : Int32))] (.int (0 : Int32)) := V434
          refine E_dup X432 at_376 rfl (pc' := 377) rfl ?_
          refine E_bipush X432 (v := (40 : Int32)) at_377 rfl (pc' := 379) rfl ?_
          refine E_iload X432 at_379 rfl (pc' := 381) rfl ?_
          refine E_castore X432 40 (y := z6) at_381 (rst_nar az6) V435 ⟨by decide, by decide⟩ rfl (Nat.le_of_ble_eq_true rfl) g234 (pc' := 382) rfl ?_
          intro T436 X437 K438 V439
          have V440 : Arv Z T436.heap b229 k233 .char (63 : Int32) [(.int z1), (.int z6), (.int z11), (.int z16), (.int z6), (.int z11), (.int z16), (.int z6), (.int z11), (.int z16), (.int z6), (.int z11), (.int z16), (.int z6), (.int z11), (.int z16), (.int z6), (.int z11), (.int z16), (.int z6), (.int z11), (.int z16), (.int z6), (.int z11), (.int z16), (.int z6), (.int z11), (.int z16), (.int z6), (.int z11), (.int z16), (.int z6), (.int z11), (.int z16), (.int z6), (.int z11), (.int z16), (.int z6), (.int z11), (.int z16), (.int z6), (.int (0 : Int32)), (.int (0 : Int32)), (.int (0 : Int32)), (.int (0 : Int32)), (.int (0 : Int32)), (.int (0 : Int32)), (.int (0 : Int32)), (.int (0 : Int32)), (.int (0 : Int32)), (.int (0 : Int32)), (.int (0 : Int32)), (.int (0 : Int32)), (.int (0 : Int32)), (.int (0 : Int32)), (.int (0 : Int32)), (.int (0 : Int32)), (.int (0 : Int32)), (.int (0 : Int32)), (.int (0 : Int32)), (.int (0 : Int32)), (.int (0 : Int32)), (.int (0 : Int32))] (.int (0 : Int32)) := V439
          refine E_dup X437 at_382 rfl (pc' := 383) rfl ?_
          refine E_bipush X437 (v := (41 : Int32)) at_383 rfl (pc' := 385) rfl ?_
          refine E_iload X437 at_385 rfl (pc' := 387) rfl ?_
          refine E_castore X437 41 (y := z11) at_387 (rst_nar az11) V440 ⟨by decide, by decide⟩ rfl (Nat.le_of_ble_eq_true rfl) g234 (pc' := 388) rfl ?_
          intro T441 X442 K443 V444
          have V445 : Arv Z T441.heap b229 k233 .char (63 : Int32) [(.int z1), (.int z6), (.int z11), (.int z16), (.int z6), (.int z11), (.int z16), (.int z6), (.int z11), (.int z16), (.int z6), (.int z11), (.int z16), (.int z6), (.int z11), (.int z16), (.int z6), (.int z11), (.int z16), (.int z6), (.int z11), (.int z16), (.int z6), (.int z11), (.int z16), (.int z6), (.int z11), (.int z16), (.int z6), (.int z11), (.int z16), (.int z6), (.int z11), (.int z16), (.int z6), (.int z11), (.int z16), (.int z6), (.int z11), (.int z16), (.int z6), (.int z11), (.int (0 : Int32)), (.int (0 : Int32)), (.int (0 : Int32)), (.int (0 : Int32)), (.int (0 : Int32)), (.int (0 : Int32)), (.int (0 : Int32)), (.int (0 : Int32)), (.int (0 : Int32)), (.int (0 : Int32)), (.int (0 : Int32)), (.int (0 : Int32)), (.int (0 : Int32)), (.int (0 : Int32)), (.int (0 : Int32)), (.int (0 : Int32)), (.int (0 : Int32)), (.int (0 : Int32)), (.int (0 : Int32)), (.int (0 : Int32)), (.int (0 : Int32))] (.int (0 : Int32)) := V444
          refine E_dup X442 at_388 rfl (pc' := 389) rfl ?_
          refine E_bipush X442 (v := (42 : Int32)) at_389 rfl (pc' := 391) rfl ?_
          refine E_iload X442 at_391 rfl (pc' := 393) rfl ?_
          refine E_castore X442 42 (y := z16) at_393 (rst_nar az16) V445 ⟨by decide, by decide⟩ rfl (Nat.le_of_ble_eq_true rfl) g234 (pc' := 394) rfl ?_
          intro T446 X447 K448 V449
          have V450 : Arv Z T446.heap b229 k233 .char (63 : Int32) [(.int z1), (.int z6), (.int z11), (.int z16), (.int z6), (.int z11), (.int z16), (.int z6), (.int z11), (.int z16), (.int z6), (.int z11), (.int z16), (.int z6), (.int z11), (.int z16), (.int z6), (.int z11), (.int z16), (.int z6), (.int z11), (.int z16), (.int z6), (.int z11), (.int z16), (.int z6), (.int z11), (.int z16), (.int z6), (.int z11), (.int z16), (.int z6), (.int z11), (.int z16), (.int z6), (.int z11), (.int z16), (.int z6), (.int z11), (.int z16), (.int z6), (.int z11), (.int z16), (.int (0 : Int32)), (.int (0 : Int32)), (.int (0 : Int32)), (.int (0 : Int32)), (.int (0 : Int32)), (.int (0 : Int32)), (.int (0 : Int32)), (.int (0 : Int32)), (.int (0 : Int32)), (.int (0 : Int32)), (.int (0 : Int32)), (.int (0 : Int32)), (.int (0 : Int32)), (.int (0 : Int32)), (.int (0 : Int32)), (.int (0 : Int32)), (.int (0 : Int32)), (.int (0 : Int32)), (.int (0 : Int32)), (.int (0 : Int32))] (.int (0 : Int32)) := V449
          refine E_dup X447 at_394 rfl (pc' := 395) rfl ?_
          refine E_bipush X447 (v := (43 : Int32)) at_395 rfl (pc' := 397) rfl ?_
          refine E_iload X447 at_397 rfl (pc' := 399) rfl ?_
          refine E_castore X447 43 (y := z6) at_399 (rst_nar az6) V450 ⟨by decide, by decide⟩ rfl (Nat.le_of_ble_eq_true rfl) g234 (pc' := 400) rfl ?_
          intro T451 X452 K453 V454
          have V455 : Arv Z T451.heap b229 k233 .char (63 : Int32) [(.int z1), (.int z6), (.int z11), (.int z16), (.int z6), (.int z11), (.int z16), (.int z6), (.int z11), (.int z16), (.int z6), (.int z11), (.int z16), (.int z6), (.int z11), (.int z16), (.int z6), (.int z11), (.int z16), (.int z6), (.int z11), (.int z16), (.int z6), (.int z11), (.int z16), (.int z6), (.int z11), (.int z16), (.int z6), (.int z11), (.int z16), (.int z6), (.int z11), (.int z16), (.int z6), (.int z11), (.int z16), (.int z6), (.int z11), (.int z16), (.int z6), (.int z11), (.int z16), (.int z6), (.int (0 : Int32)), (.int (0 : Int32)), (.int (0 : Int32)), (.int (0 : Int32)), (.int (0 : Int32)), (.int (0 : Int32)), (.int (0 : Int32)), (.int (0 : Int32)), (.int (0 : Int32)), (.int (0 : Int32)), (.int (0 : Int32)), (.int (0 : Int32)), (.int (0 : Int32)), (.int (0 : Int32)), (.int (0 : Int32)), (.int (0 : Int32)), (.int (0 : Int32)), (.int (0 : Int32)), (.int (0 : Int32))] (.int (0 : Int32)) := V454
          refine E_dup X452 at_400 rfl (pc' := 401) rfl ?_
          refine E_bipush X452 (v := (44 : Int32)) at_401 rfl (pc' := 403) rfl ?_
          refine E_iload X452 at_403 rfl (pc' := 405) rfl ?_
          refine E_castore X452 44 (y := z11) at_405 (rst_nar az11) V455 ⟨by decide, by decide⟩ rfl (Nat.le_of_ble_eq_true rfl) g234 (pc' := 406) rfl ?_
          intro T456 X457 K458 V459
          have V460 : Arv Z T456.heap b229 k233 .char (63 : Int32) [(.int z1), (.int z6), (.int z11), (.int z16), (.int z6), (.int z11), (.int z16), (.int z6), (.int z11), (.int z16), (.int z6), (.int z11), (.int z16), (.int z6), (.int z11), (.int z16), (.int z6), (.int z11), (.int z16), (.int z6), (.int z11), (.int z16), (.int z6), (.int z11), (.int z16), (.int z6), (.int z11), (.int z16), (.int z6), (.int z11), (.int z16), (.int z6), (.int z11), (.int z16), (.int z6), (.int z11), (.int z16), (.int z6), (.int z11), (.int z16), (.int z6), (.int z11), (.int z16), (.int z6), (.int z11), (.int (0 : Int32)), (.int (0 : Int32)), (.int (0 : Int32)), (.int (0 : Int32)), (.int (0 : Int32)), (.int (0 : Int32)), (.int (0 : Int32)), (.int (0 : Int32)), (.int (0 : Int32)), (.int (0 : Int32)), (.int (0 : Int32)), (.int (0 : Int32)), (.int (0 : Int32)), (.int (0 : Int32)), (.int (0 : Int32)), (.int (0 : Int32)), (.int (0 : Int32)), (.int (0 : Int32))] (.int (0 : Int32)) := V459
          refine E_dup X457 at_406 rfl (pc' := 407) rfl ?_
          refine E_bipush X457 (v := (45 : Int32)) at_407 rfl (pc' := 409) rfl ?_
          refine E_iload X457 at_409 rfl (pc' := 411) rfl ?_
          refine E_castore X457 45 (y := z16) at_411 (rst_nar az16) V460 ⟨by decide, by decide⟩ rfl (Nat.le_of_ble_eq_true rfl) g234 (pc' := 412) rfl ?_
          intro T461 X462 K463 V464
          have V465 : Arv Z T461.heap b229 k233 .char (63 : Int32) [(.int z1), (.int z6), (.int z11), (.int z16), (.int z6), (.int z11), (.int z16), (.int z6), (.int z11), (.int z16), (.int z6), (.int z11), (.int z16), (.int z6), (.int z11), (.int z16), (.int z6), (.int z11), (.int z16), (.int z6), (.int z11), (.int z16), (.int z6), (.int z11), (.int z16), (.int z6), (.int z11), (.int z16), (.int z6), (.int z11), (.int z16), (.int z6), (.int z11), (.int z16), (.int z6), (.int z11), (.int z16), (.int z6), (.int z11), (.int z16), (.int z6), (.int z11), (.int z16), (.int z6), (.int z11), (.int z16), (.int (0 : Int32)), (.int (0 : Int32)), (.int (0 : Int32)), (.int (0 : Int32)), (.int (0 : Int32)), (.int (0 : Int32)), (.int (0 : Int32)), (.int (0 : Int32)), (.int (0 : Int32)), (.int (0 : Int32)), (.int (0 : Int32)), (.int (0 : Int32)), (.int (0 : Int32)), (.int (0 : Int32)), (.int (0 : Int32)), (.int (0 : Int32)), (.int (0 : Int32))] (.int (0 : Int32)) := V464
          refine E_dup X462 at_412 rfl (pc' := 413) rfl ?_
          refine E_bipush X462 (v := (46 : Int32)) at_413 rfl (pc' := 415) rfl ?_
          refine E_iload X462 at_415 rfl (pc' := 417) rfl ?_
          refine E_castore X462 46 (y := z6) at_417 (rst_nar az6) V465 ⟨by decide, by decide⟩ rfl (Nat.le_of_ble_eq_true rfl) g234 (pc' := 418) rfl ?_
          intro T466 X467 K468 V469
          have V470 : Arv Z T466.heap b229 k233 .char (63 : Int32) [(.int z1), (.int z6), (.int z11), (.int z16), (.int z6), (.int z11), (.int z16), (.int z6), (.int z11), (.int z16), (.int z6), (.int z11), (.int z16), (.int z6), (.int z11), (.int z16), (.int z6), (.int z11), (.int z16), (.int z6), (.int z11), (.int z16), (.int z6), (.int z11), (.int z16), (.int z6), (.int z11), (.int z16), (.int z6), (.int z11), (.int z16), (.int z6), (.int z11), (.int z16), (.int z6), (.int z11), (.int z16), (.int z6), (.int z11), (.int z16), (.int z6), (.int z11), (.int z16), (.int z6), (.int z11), (.int z16), (.int z6), (.int (0 : Int32)), (.int (0 : Int32)), (.int (0 : Int32)), (.int (0 : Int32)), (.int (0 : Int32)), (.int (0 : Int32)), (.int (0 : Int32)), (.int (0 : Int32)), (.int (0 : Int32)), (.int (0 : Int32)), (.int (0 : Int32)), (.int (0 : Int32)), (.int (0 : Int32)), (.int (0 : Int32)), (.int (0 : Int32)), (.int (0 : Int32))] (.int (0 : Int32)) := V469
          refine E_dup X467 at_418 rfl (pc' := 419) rfl ?_
          refine E_bipush X467 (v := (47 : Int32)) at_419 rfl (pc' := 421) rfl ?_
          refine E_iload X467 at_421 rfl (pc' := 423) rfl ?_
          refine E_castore X467 47 (y := z11) at_423 (rst_nar az11) V470 ⟨by decide, by decide⟩ rfl (Nat.le_of_ble_eq_true rfl) g234 (pc' := 424) rfl ?_
          intro T471 X472 K473 V474
          have V475 : Arv Z T471.heap b229 k233 .char (63 : Int32) [(.int z1), (.int z6), (.int z11), (.int z16), (.int z6), (.int z11), (.int z16), (.int z6), (.int z11), (.int z16), (.int z6), (.int z11), (.int z16), (.int z6), (.int z11), (.int z16), (.int z6), (.int z11), (.int z16), (.int z6), (.int z11), (.int z16), (.int z6), (.int z11), (.int z16), (.int z6), (.int z11), (.int z16), (.int z6), (.int z11), (.int z16), (.int z6), (.int z11), (.int z16), (.int z6), (.int z11), (.int z16), (.int z6), (.int z11), (.int z16), (.int z6), (.int z11), (.int z16), (.int z6), (.int z11), (.int z16), (.int z6), (.int z11), (.int (0 : Int32)), (.int (0 : Int32)), (.int (0 : Int32)), (.int (0 : Int32)), (.int (0 : Int32)), (.int (0 : Int32)), (.int (0 : Int32)), (.int (0 : Int32)), (.int (0 : Int32)), (.int (0 : Int32)), (.int (0 : Int32)), (.int (0 : Int32)), (.int (0 : Int32)), (.int (0 : Int32)), (.int (0 : Int32))] (.int (0 : Int32)) := V474
          refine E_dup X472 at_424 rfl (pc' := 425) rfl ?_
          refine E_bipush X472 (v := (48 : Int32)) at_425 rfl (pc' := 427) rfl ?_
          refine E_iload X472 at_427 rfl (pc' := 429) rfl ?_
          refine E_castore X472 48 (y := z16) at_429 (rst_nar az16) V475 ⟨by decide, by decide⟩ rfl (Nat.le_of_ble_eq_true rfl) g234 (pc' := 430) rfl ?_
          intro T476 X477 K478 V479
          have V480 : Arv Z T476.heap b229 k233 .char (63 : Int32) [(.int z1), (.int z6), (.int z11), (.int z16), (.int z6), (.int z11), (.int z16), (.int z6), (.int z11), (.int z16), (.int z6), (.int z11), (.int z16), (.int z6), (.int z11), (.int z16), (.int z6), (.int z11), (.int z16), (.int z6), (.int z11), (.int z16), (.int z6), (.int z11), (.int z16), (.int z6), (.int z11), (.int z16), (.int z6), (.int z11), (.int z16), (.int z6), (.int z11), (.int z16), (.int z6), (.int z11), (.int z16), (.int z6), (.int z11), (.int z16), (.int z6), (.int z11), (.int z16), (.int z6), (.int z11), (.int z16), (.int z6), (.int z11), (.int z16), (.int (0 : Int32)), (.int (0 : Int32)), (.int (0 : Int32)), (.int (0 : Int32)), (.int (0 : Int32)), (.int (0 : Int32)), (.int (0 : Int32)), (.int (0 : Int32)), (.int (0 : Int32)), (.int (0 : Int32)), (.int (0 : Int32)), (.int (0 : Int32)), (.int (0 : Int32)), (.int (0 : Int32))] (.int (0 : Int32)) := V479
          refine E_dup X477 at_430 rfl (pc' := 431) rfl ?_
          refine E_bipush X477 (v := (49 : Int32)) at_431 rfl (pc' := 433) rfl ?_
          refine E_iload X477 at_433 rfl (pc' := 435) rfl ?_
          refine E_castore X477 49 (y := z6) at_435 (rst_nar az6) V480 ⟨by decide, by decide⟩ rfl (Nat.le_of_ble_eq_true rfl) g234 (pc' := 436) rfl ?_
          intro T481 X482 K483 V484
          have V485 : Arv Z T481.heap b229 k233 .char (63 : Int32) [(.int z1), (.int z6), (.int z11), (.int z16), (.int z6), (.int z11), (.int z16), (.int z6), (.int z11), (.int z16), (.int z6), (.int z11), (.int z16), (.int z6), (.int z11), (.int z16), (.int z6), (.int z11), (.int z16), (.int z6), (.int z11), (.int z16), (.int z6), (.int z11), (.int z16), (.int z6), (.int z11), (.int z16), (.int z6), (.int z11), (.int z16), (.int z6), (.int z11), (.int z16), (.int z6), (.int z11), (.int z16), (.int z6), (.int z11), (.int z16), (.int z6), (.int z11), (.int z16), (.int z6), (.int z11), (.int z16), (.int z6), (.int z11), (.int z16), (.int z6), (.int (0 : Int32)), (.int (0 : Int32)), (.int (0 : Int32)), (.int (0 : Int32)), (.int (0 : Int32)), (.int (0 : Int32)), (.int (0 : Int32)), (.int (0 : Int32)), (.int (0 : Int32)), (.int (0 : Int32)), (.int (0 : Int32)), (.int (0 : Int32)), (.int (0 : Int32))] (.int (0 : Int32)) := V484
          refine E_dup X482 at_436 rfl (pc' := 437) rfl ?_
          refine E_bipush X482 (v := (50 : Int32)) at_437 rfl (pc' := 439) rfl ?_
          refine E_iload X482 at_439 rfl (pc' := 441) rfl ?_
          refine E_castore X482 50 (y := z11) at_441 (rst_nar az11) V485 ⟨by decide, by decide⟩ rfl (Nat.le_of_ble_eq_true rfl) g234 (pc' := 442) rfl ?_
          intro T486 X487 K488 V489
          have V490 : Arv Z T486.heap b229 k233 .char (63 : Int32) [(.int z1), (.int z6), (.int z11), (.int z16), (.int z6), (.int z11), (.int z16), (.int z6), (.int z11), (.int z16), (.int z6), (.int z11), (.int z16), (.int z6), (.int z11), (.int z16), (.int z6), (.int z11), (.int z16), (.int z6), (.int z11), (.int z16), (.int z6), (.int z11), (.int z16), (.int z6), (.int z11), (.int z16), (.int z6), (.int z11), (.int z16), (.int z6), (.int z11), (.int z16), (.int z6), (.int z11), (.int z16), (.int z6), (.int z11), (.int z16), (.int z6), (.int z11), (.int z16), (.int z6), (.int z11), (.int z16), (.int z6), (.int z11), (.int z16), (.int z6), (.int z11), (.int (0 : Int32)), (.int (0 : Int32)), (.int (0 : Int32)), (.int (0 : Int32)), (.int (0 : Int32)), (.int (0 : Int32)), (.int (0 : Int32)), (.int (0 : Int32)), (.int (0 : Int32)), (.int (0 : Int32)), (.int (0 : Int32)), (.int (0 : Int32))] (.int (0 : Int32)) := V489
          refine E_dup X487 at_442 rfl (pc' := 443) rfl ?_
          refine E_bipush X487 (v := (51 : Int32)) at_443 rfl (pc' := 445) rfl ?_
          refine E_iload X487 at_445 rfl (pc' := 447) rfl ?_
          refine E_castore X487 51 (y := z16) at_447 (rst_nar az16) V490 ⟨by decide, by decide⟩ rfl (Nat.le_of_ble_eq_true rfl) g234 (pc' := 448) rfl ?_
          intro T491 X492 K493 V494
          have V495 : Arv Z T491.heap b229 k233 .char (63 : Int32) [(.int z1), (.int z6), (.int z11), (.int z16), (.int z6), (.int z11), (.int z16), (.int z6), (.int z11), (.int z16), (.int z6), (.int z11), (.int z16), (.int z6), (.int z11), (.int z16), (.int z6), (.int z11), (.int z16), (.int z6), (.int z11), (.int z16), (.int z6), (.int z11), (.int z16), (.int z6), (.int z11), (.int z16), (.int z6), (.int z11), (.int z16), (.int z6), (.int z11), (.int z16), (.int z6), (.int z11), (.int z16), (.int z6), (.int z11), (.int z16), (.int z6), (.int z11), (.int z16), (.int z6), (.int z11), (.int z16), (.int z6), (.int z11), (.int z16), (.int z6), (.int z11), (.int z16), (.int (0 : Int32)), (.int (0 : Int32)), (.int (0 : Int32)), (.int (0 : Int32)), (.int (0 : Int32)), (.int (0 : Int32)), (.int (0 : Int32)), (.int (0 : Int32)), (.int (0 : Int32)), (.int (0 : Int32)), (.int (0 : Int32))] (.int (0 : Int32)) := V494
          refine E_dup X492 at_448 rfl (pc' := 449) rfl ?_
          refine E_bipush X492 (v := (52 : Int32)) at_449 rfl (pc' := 451) rfl ?_
          refine E_iload X492 at_451 rfl (pc' := 453) rfl ?_
          refine E_castore X492 52 (y := z6) at_453 (rst_nar az6) V495 ⟨by decide, by decide⟩ rfl (Nat.le_of_ble_eq_true rfl) g234 (pc' := 454) rfl ?_
          intro T496 X497 K498 V499
          have V500 : Arv Z T496.heap b229 k233 .char (63 : Int32) [(.int z1), (.int z6), (.int z11), (.int z16), (.int z6), (.int z11), (.int z16), (.int z6), (.int z11), (.int z16), (.int z6), (.int z11), (.int z16), (.int z6), (.int z11), (.int z16), (.int z6), (.int z11), (.int z16), (.int z6), (.int z11), (.int z16), (.int z6), (.int z11), (.int z16), (.int z6), (.int z11), (.int z16), (.int z6), (.int z11), (.int z16), (.int z6), (.int z11), (.int z16), (.int z6), (.int z11), (.int z16), (.int z6), (.int z11), (.int z16), (.int z6), (.int z11), (.int z16), (.int z6), (.int z11), (.int z16), (.int z6), (.int z11), (.int z16), (.int z6), (.int z11), (.int z16), (.int z6), (.int (0 : Int32)), (.int (0 : Int32)), (.int (0 : Int32)), (.int (0 : Int32)), (.int (0 : Int32)), (.int (0 : Int32)), (.int (0 : Int32)), (.int (0 : Int32)), (.int (0 : Int32)), (.int (0 : Int32))] (.int (0 : Int32)) := V499
          refine E_dup X497 at_454 rfl (pc' := 455) rfl ?_
          refine E_bipush X497 (v := (53 : Int32)) at_455 rfl (pc' := 457) rfl ?_
          refine E_iload X497 at_457 rfl (pc' := 459) rfl ?_
          refine E_castore X497 53 (y := z11) at_459 (rst_nar az11) V500 ⟨by decide, by decide⟩ rfl (Nat.le_of_ble_eq_true rfl) g234 (pc' := 460) rfl ?_
          intro T501 X502 K503 V504
          have V505 : Arv Z T501.heap b229 k233 .char (63 : Int32) [(.int z1), (.int z6), (.int z11), (.int z16), (.int z6), (.int z11), (.int z16), (.int z6), (.int z11), (.int z16), (.int z6), (.int z11), (.int z16), (.int z6), (.int z11), (.int z16), (.int z6), (.int z11), (.int z16), (.int z6), (.int z11), (.int z16), (.int z6), (.int z11), (.int z16), (.int z6), (.int z11), (.int z16), (.int z6), (.int z11), (.int z16), (.int z6), (.int z11), (.int z16), (.int z6), (.int z11), (.int z16), (.int z6), (.int z11), (.int z16), (.int z6), (.int z11), (.int z16), (.int z6), (.int z11), (.int z16), (.int z6), (.int z11), (.int z16), (.int z6), (.int z11), (.int z16), (.int z6), (.int z11), (.int (0 : Int32)), (.int (0 : Int32)), (.int (0 : Int32)), (.int (0 : Int32)), (.int (0 : Int32)), (.int (0 : Int32)), (.int (0 : Int32)), (.int (0 : Int32)), (.int (0 : Int32))] (.int (0 : Int32)) := V504
          refine E_dup X502 at_460 rfl (pc' := 461) rfl ?_
          refine E_bipush X502 (v := (54 : Int32)) at_461 rfl (pc' := 463) rfl ?_
          refine E_iload X502 at_463 rfl (pc' := 465) rfl ?_
          refine E_castore X502 54 (y := z16) at_465 (rst_nar az16) V505 ⟨by decide, by decide⟩ rfl (Nat.le_of_ble_eq_true rfl) g234 (pc' := 466) rfl ?_
          intro T506 X507 K508 V509
          have V510 : Arv Z T506.heap b229 k233 .char (63 : Int32) [(.int z1), (.int z6), (.int z11), (.int z16), (.int z6), (.int z11), (.int z16), (.int z6), (.int z11), (.int z16), (.int z6), (.int z11), (.int z16), (.int z6), (.int z11), (.int z16), (.int z6), (.int z11), (.int z16), (.int z6), (.int z11), (.int z16), (.int z6), (.int z11), (.int z16), (.int z6), (.int z11), (.int z16), (.int z6), (.int z11), (.int z16), (.int z6), (.int z11), (.int z16), (.int z6), (.int z11), (.int z16), (.int z6), (.int z11), (.int z16), (.int z6), (.int z11), (.int z16), (.int z6), (.int z11), (.int z16), (.int z6), (.int z11), (.int z16), (.int z6), (.int z11), (.int z16), (.int z6), (.int z11), (.int z16), (.int (0 : Int32)), (.int (0 : Int32)), (.int (0 : Int32)), (.int (0 : Int32)), (.int (0 : Int32)), (.int (0 : Int32)), (.int (0 : Int32)), (.int (0 : Int32))] (.int (0 : Int32)) := V509
          refine E_dup X507 at_466 rfl (pc' := 467) rfl ?_
          refine E_bipush X507 (v := (55 : Int32)) at_467 rfl (pc' := 469) rfl ?_
          refine E_iload X507 at_469 rfl (pc' := 471) rfl ?_
          refine E_castore X507 55 (y := z6) at_471 (rst_nar az6) V510 ⟨by decide, by decide⟩ rfl (Nat.le_of_ble_eq_true rfl) g234 (pc' := 472) rfl ?_
          intro T511 X512 K513 V514
          have V515 : Arv Z T511.heap b229 k233 .char (63 : Int32) [(.int z1), (.int z6), (.int z11), (.int z16), (.int z6), (.int z11), (.int z16), (.int z6), (.int z11), (.int z16), (.int z6), (.int z11), (.int z16), (.int z6), (.int z11), (.int z16), (.int z6), (.int z11), (.int z16), (.int z6), (.int z11), (.int z16), (.int z6), (.int z11), (.int z16), (.int z6), (.int z11), (.int z16), (.int z6), (.int z11), (.int z16), (.int z6), (.int z11), (.int z16), (.int z6), (.int z11), (.int z16), (.int z6), (.int z11), (.int z16), (.int z6), (.int z11), (.int z16), (.int z6), (.int z11), (.int z16), (.int z6), (.int z11), (.int z16), (.int z6), (.int z11), (.int z16), (.int z6), (.int z11), (.int z16), (.int z6), (.int (0 : Int32)), (.int (0 : Int32)), (.int (0 : Int32)), (.int (0 : Int32)), (.int (0 : Int32)), (.int (0 : Int32)), (.int (0 : Int32))] (.int (0 : Int32)) := V514
          refine E_dup X512 at_472 rfl (pc' := 473) rfl ?_
          refine E_bipush X512 (v := (56 : Int32)) at_473 rfl (pc' := 475) rfl ?_
          refine E_iload X512 at_475 rfl (pc' := 477) rfl ?_
          refine E_castore X512 56 (y := z11) at_477 (rst_nar az11) V515 ⟨by decide, by decide⟩ rfl (Nat.le_of_ble_eq_true rfl) g234 (pc' := 478) rfl ?_
          intro T516 X517 K518 V519
          have V520 : Arv Z T516.heap b229 k233 .char (63 : Int32) [(.int z1), (.int z6), (.int z11), (.int z16), (.int z6), (.int z11), (.int z16), (.int z6), (.int z11), (.int z16), (.int z6), (.int z11), (.int z16), (.int z6), (.int z11), (.int z16), (.int z6), (.int z11), (.int z16), (.int z6), (.int z11), (.int z16), (.int z6), (.int z11), (.int z16), (.int z6), (.int z11), (.int z16), (.int z6), (.int z11), (.int z16), (.int z6), (.int z11), (.int z16), (.int z6), (.int z11), (.int z16), (.int z6), (.int z11), (.int z16), (.int z6), (.int z11), (.int z16), (.int z6), (.int z11), (.int z16), (.int z6), (.int z11), (.int z16), (.int z6), (.int z11), (.int z16), (.int z6), (.int z11), (.int z16), (.int z6), (.int z11), (.int (0 : Int32)), (.int (0 : Int32)), (.int (0 : Int32)), (.int (0 : Int32)), (.int (0 : Int32)), (.int (0 : Int32))] (.int (0 : Int32)) := V519
          refine E_dup X517 at_478 rfl (pc' := 479) rfl ?_
          refine E_bipush X517 (v := (57 : Int32)) at_479 rfl (pc' := 481) rfl ?_
          refine E_iload X517 at_481 rfl (pc' := 483) rfl ?_
          refine E_castore X517 57 (y := z16) at_483 (rst_nar az16) V520 ⟨by decide, by decide⟩ rfl (Nat.le_of_ble_eq_true rfl) g234 (pc' := 484) rfl ?_
          intro T521 X522 K523 V524
          have V525 : Arv Z T521.heap b229 k233 .char (63 : Int32) [(.int z1), (.int z6), (.int z11), (.int z16), (.int z6), (.int z11), (.int z16), (.int z6), (.int z11), (.int z16), (.int z6), (.int z11), (.int z16), (.int z6), (.int z11), (.int z16), (.int z6), (.int z11), (.int z16), (.int z6), (.int z11), (.int z16), (.int z6), (.int z11), (.int z16), (.int z6), (.int z11), (.int z16), (.int z6), (.int z11), (.int z16), (.int z6), (.int z11), (.int z16), (.int z6), (.int z11), (.int z16), (.int z6), (.int z11), (.int z16), (.int z6), (.int z11), (.int z16), (.int z6), (.int z11), (.int z16), (.int z6), (.int z11), (.int z16), (.int z6), (.int z11), (.int z16), (.int z6), (.int z11), (.int z16), (.int z6), (.int z11), (.int z16), (.int (0 : Int32)), (.int (0 : Int32)), (.int (0 : Int32)), (.int (0 : Int32)), (.int (0 : Int32))] (.int (0 : Int32)) := V524
          refine E_dup X522 at_484 rfl (pc' := 485) rfl ?_
          refine E_bipush X522 (v := (58 : Int32)) at_485 rfl (pc' := 487) rfl ?_
          refine E_iload X522 at_487 rfl (pc' := 489) rfl ?_
          refine E_castore X522 58 (y := z6) at_489 (rst_nar az6) V525 ⟨by decide, by decide⟩ rfl (Nat.le_of_ble_eq_true rfl) g234 (pc' := 490) rfl ?_
          intro T526 X527 K528 V529
          have V530 : Arv Z T526.heap b229 k233 .char (63 : Int32) [(.int z1), (.int z6), (.int z11), (.int z16), (.int z6), (.int z11), (.int z16), (.int z6), (.int z11), (.int z16), (.int z6), (.int z11), (.int z16), (.int z6), (.int z11), (.int z16), (.int z6), (.int z11), (.int z16), (.int z6), (.int z11), (.int z16), (.int z6), (.int z11), (.int z16), (.int z6), (.int z11), (.int z16), (.int z6), (.int z11), (.int z16), (.int z6), (.int z11), (.int z16), (.int z6), (.int z11), (.int z16), (.int z6), (.int z11), (.int z16), (.int z6), (.int z11), (.int z16), (.int z6), (.int z11), (.int z16), (.int z6), (.int z11), (.int z16), (.int z6), (.int z11), (.int z16), (.int z6), (.int z11), (.int z16), (.int z6), (.int z11), (.int z16), (.int z6), (.int (0 : Int32)), (.int (0 : Int32)), (.int (0 : Int32)), (.int (0 : Int32))] (.int (0 : Int32)) := V529
          refine E_dup X527 at_490 rfl (pc' := 491) rfl ?_
          refine E_bipush X527 (v := (59 : Int32)) at_491 rfl (pc' := 493) rfl ?_
          refine E_iload X527 at_493 rfl (pc' := 495) rfl ?_
          refine E_castore X527 59 (y := z11) at_495 (rst_nar az11) V530 ⟨by decide, by decide⟩ rfl (Nat.le_of_ble_eq_true rfl) g234 (pc' := 496) rfl ?_
          intro T531 X532 K533 V534
          have V535 : Arv Z T531.heap b229 k233 .char (63 : Int32) [(.int z1), (.int z6), (.int z11), (.int z16), (.int z6), (.int z11), (.int z16), (.int z6), (.int z11), (.int z16), (.int z6), (.int z11), (.int z16), (.int z6), (.int z11), (.int z16), (.int z6), (.int z11), (.int z16), (.int z6), (.int z11), (.int z16), (.int z6), (.int z11), (.int z16), (.int z6), (.int z11), (.int z16), (.int z6), (.int z11), (.int z16), (.int z6), (.int z11), (.int z16), (.int z6), (.int z11), (.int z16), (.int z6), (.int z11), (.int z16), (.int z6), (.int z11), (.int z16), (.int z6), (.int z11), (.int z16), (.int z6), (.int z11), (.int z16), (.int z6), (.int z11), (.int z16), (.int z6), (.int z11), (.int z16), (.int z6), (.int z11), (.int z16), (.int z6), (.int z11), (.int (0 : Int32)), (.int (0 : Int32)), (.int (0 : Int32))] (.int (0 : Int32)) := V534
          refine E_dup X532 at_496 rfl (pc' := 497) rfl ?_
          refine E_bipush X532 (v := (60 : Int32)) at_497 rfl (pc' := 499) rfl ?_
          refine E_iload X532 at_499 rfl (pc' := 501) rfl ?_
          refine E_castore X532 60 (y := z16) at_501 (rst_nar az16) V535 ⟨by decide, by decide⟩ rfl (Nat.le_of_ble_eq_true rfl) g234 (pc' := 502) rfl ?_
          intro T536 X537 K538 V539
          have V540 : Arv Z T536.heap b229 k233 .char (63 : Int32) [(.int z1), (.int z6), (.int z11), (.int z16), (.int z6), (.int z11), (.int z16), (.int z6), (.int z11), (.int z16), (.int z6), (.int z11), (.int z16), (.int z6), (.int z11), (.int z16), (.int z6), (.int z11), (.int z16), (.int z6), (.int z11), (.int z16), (.int z6), (.int z11), (.int z16), (.int z6), (.int z11), (.int z16), (.int z6), (.int z11), (.int z16), (.int z6), (.int z11), (.int z16), (.int z6), (.int z11), (.int z16), (.int z6), (.int z11), (.int z16), (.int z6), (.int z11), (.int z16), (.int z6), (.int z11), (.int z16), (.int z6), (.int z11), (.int z16), (.int z6), (.int z11), (.int z16), (.int z6), (.int z11), (.int z16), (.int z6), (.int z11), (.int z16), (.int z6), (.int z11), (.int z16), (.int (0 : Int32)), (.int (0 : Int32))] (.int (0 : Int32)) := V539
          refine E_dup X537 at_502 rfl (pc' := 503) rfl ?_
          refine E_bipush X537 (v := (61 : Int32)) at_503 rfl (pc' := 505) rfl ?_
          refine E_iload X537 at_505 rfl (pc' := 507) rfl ?_
          refine E_castore X537 61 (y := z6) at_507 (rst_nar az6) V540 ⟨by decide, by decide⟩ rfl (Nat.le_of_ble_eq_true rfl) g234 (pc' := 508) rfl ?_
          intro T541 X542 K543 V544
          have V545 : Arv Z T541.heap b229 k233 .char (63 : Int32) [(.int z1), (.int z6), (.int z11), (.int z16), (.int z6), (.int z11), (.int z16), (.int z6), (.int z11), (.int z16), (.int z6), (.int z11), (.int z16), (.int z6), (.int z11), (.int z16), (.int z6), (.int z11), (.int z16), (.int z6), (.int z11), (.int z16), (.int z6), (.int z11), (.int z16), (.int z6), (.int z11), (.int z16), (.int z6), (.int z11), (.int z16), (.int z6), (.int z11), (.int z16), (.int z6), (.int z11), (.int z16), (.int z6), (.int z11), (.int z16), (.int z6), (.int z11), (.int z16), (.int z6), (.int z11), (.int z16), (.int z6), (.int z11), (.int z16), (.int z6), (.int z11), (.int z16), (.int z6), (.int z11), (.int z16), (.int z6), (.int z11), (.int z16), (.int z6), (.int z11), (.int z16), (.int z6), (.int (0 : Int32))] (.int (0 : Int32)) := V544
          refine E_dup X542 at_508 rfl (pc' := 509) rfl ?_
          refine E_bipush X542 (v := (62 : Int32)) at_509 rfl (pc' := 511) rfl ?_
          refine E_iload X542 at_511 rfl (pc' := 513) rfl ?_
          refine E_castore X542 62 (y := z11) at_513 (rst_nar az11) V545 ⟨by decide, by decide⟩ rfl (Nat.le_of_ble_eq_true rfl) g234 (pc' := 514) rfl ?_
          intro T546 X547 K548 V549
          have V550 : Arv Z T546.heap b229 k233 .char (63 : Int32) [(.int z1), (.int z6), (.int z11), (.int z16), (.int z6), (.int z11), (.int z16), (.int z6), (.int z11), (.int z16), (.int z6), (.int z11), (.int z16), (.int z6), (.int z11), (.int z16), (.int z6), (.int z11), (.int z16), (.int z6), (.int z11), (.int z16), (.int z6), (.int z11), (.int z16), (.int z6), (.int z11), (.int z16), (.int z6), (.int z11), (.int z16), (.int z6), (.int z11), (.int z16), (.int z6), (.int z11), (.int z16), (.int z6), (.int z11), (.int z16), (.int z6), (.int z11), (.int z16), (.int z6), (.int z11), (.int z16), (.int z6), (.int z11), (.int z16), (.int z6), (.int z11), (.int z16), (.int z6), (.int z11), (.int z16), (.int z6), (.int z11), (.int z16), (.int z6), (.int z11), (.int z16), (.int z6), (.int z11)] (.int (0 : Int32)) := V549
          refine E_astore X547 at_514 rfl (l' := #[.val (.int p0), .val (.int p1), .val (.int p2), .val (.int p3), .val (.int p4), .val (.int z1), .val (.int z6), .val (.int z11), .val (.int z16), .val (.int (4 : Int32)), .val (.ref b229), .unset, .unset]) rfl (pc' := 516) rfl ?_
          refine E_new X547 at_516 (hw _ (List.mem_of_getElem? (i := 9) rfl)) (hw _ (List.mem_of_getElem? (i := 10) rfl)) (hw _ (List.mem_of_getElem? (i := 11) rfl)) (by decide) (by decide) (pc' := 519) rfl ?_
          intro T551 b553 X552 hb554 K555 E556 D557
          have ne558 : b229 ≠ b553 := Nat.ne_of_lt (Nat.lt_of_lt_of_eq V550.lt hb554.symm)
          have Arv_559 := V550.keep K555 nin0
          have g560 : Z.heap.size ≤ b553 := Nat.le_trans X547.le (Nat.le_of_eq hb554.symm)
          have F561 : Fld Z T551.heap b553 "java/lang/String" "coder" "B" (.int (0 : Int32)) := D557 (Or.inr (hw _ (List.mem_of_getElem? (i := 35) rfl))) (ty := .byte) (by decide)
          have F562 : Fld Z T551.heap b553 "java/lang/String" "value" "[B" .null := D557 (Or.inr (hw _ (List.mem_of_getElem? (i := 37) rfl))) (ty := (.array .byte)) (by decide)
          refine E_dup X552 at_519 rfl (pc' := 520) rfl ?_
          refine E_aload X552 at_520 rfl rfl (pc' := 522) rfl ?_
          refine E_special X552 (rm := rm_sinit) (a := b553) at_522 rfl rfl (hw _ (List.mem_of_getElem? (i := 12) rfl)) (hw _ (List.mem_of_getElem? (i := 13) rfl)) (hw _ (List.mem_of_getElem? (i := 14) rfl)) (by decide) (hw _ (List.mem_of_getElem? (i := 11) rfl)) (argsL := [(.ref b229)]) (st := [(.ref b553)]) rfl (ct_sinit l Z a0 hw G1 G3 OS b553 b229 k233 [z1, z6, z11, z16, z6, z11, z16, z6, z11, z16, z6, z11, z16, z6, z11, z16, z6, z11, z16, z6, z11, z16, z6, z11, z16, z6, z11, z16, z6, z11, z16, z6, z11, z16, z6, z11, z16, z6, z11, z16, z6, z11, z16, z6, z11, z16, z6, z11, z16, z6, z11, z16, z6, z11, z16, z6, z11, z16, z6, z11, z16, z6, z11] (.int (0 : Int32)) .null (.int (0 : Int32)) X552.old (Nat.le_of_ble_eq_true rfl) (Nat.le_of_ble_eq_true rfl) (allC (rst_ch (Or.inl az1)) (allC (rst_ch az6) (allC (rst_ch az11) (allC (rst_ch az16) (allC (rst_ch az6) (allC (rst_ch az11) (allC (rst_ch az16) (allC (rst_ch az6) (allC (rst_ch az11) (allC (rst_ch az16) (allC (rst_ch az6) (allC (rst_ch az11) (allC (rst_ch az16) (allC (rst_ch az6) (allC (rst_ch az11) (allC (rst_ch az16) (allC (rst_ch az6) (allC (rst_ch az11) (allC (rst_ch az16) (allC (rst_ch az6) (allC (rst_ch az11) (allC (rst_ch az16) (allC (rst_ch az6) (allC (rst_ch az11) (allC (rst_ch az16) (allC (rst_ch az6) (allC (rst_ch az11) (allC (rst_ch az16) (allC (rst_ch az6) (allC (rst_ch az11) (allC (rst_ch az16) (allC (rst_ch az6) (allC (rst_ch az11) (allC (rst_ch az16) (allC (rst_ch az6) (allC (rst_ch az11) (allC (rst_ch az16) (allC (rst_ch az6) (allC (rst_ch az11) (allC (rst_ch az16) (allC (rst_ch az6) (allC (rst_ch az11) (allC (rst_ch az16) (allC (rst_ch az6) (allC (rst_ch az11) (allC (rst_ch az16) (allC (rst_ch az6) (allC (rst_ch az11) (allC (rst_ch az16) (allC (rst_ch az6) (allC (rst_ch az11) (allC (rst_ch az16) (allC (rst_ch az6) (allC (rst_ch az11) (allC (rst_ch az16) (allC (rst_ch az6) (allC (rst_ch az11) (allC (rst_ch az16) (allC (rst_ch az6) (allC (rst_ch az11) (allC (rst_ch az16) (allC (rst_ch az6) (allC (rst_ch az11) allN))))))))))))))))))))))))))))))))))))))))))))))))))))))))))))))) E556 F562 F561 g560 Arv_559) (lenOf (pd_11) rfl) rfl (by decide) (by decide) (by decide) (Nat.le_of_ble_eq_true rfl) (pc' := 525) rfl ?_
          intro T563 _ X564 hQ565
          obtain ⟨rfl, K566, t567, sz568, S569⟩ := hQ565
          have ne570 : b229 ≠ t567 := Nat.ne_of_lt (Nat.lt_of_lt_of_le Arv_559.lt sz568)
          have ne571 : b553 ≠ t567 := Nat.ne_of_lt (Nat.lt_of_lt_of_le E556.lt sz568)
          have Arv_572 := Arv_559.keep K566 (ninS ne558 nin0)
          show Ends p e below s Z _ _ _ T563 (mkF m 525 #[.val (.int p0), .val (.int p1), .val (.int p2), .val (.int p3), .val (.int p4), .val (.int z1), .val (.int z6), .val (.int z11), .val (.int z16), .val (.int (4 : Int32)), .val (.ref b229), .unset, .unset] [(.ref b553)])
          refine E_astore X564 at_525 rfl (l' := #[.val (.int p0), .val (.int p1), .val (.int p2), .val (.int p3), .val (.int p4), .val (.int z1), .val (.int z6), .val (.int z11), .val (.int z16), .val (.int (4 : Int32)), .val (.ref b229), .val (.ref b553), .unset]) rfl (pc' := 527) rfl ?_
          refine E_iload X564 at_527 rfl (pc' := 529) rfl ?_
          refine E_iconst X564 (v := (4 : Int32)) at_529 rfl (pc' := 530) rfl ?_
          refine E_icF X564 at_530 (XT.ii_ne_f (by decide)) (pc' := 533) rfl ?_
          refine E_aload X564 at_533 rfl rfl (pc' := 535) rfl ?_
          refine E_virtual X564 (rm := rm_slen) (a := b553) (D := "java/lang/String") at_535 (hw _ (List.mem_of_getElem? (i := 84) rfl)) (hw _ (List.mem_of_getElem? (i := 48) rfl)) (hw _ (List.mem_of_getElem? (i := 50) rfl)) (hw _ (List.mem_of_getElem? (i := 49) rfl)) (notFace_of_selects (args := #[]) (mvT X564.hZ (hw _ (List.mem_of_getElem? (i := 50) rfl)))) (by decide) (OStr.exa S569) (hw _ (List.mem_of_getElem? (i := 11) rfl)) (hw _ (List.mem_of_getElem? (i := 51) rfl)) (argsL := []) (st := []) rfl (ct_slen l Z a0 hw G1 G3 OS b553 t567 [z1, z6, z11, z16, z6, z11, z16, z6, z11, z16, z6, z11, z16, z6, z11, z16, z6, z11, z16, z6, z11, z16, z6, z11, z16, z6, z11, z16, z6, z11, z16, z6, z11, z16, z6, z11, z16, z6, z11, z16, z6, z11, z16, z6, z11, z16, z6, z11, z16, z6, z11, z16, z6, z11, z16, z6, z11, z16, z6, z11, z16, z6, z11] X564.old S569) (lenOf (pd_9) rfl) rfl (by decide) (by decide) (by decide) (Nat.le_of_ble_eq_true rfl) (pc' := 538) rfl ?_
          intro T573 _ X574 hQ575
          obtain ⟨rfl, e576⟩ := hQ575
          rw [← e576] at Arv_572 S569
          show Ends p e below s Z _ _ _ T573 (mkF m 538 #[.val (.int p0), .val (.int p1), .val (.int p2), .val (.int p3), .val (.int p4), .val (.int z1), .val (.int z6), .val (.int z11), .val (.int z16), .val (.int (4 : Int32)), .val (.ref b229), .val (.ref b553), .unset] [(.int (63 : Int32))])
          refine E_bipush X574 (v := (63 : Int32)) at_538 rfl (pc' := 540) rfl ?_
          refine E_icT X574 at_540 (XT.ii_eq_t (by decide)) (pc' := 545) (by decide) rfl ?_
          refine E_aload X574 at_545 rfl rfl (pc' := 547) rfl ?_
          refine E_static X574 (rm := rm_reqname) at_547 (hw _ (List.mem_of_getElem? (i := 38) rfl)) (hw _ (List.mem_of_getElem? (i := 39) rfl)) (hw _ (List.mem_of_getElem? (i := 40) rfl)) (hw _ (List.mem_of_getElem? (i := 41) rfl)) (by decide) (argsL := [(.ref b553)]) (st := []) rfl (ct_reqname l Z a0 hw G1 G3 OS b553 t567 [z1, z6, z11, z16, z6, z11, z16, z6, z11, z16, z6, z11, z16, z6, z11, z16, z6, z11, z16, z6, z11, z16, z6, z11, z16, z6, z11, z16, z6, z11, z16, z6, z11, z16, z6, z11, z16, z6, z11, z16, z6, z11, z16, z6, z11, z16, z6, z11, z16, z6, z11, z16, z6, z11, z16, z6, z11, z16, z6, z11, z16, z6, z11] X574.old S569 (Nat.le_of_ble_eq_true rfl) (Nat.le_of_ble_eq_true rfl) (allC (Or.inl az1) (allC az6 (allC az11 (allC az16 (allC az6 (allC az11 (allC az16 (allC az6 (allC az11 (allC az16 (allC az6 (allC az11 (allC az16 (allC az6 (allC az11 (allC az16 (allC az6 (allC az11 (allC az16 (allC az6 (allC az11 (allC az16 (allC az6 (allC az11 (allC az16 (allC az6 (allC az11 (allC az16 (allC az6 (allC az11 (allC az16 (allC az6 (allC az11 (allC az16 (allC az6 (allC az11 (allC az16 (allC az6 (allC az11 (allC az16 (allC az6 (allC az11 (allC az16 (allC az6 (allC az11 (allC az16 (allC az6 (allC az11 (allC az16 (allC az6 (allC az11 (allC az16 (allC az6 (allC az11 (allC az16 (allC az6 (allC az11 (allC az16 (allC az6 (allC az11 (allC az16 (allC az6 (allC az11 allN))))))))))))))))))))))))))))))))))))))))))))))))))))))))))))))) az1) (lenOf (pd_12) rfl) rfl (by decide) (by decide) (by decide) (Nat.le_of_ble_eq_true rfl) (pc' := 550) rfl ?_
          intro T577 _ X578 hQ579
          obtain ⟨rfl, e580⟩ := hQ579
          rw [← e580] at Arv_572 S569
          show Ends p e below s Z _ _ _ T577 (mkF m 550 #[.val (.int p0), .val (.int p1), .val (.int p2), .val (.int p3), .val (.int p4), .val (.int z1), .val (.int z6), .val (.int z11), .val (.int z16), .val (.int (4 : Int32)), .val (.ref b229), .val (.ref b553), .unset] [(.ref b553)])
          refine E_astore X578 at_550 rfl (l' := #[.val (.int p0), .val (.int p1), .val (.int p2), .val (.int p3), .val (.int p4), .val (.int z1), .val (.int z6), .val (.int z11), .val (.int z16), .val (.int (4 : Int32)), .val (.ref b229), .val (.ref b553), .val (.ref b553)]) rfl (pc' := 552) rfl ?_
          refine E_aload X578 at_552 rfl rfl (pc' := 554) rfl ?_
          refine E_nullF X578 at_554 (pc' := 557) rfl ?_
          refine E_aload X578 at_557 rfl rfl (pc' := 559) rfl ?_
          refine E_aload X578 at_559 rfl rfl (pc' := 561) rfl ?_
          refine E_virtual X578 (rm := rm_eqself) (a := b553) (D := "java/lang/String") at_561 (hw _ (List.mem_of_getElem? (i := 79) rfl)) (hw _ (List.mem_of_getElem? (i := 80) rfl)) (hw _ (List.mem_of_getElem? (i := 82) rfl)) (hw _ (List.mem_of_getElem? (i := 81) rfl)) (notFace_of_selects (args := #[]) (mvT X578.hZ (hw _ (List.mem_of_getElem? (i := 82) rfl)))) (by decide) (OStr.exa S569) (hw _ (List.mem_of_getElem? (i := 11) rfl)) (hw _ (List.mem_of_getElem? (i := 83) rfl)) (argsL := [(.ref b553)]) (st := []) rfl (ct_eqself l Z a0 hw G1 G3 OS b553 X578.old) (lenOf (pd_13) rfl) rfl (by decide) (by decide) (by decide) (Nat.le_of_ble_eq_true rfl) (pc' := 564) rfl ?_
          intro T581 _ X582 hQ583
          obtain ⟨rfl, e584⟩ := hQ583
          rw [← e584] at Arv_572 S569
          show Ends p e below s Z _ _ _ T581 (mkF m 564 #[.val (.int p0), .val (.int p1), .val (.int p2), .val (.int p3), .val (.int p4), .val (.int z1), .val (.int z6), .val (.int z11), .val (.int z16), .val (.int (4 : Int32)), .val (.ref b229), .val (.ref b553), .val (.ref b553)] [(.int (1 : Int32))])
          refine E_ifF X582 at_564 (XT.i0_eq_f (by decide)) (pc' := 567) rfl ?_
          refine E_iconst X582 (v := (1 : Int32)) at_567 rfl (pc' := 568) rfl ?_
          refine E_goto X582 at_568 (pc' := 572) (by decide) rfl ?_
          exact E_ireturnN X582 (t := .boolean) at_572 rfl (by simp) (by decide) (by decide) (rfl)
set_option maxRecDepth 65536 in
set_option maxHeartbeats 40000000 in
theorem comes_1 {Post : Tables → Env → Array Value → State → Outcome → State → Prop} (hpost : ∀ tb e args s v u, (limb_1_1.after args s (.returned v) u = true ∧ limb_1_2.after args s (.returned v) u = true ∧ True) → FrameEnd s (.returned v) u (Jvm.fieldLocs frame_1_writes args s ++ Jvm.arrayLocs frame_1_arrays args s ++ Jvm.staticLocs frame_1_statics s) 16 384 → Post tb e args s (.returned v) u) :
    ArmFor flags0 classFile x code maxLocals ret World_1 tables_1 room_1 Calls_1 rest_1 Pre_1 Post := by
  intro l hfl _ _ p e ha hc hk s m args below hf hA hF happ hP
  obtain ⟨hcalls, hrest, hpre⟩ := hP
  obtain ⟨-, -, -, hnamed, -, -, -, hat⟩ := (Spec.applies_iff hf).mp happ
  obtain ⟨hg, hn⟩ := and_e (Cond.before_iff.mp (show (Jvm.Cond.and given_1 narrow_1).before args s = true from hpre))
  obtain ⟨hcnt, g0⟩ := and_e hg
  obtain ⟨i0, g1⟩ := and_e g0
  obtain ⟨i1, g2⟩ := and_e g1
  obtain ⟨i2, g3⟩ := and_e g2
  obtain ⟨i3, g4⟩ := and_e g3
  obtain ⟨w0, w1, w2, w3, w4, rfl⟩ : ∃ w0 w1 w2 w3 w4 : Value, args = #[w0, w1, w2, w3, w4] := by
    have hs : args.size = 5 := by simpa [Cond.value, given_1] using hcnt
    obtain ⟨L⟩ := args
    match L, hs with
    | [w0, w1, w2, w3, w4], _ => exact ⟨w0, w1, w2, w3, w4, rfl⟩
  have hw := fun d (hd : d ∈ tables_1) => atoms_spec (ws := Jvm.Cond.code x code maxLocals ret :: tables_1) hat d (List.mem_cons_of_mem _ hd)
  obtain ⟨hsets, hown0⟩ := atoms_of _ (rest_1_c_eq ▸ (show rest_1_c.before _ s = true from hrest))
  have hr0 := Cond.before_iff.mp hown0
  have hfit : Fit s := fun {y c} hc i hi => by
    obtain ⟨ha, rfl⟩ := Array.getElem?_eq_some_iff.mp hc
    have q := List.all_eq_true.mp ((Array.all_eq_true_iff_forall_mem.mp hF) _ (Array.getElem_mem ha)) i (List.mem_range.mpr hi)
    simpa [Array.getElem?_eq_getElem hi] using q
  obtain ⟨x0, ex0⟩ := is_v i0
  obtain rfl : w0 = (.int x0) := Option.some.inj ex0
  obtain ⟨x1, ex1⟩ := is_v i1
  obtain rfl : w1 = (.int x1) := Option.some.inj ex1
  obtain ⟨x2, ex2⟩ := is_v i2
  obtain rfl : w2 = (.int x2) := Option.some.inj ex2
  obtain ⟨x3, ex3⟩ := is_v i3
  obtain rfl : w3 = (.int x3) := Option.some.inj ex3
  obtain ⟨x4, ex4⟩ := is_v g4
  obtain rfl : w4 = (.int x4) := Option.some.inj ex4
  have n5 := not_v (Cond.before_iff.mp (hsets _ (List.mem_of_getElem? (i := 2) rfl)))
  obtain ⟨g1, eg1⟩ := is_v (Cond.before_iff.mp (hsets _ (List.mem_of_getElem? (i := 1) rfl)))
  have S12 : Sta s s.heap "java/lang/String" "COMPACT_STRINGS" "Z" (.int g1) := Sta.start eg1 (Or.inl (hsets _ (List.mem_of_getElem? (i := 0) rfl)))
  obtain ⟨g3, eg3, r15⟩ := isR_v (Cond.before_iff.mp (hsets _ (List.mem_of_getElem? (i := 8) rfl)))
  have S16 : Sta s s.heap "jdk/internal/util/Preconditions" "SIOOBE_FORMATTER" "Ljava/util/function/BiFunction;" g3 := Sta.start eg3 (Or.inl (hsets _ (List.mem_of_getElem? (i := 7) rfl)))
  have c17 : ¬ (g1 = (0 : Int32)) := gotF (Cond.eq_ints eg1 (Term.int_eval (0))) n5
  obtain ⟨n, o, h1, h2, h3, _, L, rfl, ⟨N, -, rfl⟩, hq⟩ := ct_law l s _ hw x0 x1 x2 x3 x4 g1 g3 ⟨Nat.le_refl _, fun _ _ q => q⟩ ⟨S12, c17, S16, r15⟩ tables_1 p e ha hc hk s m _ below hf ((Spec.applies_iff_loose hf).mp happ).1 ⟨rfl, State.Warmed39.refl s, rfl⟩ trivial
  refine ⟨n, _, h1, h2, h3, hpost _ _ _ _ _ _ ⟨Cond.after_iff.mpr rfl, Cond.after_iff.mpr (eq_i res_at (Term.int_eval (1)) rfl), trivial⟩ ⟨hq.1, hq.2.1, (hq.2.2.sift fun y hy => Or.inr (N y hy)).mono (by decide) (by decide)⟩⟩
theorem main_1_1 : Claimed_1_1 := comes_1 fun _ _ _ _ _ _ h hF => ⟨h.1, hF⟩
theorem main_1_2 : Claimed_1_2 := comes_1 fun _ _ _ _ _ _ h hF => ⟨h.2.1, hF⟩
end Jvm.Pilot.@@N@@
namespace Jvm.Pilot.@@N@@
open Jvm Jvm.ClassFile Sem Op Lib Jvm.Free Jvm.Stand Jvm.Pilot.@@N@@.Jvm.D
/-! MADE BY PROGRAM (witnessworld.py) out of the Statement's table words and the real class files: 20 classes; the members and pool entries that the words name. The judged class is class 1, her method 3. -/
namespace start1
open Jvm.ClassFile
def u (s : String) : CpInfo := .utf8 (stringToUtf16 s)
/-- a pool by its gaps: so many unusable entries, then the entry; so many at the end -/
def gap : Nat → List CpInfo → List CpInfo
  | 0, r => r
  | n + 1, r => .unusable :: gap n r
def poolList (es : List (Nat × CpInfo)) (last : Nat) : List CpInfo := es.foldr (fun e r => gap e.1 (e.2 :: r)) (gap last [])
def pool (es : List (Nat × CpInfo)) (last : Nat) : Array CpInfo := ⟨poolList es last⟩
def fileOf (pool : Array CpInfo) (this : Nat) (attrs : Array Attribute := #[]) (ms : Array MethodInfo := #[]) (fl : Nat := 33) (sup : Nat := 0) (ifs : Array Nat := #[]) (fds : Array FieldInfo := #[]) : ClassFile where
  minorVersion := 0
  majorVersion := 65
  constantPool := pool
  accessFlags := fl
  thisClass := this
  superClass := sup
  interfaces := ifs
  fields := fds
  methods := ms
  attributes := attrs
def plain (name : String) (sup : Option ClassId) : Class where
  name := name
  kind := .ordinary
  loader := none
  accessFlags := 33
  super := sup
  interfaces := #[]
  cf := none
  fields := #[]
  methods := #[]
  instanceTypes := #[]
  staticTypes := #[]
  resolved := #[]
  callSites := []
  init := .initialized
  statics := none
  mirror := none

def pool0 : Array CpInfo := pool [(5, u "<init>"), (0, u "()V"), (1, .class_ 10), (1, u "java/lang/Object")] 113

def k0c0 : Code := { maxStack := 0, maxLocals := 1, code := object_method_1_code, exceptionTable := #[], attributes := #[] }
def k0m0 : Method := { name := "<init>", desc := "()V", sig := { parameters := [], returnType := none }, accessFlags := 1, code := some k0c0 }
/-- java/lang/Object -/
def k0 : Class := { plain "java/lang/Object" none with
  accessFlags := 33
  interfaces := #[]
  cf := some (fileOf pool0 8 #[] #[{ accessFlags := 1, nameIndex := 5, descriptorIndex := 6, attributes := #[] }] 33 0 #[] #[])
  fields := #[]
  methods := #[k0m0]
  instanceTypes := #[]
  staticTypes := #[]
  resolved := Array.replicate 124 none
  statics := none }

def pool1 : Array CpInfo := pool [(2, .class_ 4), (1, u "java/lang/Object"), (0, u "<init>"), (0, u "()V"), (0, .integer 2147483647), (0, .methodref 9 10), (0, .class_ 11), (0, .nameAndType 12 13), (0, u "com/example/bedrock_dispatch/bedrockdispatch/SchemaRequireNamePinLaw"), (0, u "first"), (0, u "(I)C"), (0, .methodref 9 15), (0, .nameAndType 16 13), (0, u "rest"), (0, .class_ 18), (0, u "java/lang/String"), (0, .methodref 17 20), (0, .nameAndType 5 21), (0, u "([C)V"), (0, .methodref 17 23), (0, .nameAndType 24 25), (0, u "length"), (0, u "()I"), (0, .methodref 27 28), (0, .class_ 29), (0, .nameAndType 30 31), (0, u "com/example/bedrock_dispatch/bedrockdispatch/Schema"), (0, u "requireName"), (0, u "(Ljava/lang/String;)Ljava/lang/String;"), (0, .methodref 17 33), (0, .nameAndType 34 35), (0, u "equals"), (0, u "(Ljava/lang/Object;)Z"), (3, u "law"), (0, u "(IIIII)Z")] 4

def k1m0 : Method := { name := "<init>", desc := "()V", sig := { parameters := [], returnType := none }, accessFlags := 2, code := none }
def k1c1 : Code := { maxStack := 2, maxLocals := 2, code := method_2_code, exceptionTable := #[], attributes := #[] }
def k1m1 : Method := { name := "first", desc := "(I)C", sig := { parameters := [.int], returnType := some .char }, accessFlags := 10, code := some k1c1 }
def k1c2 : Code := { maxStack := 3, maxLocals := 2, code := method_3_code, exceptionTable := #[], attributes := #[] }
def k1m2 : Method := { name := "rest", desc := "(I)C", sig := { parameters := [.int], returnType := some .char }, accessFlags := 10, code := some k1c2 }
def k1c3 : Code := { maxStack := 4, maxLocals := 13, code := code, exceptionTable := #[], attributes := #[] }
def k1m3 : Method := { name := "law", desc := "(IIIII)Z", sig := { parameters := [.int, .int, .int, .int, .int], returnType := some .boolean }, accessFlags := 9, code := some k1c3 }
/-- com/example/bedrock_dispatch/bedrockdispatch/SchemaRequireNamePinLaw -/
def k1 : Class := { plain "com/example/bedrock_dispatch/bedrockdispatch/SchemaRequireNamePinLaw" (some 0) with
  accessFlags := 49
  interfaces := #[]
  cf := some (fileOf pool1 9 #[] #[{ accessFlags := 2, nameIndex := 5, descriptorIndex := 6, attributes := #[] }, { accessFlags := 10, nameIndex := 12, descriptorIndex := 13, attributes := #[] }, { accessFlags := 10, nameIndex := 16, descriptorIndex := 13, attributes := #[] }, { accessFlags := 9, nameIndex := 39, descriptorIndex := 40, attributes := #[] }] 49 2 #[] #[])
  fields := #[]
  methods := #[k1m0, k1m1, k1m2, k1m3]
  instanceTypes := #[]
  staticTypes := #[]
  resolved := Array.replicate 45 none
  statics := none }

def pool2 : Array CpInfo := pool [(1, .class_ 2), (0, u "java/io/Serializable"), (0, .class_ 4), (0, u "java/lang/Object")] 2

/-- java/io/Serializable -/
def k2 : Class := { plain "java/io/Serializable" (some 0) with
  accessFlags := 1537
  interfaces := #[]
  cf := some (fileOf pool2 1 #[] #[] 1537 3 #[] #[])
  fields := #[]
  methods := #[]
  instanceTypes := #[]
  staticTypes := #[]
  resolved := Array.replicate 7 none
  statics := none }

def pool3 : Array CpInfo := pool [(1, .class_ 2), (0, u "java/lang/Comparable"), (0, .class_ 4), (0, u "java/lang/Object")] 7

/-- java/lang/Comparable -/
def k3 : Class := { plain "java/lang/Comparable" (some 0) with
  accessFlags := 1537
  interfaces := #[]
  cf := some (fileOf pool3 1 #[] #[] 1537 3 #[] #[])
  fields := #[]
  methods := #[]
  instanceTypes := #[]
  staticTypes := #[]
  resolved := Array.replicate 12 none
  statics := none }

def pool4 : Array CpInfo := pool [(2, .class_ 4), (1, u "java/lang/CharSequence"), (42, .class_ 48), (0, u "java/lang/CharSequence$1CodePointIterator"), (10, .class_ 60), (0, u "java/lang/CharSequence$1CharIterator"), (5, .class_ 67), (0, u "java/lang/Object")] 63

/-- java/lang/CharSequence -/
def k4 : Class := { plain "java/lang/CharSequence" (some 0) with
  accessFlags := 1537
  interfaces := #[]
  cf := some (fileOf pool4 2 #[.nestMembers #[47, 59]] #[] 1537 66 #[] #[])
  fields := #[]
  methods := #[]
  instanceTypes := #[]
  staticTypes := #[]
  resolved := Array.replicate 131 none
  statics := none }

def pool5 : Array CpInfo := pool [(1, .class_ 2), (0, u "java/lang/constant/Constable"), (0, .class_ 4), (0, u "java/lang/Object")] 6

/-- java/lang/constant/Constable -/
def k5 : Class := { plain "java/lang/constant/Constable" (some 0) with
  accessFlags := 1537
  interfaces := #[]
  cf := some (fileOf pool5 1 #[] #[] 1537 3 #[] #[])
  fields := #[]
  methods := #[]
  instanceTypes := #[]
  staticTypes := #[]
  resolved := Array.replicate 11 none
  statics := none }

def pool6 : Array CpInfo := pool [(1, .class_ 2), (0, u "java/lang/constant/ConstantDesc"), (0, .class_ 4), (0, u "java/lang/Object")] 32

/-- java/lang/constant/ConstantDesc -/
def k6 : Class := { plain "java/lang/constant/ConstantDesc" (some 0) with
  accessFlags := 1537
  interfaces := #[]
  cf := some (fileOf pool6 1 #[] #[] 1537 3 #[] #[])
  fields := #[]
  methods := #[]
  instanceTypes := #[]
  staticTypes := #[]
  resolved := Array.replicate 37 none
  statics := none }

def pool7 : Array CpInfo := pool [(1, .methodref 2 3), (0, .class_ 4), (0, .nameAndType 5 6), (0, u "java/lang/Object"), (0, u "<init>"), (0, u "()V"), (2, .fieldref 10 11), (0, .class_ 12), (0, .nameAndType 13 14), (0, u "java/lang/String"), (0, u "value"), (0, u "[B"), (0, .fieldref 10 16), (0, .nameAndType 17 18), (0, u "coder"), (0, u "B"), (2, u "hash"), (0, u "I"), (2, u "hashIsZero"), (0, u "Z"), (0, .methodref 10 28), (0, .nameAndType 5 29), (0, u "([CIILjava/lang/Void;)V"), (8, .fieldref 10 39), (0, .nameAndType 40 26), (0, u "COMPACT_STRINGS"), (1, .class_ 44), (1, u "java/lang/StringUTF16"), (0, u "compress"), (1, .methodref 42 48), (0, .nameAndType 49 50), (0, u "coderFromArrayLen"), (0, u "([BI)B"), (56, .class_ 109), (1, u "java/lang/StringLatin1"), (32, u "()Z"), (34, .methodref 42 178), (0, .nameAndType 45 179), (0, u "([CII)[B"), (154, u "()I"), (0, .methodref 10 336), (0, .nameAndType 17 337), (0, u "()B"), (25, u "([BI)C"), (27, u "(II)V"), (35, u "(I)C"), (64, .methodref 10 493), (0, .nameAndType 494 142), (0, u "isLatin1"), (0, .methodref 107 496), (0, .nameAndType 497 363), (0, u "charAt"), (3, u "checkIndex"), (5, u "length"), (35, u "equals"), (29, u "(Ljava/lang/Object;)Z"), (1, .class_ 576), (0, u "java/lang/CharSequence"), (22, u "CASE_INSENSITIVE_ORDER"), (0, u "Ljava/util/Comparator;"), (91, u "isEmpty"), (317, u "([C)V"), (42, .fieldref 1054 1055), (0, .class_ 1056), (0, .nameAndType 1057 1058), (0, u "jdk/internal/util/Preconditions"), (0, u "SIOOBE_FORMATTER"), (0, u "Ljava/util/function/BiFunction;"), (0, .methodref 1054 1060), (0, .nameAndType 501 1061), (0, u "(IILjava/util/function/BiFunction;)I"), (39, u "serialPersistentFields"), (0, u "[Ljava/io/ObjectStreamField;"), (0, .class_ 1104), (0, u "java/lang/String$CaseInsensitiveComparator"), (1, .class_ 1107), (0, u "java/io/Serializable"), (0, .class_ 1109), (0, u "java/lang/Comparable"), (0, .class_ 1111), (0, u "java/lang/constant/Constable"), (0, .class_ 1113), (0, u "java/lang/constant/ConstantDesc"), (2, u "serialVersionUID"), (0, u "J"), (3, u "REPL"), (0, u "C"), (2, u "LATIN1"), (1, u "UTF16")] 323

def k7m0 : Method := { name := "<init>", desc := "()V", sig := { parameters := [], returnType := none }, accessFlags := 1, code := none }
def k7c1 : Code := { maxStack := 5, maxLocals := 2, code := jdk_42_method_3_code, exceptionTable := #[], attributes := #[] }
def k7m1 : Method := { name := "<init>", desc := "([C)V", sig := { parameters := [(.array .char)], returnType := none }, accessFlags := 1, code := some k7c1 }
def k7c2 : Code := { maxStack := 2, maxLocals := 1, code := jdk_42_method_54_code, exceptionTable := #[], attributes := #[] }
def k7m2 : Method := { name := "length", desc := "()I", sig := { parameters := [], returnType := some .int }, accessFlags := 1, code := some k7c2 }
def k7c3 : Code := { maxStack := 1, maxLocals := 1, code := jdk_42_method_55_code, exceptionTable := #[], attributes := #[] }
def k7m3 : Method := { name := "isEmpty", desc := "()Z", sig := { parameters := [], returnType := some .boolean }, accessFlags := 1, code := some k7c3 }
def k7c4 : Code := { maxStack := 2, maxLocals := 2, code := jdk_42_method_56_code, exceptionTable := #[], attributes := #[] }
def k7m4 : Method := { name := "charAt", desc := "(I)C", sig := { parameters := [.int], returnType := some .char }, accessFlags := 1, code := some k7c4 }
def k7c5 : Code := { maxStack := 2, maxLocals := 3, code := jdk_42_method_66_code, exceptionTable := #[], attributes := #[] }
def k7m5 : Method := { name := "equals", desc := "(Ljava/lang/Object;)Z", sig := { parameters := [(.object "java/lang/Object")], returnType := some .boolean }, accessFlags := 1, code := some k7c5 }
def k7c6 : Code := { maxStack := 4, maxLocals := 6, code := jdk_42_method_149_code, exceptionTable := #[], attributes := #[] }
def k7m6 : Method := { name := "<init>", desc := "([CIILjava/lang/Void;)V", sig := { parameters := [(.array .char), .int, .int, (.object "java/lang/Void")], returnType := none }, accessFlags := 2, code := some k7c6 }
def k7c7 : Code := { maxStack := 1, maxLocals := 1, code := jdk_42_method_152_code, exceptionTable := #[], attributes := #[] }
def k7m7 : Method := { name := "coder", desc := "()B", sig := { parameters := [], returnType := some .byte }, accessFlags := 0, code := some k7c7 }
def k7c8 : Code := { maxStack := 1, maxLocals := 1, code := jdk_42_method_154_code, exceptionTable := #[], attributes := #[] }
def k7m8 : Method := { name := "isLatin1", desc := "()Z", sig := { parameters := [], returnType := some .boolean }, accessFlags := 0, code := some k7c8 }
def k7c9 : Code := { maxStack := 3, maxLocals := 2, code := jdk_42_method_155_code, exceptionTable := #[], attributes := #[] }
def k7m9 : Method := { name := "checkIndex", desc := "(II)V", sig := { parameters := [.int, .int], returnType := none }, accessFlags := 8, code := some k7c9 }
/-- java/lang/String -/
def k7 : Class := { plain "java/lang/String" (some 0) with
  accessFlags := 49
  interfaces := #[2, 3, 4, 5, 6]
  cf := some (fileOf pool7 10 #[.nestMembers #[1103]] #[{ accessFlags := 1, nameIndex := 5, descriptorIndex := 6, attributes := #[] }, { accessFlags := 1, nameIndex := 5, descriptorIndex := 1010, attributes := #[] }, { accessFlags := 1, nameIndex := 507, descriptorIndex := 334, attributes := #[] }, { accessFlags := 1, nameIndex := 692, descriptorIndex := 142, attributes := #[] }, { accessFlags := 1, nameIndex := 497, descriptorIndex := 427, attributes := #[] }, { accessFlags := 1, nameIndex := 543, descriptorIndex := 573, attributes := #[] }, { accessFlags := 2, nameIndex := 5, descriptorIndex := 29, attributes := #[] }, { accessFlags := 0, nameIndex := 17, descriptorIndex := 337, attributes := #[] }, { accessFlags := 0, nameIndex := 494, descriptorIndex := 142, attributes := #[] }, { accessFlags := 8, nameIndex := 501, descriptorIndex := 391, attributes := #[] }] 49 2 #[1106, 1108, 575, 1110, 1112] #[{ accessFlags := 18, nameIndex := 13, descriptorIndex := 14, attributes := #[] }, { accessFlags := 18, nameIndex := 17, descriptorIndex := 18, attributes := #[] }, { accessFlags := 2, nameIndex := 21, descriptorIndex := 22, attributes := #[] }, { accessFlags := 2, nameIndex := 25, descriptorIndex := 26, attributes := #[] }, { accessFlags := 26, nameIndex := 1116, descriptorIndex := 1117, attributes := #[] }, { accessFlags := 24, nameIndex := 40, descriptorIndex := 26, attributes := #[] }, { accessFlags := 26, nameIndex := 1101, descriptorIndex := 1102, attributes := #[] }, { accessFlags := 26, nameIndex := 1121, descriptorIndex := 1122, attributes := #[] }, { accessFlags := 25, nameIndex := 599, descriptorIndex := 600, attributes := #[] }, { accessFlags := 24, nameIndex := 1125, descriptorIndex := 18, attributes := #[] }, { accessFlags := 24, nameIndex := 1127, descriptorIndex := 18, attributes := #[] }])
  fields := #[{ name := "value", type := (.array .byte), accessFlags := 18, slot := 0, constantValue := 0 }, { name := "coder", type := .byte, accessFlags := 18, slot := 1, constantValue := 0 }, { name := "hash", type := .int, accessFlags := 2, slot := 2, constantValue := 0 }, { name := "hashIsZero", type := .boolean, accessFlags := 2, slot := 3, constantValue := 0 }, { name := "serialVersionUID", type := .long, accessFlags := 26, slot := 0, constantValue := 0 }, { name := "COMPACT_STRINGS", type := .boolean, accessFlags := 24, slot := 1, constantValue := 0 }, { name := "serialPersistentFields", type := (.array (.object "java/io/ObjectStreamField")), accessFlags := 26, slot := 2, constantValue := 0 }, { name := "REPL", type := .char, accessFlags := 26, slot := 3, constantValue := 0 }, { name := "CASE_INSENSITIVE_ORDER", type := (.object "java/util/Comparator"), accessFlags := 25, slot := 4, constantValue := 0 }, { name := "LATIN1", type := .byte, accessFlags := 24, slot := 5, constantValue := 0 }, { name := "UTF16", type := .byte, accessFlags := 24, slot := 6, constantValue := 0 }]
  methods := #[k7m0, k7m1, k7m2, k7m3, k7m4, k7m5, k7m6, k7m7, k7m8, k7m9]
  instanceTypes := #[(.array .byte), .byte, .int, .boolean]
  staticTypes := #[.long, .boolean, (.array (.object "java/io/ObjectStreamField")), .char, (.object "java/util/Comparator"), .byte, .byte]
  resolved := Array.replicate 1451 none
  statics := some 0 }

def pool8 : Array CpInfo := pool [(6, .class_ 8), (1, u "java/lang/Object"), (0, u "<init>"), (0, u "()V"), (1, .class_ 14), (1, u "java/lang/StringUTF16"), (31, u "$assertionsDisabled"), (0, u "Z"), (13, u "HI_BYTE_SHIFT"), (0, u "I"), (2, u "LO_BYTE_SHIFT"), (49, .methodref 12 116), (0, .nameAndType 117 118), (0, u "compress"), (0, u "([CI[BII)I"), (3, u "([CII)[B"), (138, u "coderFromArrayLen"), (0, u "([BI)B"), (106, .class_ 371), (1, u "java/lang/StringUTF16$LinesSpliterator"), (58, u "MAX_LENGTH"), (196, .class_ 628), (0, u "java/lang/StringUTF16$CodePointsSpliterator"), (0, .class_ 630), (0, u "java/lang/StringUTF16$CharsSpliterator")] 4

def k8m0 : Method := { name := "<init>", desc := "()V", sig := { parameters := [], returnType := none }, accessFlags := 0, code := none }
def k8c1 : Code := { maxStack := 2, maxLocals := 2, code := jdk_52_method_15_code, exceptionTable := #[], attributes := #[] }
def k8m1 : Method := { name := "coderFromArrayLen", desc := "([BI)B", sig := { parameters := [(.array .byte), .int], returnType := some .byte }, accessFlags := 8, code := some k8c1 }
def k8c2 : Code := { maxStack := 5, maxLocals := 6, code := jdk_52_method_16_code, exceptionTable := #[], attributes := #[] }
def k8m2 : Method := { name := "compress", desc := "([CII)[B", sig := { parameters := [(.array .char), .int, .int], returnType := some (.array .byte) }, accessFlags := 9, code := some k8c2 }
def k8c3 : Code := { maxStack := 3, maxLocals := 7, code := jdk_52_method_21_code, exceptionTable := #[], attributes := #[] }
def k8m3 : Method := { name := "compress", desc := "([CI[BII)I", sig := { parameters := [(.array .char), .int, (.array .byte), .int, .int], returnType := some .int }, accessFlags := 9, code := some k8c3 }
/-- java/lang/StringUTF16 -/
def k8 : Class := { plain "java/lang/StringUTF16" (some 0) with
  accessFlags := 48
  interfaces := #[]
  cf := some (fileOf pool8 12 #[.nestMembers #[627, 629, 369]] #[{ accessFlags := 0, nameIndex := 9, descriptorIndex := 10, attributes := #[] }, { accessFlags := 8, nameIndex := 261, descriptorIndex := 262, attributes := #[] }, { accessFlags := 9, nameIndex := 117, descriptorIndex := 122, attributes := #[] }, { accessFlags := 9, nameIndex := 117, descriptorIndex := 118, attributes := #[] }] 48 6 #[] #[{ accessFlags := 26, nameIndex := 61, descriptorIndex := 62, attributes := #[] }, { accessFlags := 26, nameIndex := 65, descriptorIndex := 62, attributes := #[] }, { accessFlags := 24, nameIndex := 430, descriptorIndex := 62, attributes := #[] }, { accessFlags := 4120, nameIndex := 46, descriptorIndex := 47, attributes := #[] }])
  fields := #[{ name := "HI_BYTE_SHIFT", type := .int, accessFlags := 26, slot := 0, constantValue := 0 }, { name := "LO_BYTE_SHIFT", type := .int, accessFlags := 26, slot := 1, constantValue := 0 }, { name := "MAX_LENGTH", type := .int, accessFlags := 24, slot := 2, constantValue := 0 }, { name := "$assertionsDisabled", type := .boolean, accessFlags := 4120, slot := 3, constantValue := 0 }]
  methods := #[k8m0, k8m1, k8m2, k8m3]
  instanceTypes := #[]
  staticTypes := #[.int, .int, .int, .boolean]
  resolved := Array.replicate 635 none
  statics := none }

def pool9 : Array CpInfo := pool [(2, .class_ 4), (1, u "java/lang/Object"), (0, u "<init>"), (0, u "()V"), (0, .methodref 8 9), (0, .class_ 10), (0, .nameAndType 11 12), (0, u "java/lang/String"), (0, u "isEmpty"), (0, u "()Z"), (0, .methodref 8 14), (0, .nameAndType 15 16), (0, u "length"), (0, u "()I"), (0, .class_ 18), (0, u "com/example/bedrock_dispatch/bedrockdispatch/Schema"), (7, .methodref 8 27), (0, .nameAndType 28 29), (0, u "charAt"), (0, u "(I)C"), (3, u "(Ljava/lang/String;)Ljava/lang/String;"), (34, .class_ 69), (0, u "com/example/bedrock_dispatch/bedrockdispatch/Schema$SchemaTooNewException"), (57, u "VERSION"), (0, u "I"), (2, u "MAX_NAME_LENGTH"), (1, u "MIGRATION_LOCK"), (0, u "J"), (4, u "requireName")] 29

def k9m0 : Method := { name := "<init>", desc := "()V", sig := { parameters := [], returnType := none }, accessFlags := 2, code := none }
def k9c1 : Code := { maxStack := 3, maxLocals := 4, code := prog_11_method_2_code, exceptionTable := #[], attributes := #[] }
def k9m1 : Method := { name := "requireName", desc := "(Ljava/lang/String;)Ljava/lang/String;", sig := { parameters := [(.object "java/lang/String")], returnType := some (.object "java/lang/String") }, accessFlags := 8, code := some k9c1 }
/-- com/example/bedrock_dispatch/bedrockdispatch/Schema -/
def k9 : Class := { plain "com/example/bedrock_dispatch/bedrockdispatch/Schema" (some 0) with
  accessFlags := 48
  interfaces := #[]
  cf := some (fileOf pool9 17 #[.nestMembers #[68]] #[{ accessFlags := 2, nameIndex := 5, descriptorIndex := 6, attributes := #[] }, { accessFlags := 8, nameIndex := 139, descriptorIndex := 33, attributes := #[] }] 48 2 #[] #[{ accessFlags := 24, nameIndex := 127, descriptorIndex := 128, attributes := #[] }, { accessFlags := 26, nameIndex := 131, descriptorIndex := 128, attributes := #[] }, { accessFlags := 26, nameIndex := 133, descriptorIndex := 134, attributes := #[] }])
  fields := #[{ name := "VERSION", type := .int, accessFlags := 24, slot := 0, constantValue := 0 }, { name := "MAX_NAME_LENGTH", type := .int, accessFlags := 26, slot := 1, constantValue := 0 }, { name := "MIGRATION_LOCK", type := .long, accessFlags := 26, slot := 2, constantValue := 0 }]
  methods := #[k9m0, k9m1]
  instanceTypes := #[]
  staticTypes := #[.int, .int, .long]
  resolved := Array.replicate 169 none
  statics := none }

def pool10 : Array CpInfo := pool [(1, .class_ 2), (0, u "java/lang/String"), (1, .class_ 6), (1, u "java/lang/Object"), (0, u "<init>"), (0, u "()V"), (0, .methodref 1 10), (0, .nameAndType 11 12), (0, u "checkIndex"), (0, u "(II)V"), (1, .class_ 16), (1, u "java/lang/StringLatin1"), (36, u "([BI)C"), (67, u "$assertionsDisabled"), (0, u "Z"), (98, .class_ 223), (1, u "java/lang/StringLatin1$LinesSpliterator"), (28, u "charAt"), (137, .class_ 391), (0, u "java/lang/StringLatin1$CharsSpliterator")] 3

def k10m0 : Method := { name := "<init>", desc := "()V", sig := { parameters := [], returnType := none }, accessFlags := 0, code := none }
def k10c1 : Code := { maxStack := 2, maxLocals := 2, code := jdk_43_method_2_code, exceptionTable := #[], attributes := #[] }
def k10m1 : Method := { name := "charAt", desc := "([BI)C", sig := { parameters := [(.array .byte), .int], returnType := some .char }, accessFlags := 9, code := some k10c1 }
/-- java/lang/StringLatin1 -/
def k10 : Class := { plain "java/lang/StringLatin1" (some 0) with
  accessFlags := 48
  interfaces := #[]
  cf := some (fileOf pool10 14 #[.nestMembers #[390, 221]] #[{ accessFlags := 0, nameIndex := 7, descriptorIndex := 8, attributes := #[] }, { accessFlags := 9, nameIndex := 252, descriptorIndex := 53, attributes := #[] }] 48 4 #[] #[{ accessFlags := 4120, nameIndex := 121, descriptorIndex := 122, attributes := #[] }])
  fields := #[{ name := "$assertionsDisabled", type := .boolean, accessFlags := 4120, slot := 0, constantValue := 0 }]
  methods := #[k10m0, k10m1]
  instanceTypes := #[]
  staticTypes := #[.boolean]
  resolved := Array.replicate 395 none
  statics := none }

def pool11 : Array CpInfo := pool [(2, .class_ 4), (1, u "java/lang/Object"), (0, u "<init>"), (0, u "()V"), (17, .class_ 26), (1, u "jdk/internal/util/Preconditions"), (6, u "checkIndex"), (21, .class_ 56), (0, u "jdk/internal/util/Preconditions$4"), (57, .class_ 115), (0, u "jdk/internal/util/Preconditions$1"), (7, u "SIOOBE_FORMATTER"), (0, u "Ljava/util/function/BiFunction;"), (0, .class_ 126), (0, u "jdk/internal/util/Preconditions$2"), (3, u "AIOOBE_FORMATTER"), (0, .class_ 132), (0, u "jdk/internal/util/Preconditions$3"), (3, u "IOOBE_FORMATTER"), (41, u "(IILjava/util/function/BiFunction;)I")] 15

def k11m0 : Method := { name := "<init>", desc := "()V", sig := { parameters := [], returnType := none }, accessFlags := 1, code := none }
def k11c1 : Code := { maxStack := 3, maxLocals := 3, code := jdk_41_method_11_code, exceptionTable := #[], attributes := #[] }
def k11m1 : Method := { name := "checkIndex", desc := "(IILjava/util/function/BiFunction;)I", sig := { parameters := [.int, .int, (.object "java/util/function/BiFunction")], returnType := some .int }, accessFlags := 9, code := some k11c1 }
/-- jdk/internal/util/Preconditions -/
def k11 : Class := { plain "jdk/internal/util/Preconditions" (some 0) with
  accessFlags := 33
  interfaces := #[]
  cf := some (fileOf pool11 24 #[.nestMembers #[55, 131, 125, 114]] #[{ accessFlags := 1, nameIndex := 5, descriptorIndex := 6, attributes := #[] }, { accessFlags := 9, nameIndex := 33, descriptorIndex := 178, attributes := #[] }] 33 2 #[] #[{ accessFlags := 25, nameIndex := 123, descriptorIndex := 124, attributes := #[] }, { accessFlags := 25, nameIndex := 130, descriptorIndex := 124, attributes := #[] }, { accessFlags := 25, nameIndex := 136, descriptorIndex := 124, attributes := #[] }])
  fields := #[{ name := "SIOOBE_FORMATTER", type := (.object "java/util/function/BiFunction"), accessFlags := 25, slot := 0, constantValue := 0 }, { name := "AIOOBE_FORMATTER", type := (.object "java/util/function/BiFunction"), accessFlags := 25, slot := 1, constantValue := 0 }, { name := "IOOBE_FORMATTER", type := (.object "java/util/function/BiFunction"), accessFlags := 25, slot := 2, constantValue := 0 }]
  methods := #[k11m0, k11m1]
  instanceTypes := #[]
  staticTypes := #[(.object "java/util/function/BiFunction"), (.object "java/util/function/BiFunction"), (.object "java/util/function/BiFunction")]
  resolved := Array.replicate 194 none
  statics := some 1 }

def pool12 : Array CpInfo := pool [(9, u "<init>"), (6, .class_ 18), (1, u "java/lang/Object"), (0, u "()V"), (1, .class_ 23), (1, u "jdk/internal/util/ArraysSupport"), (0, u "LOG2_ARRAY_LONG_INDEX_SCALE"), (0, u "I"), (2, u "U"), (0, u "Ljdk/internal/misc/Unsafe;"), (8, u "BIG_ENDIAN"), (0, u "Z"), (8, u "LOG2_BYTE_BIT_SIZE"), (4, u "LOG2_ARRAY_INT_INDEX_SCALE"), (54, u "JLA"), (0, u "Ljdk/internal/access/JavaLangAccess;"), (11, u "LOG2_ARRAY_BOOLEAN_INDEX_SCALE"), (9, u "LOG2_ARRAY_BYTE_INDEX_SCALE"), (5, u "LOG2_ARRAY_CHAR_INDEX_SCALE"), (5, u "LOG2_ARRAY_SHORT_INDEX_SCALE"), (18, u "LOG2_ARRAY_FLOAT_INDEX_SCALE"), (24, u "LOG2_ARRAY_DOUBLE_INDEX_SCALE"), (89, u "T_BOOLEAN"), (2, u "T_CHAR"), (1, u "T_FLOAT"), (1, u "T_DOUBLE"), (1, u "T_BYTE"), (1, u "T_SHORT"), (1, u "T_INT"), (1, u "T_LONG"), (1, u "SOFT_MAX_ARRAY_LENGTH")] 83

def k12m0 : Method := { name := "<init>", desc := "()V", sig := { parameters := [], returnType := none }, accessFlags := 2, code := none }
/-- jdk/internal/util/ArraysSupport -/
def k12 : Class := { plain "jdk/internal/util/ArraysSupport" (some 0) with
  accessFlags := 33
  interfaces := #[]
  cf := some (fileOf pool12 21 #[] #[{ accessFlags := 2, nameIndex := 9, descriptorIndex := 19, attributes := #[] }] 33 16 #[] #[{ accessFlags := 24, nameIndex := 28, descriptorIndex := 29, attributes := #[] }, { accessFlags := 26, nameIndex := 38, descriptorIndex := 39, attributes := #[] }, { accessFlags := 25, nameIndex := 121, descriptorIndex := 25, attributes := #[] }, { accessFlags := 25, nameIndex := 131, descriptorIndex := 25, attributes := #[] }, { accessFlags := 25, nameIndex := 137, descriptorIndex := 25, attributes := #[] }, { accessFlags := 25, nameIndex := 143, descriptorIndex := 25, attributes := #[] }, { accessFlags := 25, nameIndex := 53, descriptorIndex := 25, attributes := #[] }, { accessFlags := 25, nameIndex := 24, descriptorIndex := 25, attributes := #[] }, { accessFlags := 25, nameIndex := 162, descriptorIndex := 25, attributes := #[] }, { accessFlags := 25, nameIndex := 187, descriptorIndex := 25, attributes := #[] }, { accessFlags := 26, nameIndex := 48, descriptorIndex := 25, attributes := #[] }, { accessFlags := 25, nameIndex := 277, descriptorIndex := 25, attributes := #[] }, { accessFlags := 25, nameIndex := 280, descriptorIndex := 25, attributes := #[] }, { accessFlags := 25, nameIndex := 282, descriptorIndex := 25, attributes := #[] }, { accessFlags := 25, nameIndex := 284, descriptorIndex := 25, attributes := #[] }, { accessFlags := 25, nameIndex := 286, descriptorIndex := 25, attributes := #[] }, { accessFlags := 25, nameIndex := 288, descriptorIndex := 25, attributes := #[] }, { accessFlags := 25, nameIndex := 290, descriptorIndex := 25, attributes := #[] }, { accessFlags := 25, nameIndex := 292, descriptorIndex := 25, attributes := #[] }, { accessFlags := 26, nameIndex := 108, descriptorIndex := 109, attributes := #[] }, { accessFlags := 25, nameIndex := 294, descriptorIndex := 25, attributes := #[] }])
  fields := #[{ name := "U", type := (.object "jdk/internal/misc/Unsafe"), accessFlags := 24, slot := 0, constantValue := 0 }, { name := "BIG_ENDIAN", type := .boolean, accessFlags := 26, slot := 1, constantValue := 0 }, { name := "LOG2_ARRAY_BOOLEAN_INDEX_SCALE", type := .int, accessFlags := 25, slot := 2, constantValue := 0 }, { name := "LOG2_ARRAY_BYTE_INDEX_SCALE", type := .int, accessFlags := 25, slot := 3, constantValue := 0 }, { name := "LOG2_ARRAY_CHAR_INDEX_SCALE", type := .int, accessFlags := 25, slot := 4, constantValue := 0 }, { name := "LOG2_ARRAY_SHORT_INDEX_SCALE", type := .int, accessFlags := 25, slot := 5, constantValue := 0 }, { name := "LOG2_ARRAY_INT_INDEX_SCALE", type := .int, accessFlags := 25, slot := 6, constantValue := 0 }, { name := "LOG2_ARRAY_LONG_INDEX_SCALE", type := .int, accessFlags := 25, slot := 7, constantValue := 0 }, { name := "LOG2_ARRAY_FLOAT_INDEX_SCALE", type := .int, accessFlags := 25, slot := 8, constantValue := 0 }, { name := "LOG2_ARRAY_DOUBLE_INDEX_SCALE", type := .int, accessFlags := 25, slot := 9, constantValue := 0 }, { name := "LOG2_BYTE_BIT_SIZE", type := .int, accessFlags := 26, slot := 10, constantValue := 0 }, { name := "T_BOOLEAN", type := .int, accessFlags := 25, slot := 11, constantValue := 0 }, { name := "T_CHAR", type := .int, accessFlags := 25, slot := 12, constantValue := 0 }, { name := "T_FLOAT", type := .int, accessFlags := 25, slot := 13, constantValue := 0 }, { name := "T_DOUBLE", type := .int, accessFlags := 25, slot := 14, constantValue := 0 }, { name := "T_BYTE", type := .int, accessFlags := 25, slot := 15, constantValue := 0 }, { name := "T_SHORT", type := .int, accessFlags := 25, slot := 16, constantValue := 0 }, { name := "T_INT", type := .int, accessFlags := 25, slot := 17, constantValue := 0 }, { name := "T_LONG", type := .int, accessFlags := 25, slot := 18, constantValue := 0 }, { name := "JLA", type := (.object "jdk/internal/access/JavaLangAccess"), accessFlags := 26, slot := 19, constantValue := 0 }, { name := "SOFT_MAX_ARRAY_LENGTH", type := .int, accessFlags := 25, slot := 20, constantValue := 0 }]
  methods := #[k12m0]
  instanceTypes := #[]
  staticTypes := #[(.object "jdk/internal/misc/Unsafe"), .boolean, .int, .int, .int, .int, .int, .int, .int, .int, .int, .int, .int, .int, .int, .int, .int, .int, .int, (.object "jdk/internal/access/JavaLangAccess"), .int]
  resolved := Array.replicate 378 none
  statics := none }

def pool13 : Array CpInfo := pool [(1, u "java/lang/Cloneable"), (0, .class_ 1), (0, u "java/lang/Object"), (0, .class_ 3)] 3

/-- java/lang/Cloneable -/
def k13 : Class := { plain "java/lang/Cloneable" (some 0) with
  accessFlags := 1537
  interfaces := #[]
  cf := some (fileOf pool13 2 #[] #[] 1537 4 #[] #[])
  fields := #[]
  methods := #[]
  instanceTypes := #[]
  staticTypes := #[]
  resolved := Array.replicate 8 none
  statics := none }

/-- the primitive byte -/
def k14 : Class := { plain "byte" none with kind := .primitive 'B', accessFlags := 0x411 }
/-- [B -/
def k15 : Class := { plain "[B" (some 0) with kind := .array 14 .byte, interfaces := #[13, 2], accessFlags := 1041 }

/-- the primitive char -/
def k16 : Class := { plain "char" none with kind := .primitive 'C', accessFlags := 0x411 }
/-- [C -/
def k17 : Class := { plain "[C" (some 0) with kind := .array 16 .char, interfaces := #[13, 2], accessFlags := 1041 }

/-- the primitive int -/
def k18 : Class := { plain "int" none with kind := .primitive 'I', accessFlags := 0x411 }
/-- [I -/
def k19 : Class := { plain "[I" (some 0) with kind := .array 18 .int, interfaces := #[13, 2], accessFlags := 1041 }

def heap : Heap := #[{ cls := 7, slots := #[.long 0, .int 1, .null, .int 0, .null, .int 0, .int 0], vm := .statics 7 },
  { cls := 11, slots := #[.null, .null, .null], vm := .statics 11 }]
def classes : Array Class := #[k0, k1, k2, k3, k4, k5, k6, k7, k8, k9, k10, k11, k12, k13, k14, k15, k16, k17, k18, k19]
def interned : List (Array UInt16 × Addr) := []
def slotsUsed : Nat := 10
def theMethod : MethodId := ⟨1, 3⟩
def args0 : Array Value := #[.int 5, .int 6, .int 7, .int 8, .int 9]
def aboutOver (below : List Frame) : State where
  vm := { classes := classes, interned := interned.toArray }
  heap := heap
  slotsUsed := slotsUsed
  threads := #[{ frames := .invoking theMethod args0 :: below }]
def below0 : List Frame := [.native { method := ⟨0, 0⟩, args := #[] }]
def about1 : State := aboutOver below0
def p0 : Program := .bare "" "" ""
def e0 : Env := launch0.env 0 0 0
theorem w_frames : about1.frames = Frame.invoking theMethod args0 :: below0 := rfl
set_option maxRecDepth 65536 in
theorem w_args : argsFit about1.vm theMethod args0 = true := by decide +kernel
set_option maxRecDepth 65536 in
theorem w_heap : heapFits about1 = true := by decide +kernel
set_option maxRecDepth 65536 in
theorem w_runnable : about1.curStatus? = some .runnable := by decide +kernel
set_option maxRecDepth 65536 in
theorem w_alone : about1.alone = true := by decide +kernel
set_option maxRecDepth 65536 in
theorem w_named : about1.methodNamed? x = some theMethod := by decide +kernel
set_option maxRecDepth 65536 in
theorem w_hears : about1.hears theMethod below0 = true := by decide +kernel
set_option maxRecDepth 65536 in
theorem w_ripe : about1.ripe theMethod args0 below0 = true := by decide +kernel
theorem w_running : about1.status = .running := rfl
set_option maxRecDepth 65536 in
theorem w_room : about1.hasRoom e0.platform room_1 = true :=
  launch0.hasRoom_least _ room_1 (by decide +kernel) (by decide +kernel) (by decide +kernel) (by decide +kernel) (by decide +kernel) (by decide +kernel)
theorem allAtoms_all (ts : List Jvm.Cond) (a : Array Jvm.Value) (st : Jvm.State) : (allAtoms ts).before a st = ts.all (fun c => c.before a st) := by
  induction ts with
  | nil => rfl
  | cons c t ih =>
    show (Jvm.Cond.and c (allAtoms t)).before a st = _
    rw [Jvm.Cond.before_and, ih, List.all_cons]
def words1 : List Jvm.Cond := Jvm.Cond.code x code maxLocals ret :: tables_1
/-- a 'code' word, met by the world's own term for the bytes: nothing is compared byte by byte -/
theorem code_word {y : MethodName} {bytes : ByteArray} {mx : Nat} {rt : Option FieldType} {a : Array Value} {s : State} {m : MethodId} {meth : Method} {c : Code} (h1 : s.methodNamed? y = some m) (h2 : s.vm.method? m = some meth) (h3 : meth.code = some c) (h4 : c.code = bytes)
    (h5 : (c.maxLocals == mx && c.exceptionTable.isEmpty && decide (c.maxStack ≤ mostOperands) && decide (meth.sig.returnType = rt) && !meth.locks && decide (parseMethodDescriptor y.desc = some meth.sig)) = true) : (Jvm.Cond.code y bytes mx rt).before a s = true := by
  simp only [Bool.and_eq_true, beq_iff_eq, Bool.not_eq_true', decide_eq_true_eq] at h5
  obtain ⟨⟨⟨⟨⟨g1, g2⟩, g3⟩, g4⟩, g5⟩, g6⟩ := h5
  simp [Cond.before, Cond.holds, Cond.value, h1, h2, h3, h4, g1, g2, g3, g4, g5, g6]
def isCode : Jvm.Cond → Bool
  | .code _ _ _ _ => true
  | _ => false
theorem all_split {L : List Jvm.Cond} {P : Jvm.Cond → Bool} (h1 : L.all (fun c => isCode c || P c) = true) (h2 : ∀ c ∈ L.filter isCode, P c = true) : L.all P = true := by
  refine List.all_eq_true.mpr fun c hc => ?_
  have h := List.all_eq_true.mp h1 c hc
  rcases Bool.eq_false_or_eq_true (isCode c) with hi | hi
  · exact h2 c (List.mem_filter.mpr ⟨hc, hi⟩)
  · simpa [hi] using h
set_option maxRecDepth 65536 in
theorem w_c0 : (Jvm.Cond.code x code maxLocals ret).before args0 about1 = true := code_word (m := ⟨1, 3⟩) (meth := k1m3) (c := k1c3) (by decide +kernel) rfl rfl rfl (by decide +kernel)
set_option maxRecDepth 65536 in
theorem w_c1 : (Jvm.Cond.code ({ cls := "com/example/bedrock_dispatch/bedrockdispatch/SchemaRequireNamePinLaw", name := "first", desc := "(I)C" } : Jvm.MethodName) method_2_code (2 : Nat) (Option.some Jvm.ClassFile.FieldType.char)).before args0 about1 = true := code_word (m := ⟨1, 1⟩) (meth := k1m1) (c := k1c1) (by decide +kernel) rfl rfl rfl (by decide +kernel)
set_option maxRecDepth 65536 in
theorem w_c2 : (Jvm.Cond.code ({ cls := "com/example/bedrock_dispatch/bedrockdispatch/SchemaRequireNamePinLaw", name := "rest", desc := "(I)C" } : Jvm.MethodName) method_3_code (2 : Nat) (Option.some Jvm.ClassFile.FieldType.char)).before args0 about1 = true := code_word (m := ⟨1, 2⟩) (meth := k1m2) (c := k1c2) (by decide +kernel) rfl rfl rfl (by decide +kernel)
set_option maxRecDepth 65536 in
theorem w_c3 : (Jvm.Cond.code ({ cls := "java/lang/String", name := "<init>", desc := "([C)V" } : Jvm.MethodName) jdk_42_method_3_code (2 : Nat) (Option.none : Option Jvm.ClassFile.FieldType)).before args0 about1 = true := code_word (m := ⟨7, 1⟩) (meth := k7m1) (c := k7c1) (by decide +kernel) rfl rfl rfl (by decide +kernel)
set_option maxRecDepth 65536 in
theorem w_c4 : (Jvm.Cond.code ({ cls := "java/lang/String", name := "<init>", desc := "([CIILjava/lang/Void;)V" } : Jvm.MethodName) jdk_42_method_149_code (6 : Nat) (Option.none : Option Jvm.ClassFile.FieldType)).before args0 about1 = true := code_word (m := ⟨7, 6⟩) (meth := k7m6) (c := k7c6) (by decide +kernel) rfl rfl rfl (by decide +kernel)
set_option maxRecDepth 65536 in
theorem w_c5 : (Jvm.Cond.code ({ cls := "java/lang/Object", name := "<init>", desc := "()V" } : Jvm.MethodName) object_method_1_code (1 : Nat) (Option.none : Option Jvm.ClassFile.FieldType)).before args0 about1 = true := code_word (m := ⟨0, 0⟩) (meth := k0m0) (c := k0c0) (by decide +kernel) rfl rfl rfl (by decide +kernel)
set_option maxRecDepth 65536 in
theorem w_c6 : (Jvm.Cond.code ({ cls := "java/lang/StringUTF16", name := "compress", desc := "([CII)[B" } : Jvm.MethodName) jdk_52_method_16_code (6 : Nat) (Option.some (Jvm.ClassFile.FieldType.array Jvm.ClassFile.FieldType.byte))).before args0 about1 = true := code_word (m := ⟨8, 2⟩) (meth := k8m2) (c := k8c2) (by decide +kernel) rfl rfl rfl (by decide +kernel)
set_option maxRecDepth 65536 in
theorem w_c7 : (Jvm.Cond.code ({ cls := "java/lang/StringUTF16", name := "compress", desc := "([CI[BII)I" } : Jvm.MethodName) jdk_52_method_21_code (7 : Nat) (Option.some Jvm.ClassFile.FieldType.int)).before args0 about1 = true := code_word (m := ⟨8, 3⟩) (meth := k8m3) (c := k8c3) (by decide +kernel) rfl rfl rfl (by decide +kernel)
set_option maxRecDepth 65536 in
theorem w_c8 : (Jvm.Cond.code ({ cls := "java/lang/StringUTF16", name := "coderFromArrayLen", desc := "([BI)B" } : Jvm.MethodName) jdk_52_method_15_code (2 : Nat) (Option.some Jvm.ClassFile.FieldType.byte)).before args0 about1 = true := code_word (m := ⟨8, 1⟩) (meth := k8m1) (c := k8c1) (by decide +kernel) rfl rfl rfl (by decide +kernel)
set_option maxRecDepth 65536 in
theorem w_c9 : (Jvm.Cond.code ({ cls := "com/example/bedrock_dispatch/bedrockdispatch/Schema", name := "requireName", desc := "(Ljava/lang/String;)Ljava/lang/String;" } : Jvm.MethodName) prog_11_method_2_code (4 : Nat) (Option.some (Jvm.ClassFile.FieldType.object "java/lang/String"))).before args0 about1 = true := code_word (m := ⟨9, 1⟩) (meth := k9m1) (c := k9c1) (by decide +kernel) rfl rfl rfl (by decide +kernel)
set_option maxRecDepth 65536 in
theorem w_c10 : (Jvm.Cond.code ({ cls := "java/lang/String", name := "isEmpty", desc := "()Z" } : Jvm.MethodName) jdk_42_method_55_code (1 : Nat) (Option.some Jvm.ClassFile.FieldType.boolean)).before args0 about1 = true := code_word (m := ⟨7, 3⟩) (meth := k7m3) (c := k7c3) (by decide +kernel) rfl rfl rfl (by decide +kernel)
set_option maxRecDepth 65536 in
theorem w_c11 : (Jvm.Cond.code ({ cls := "java/lang/String", name := "length", desc := "()I" } : Jvm.MethodName) jdk_42_method_54_code (1 : Nat) (Option.some Jvm.ClassFile.FieldType.int)).before args0 about1 = true := code_word (m := ⟨7, 2⟩) (meth := k7m2) (c := k7c2) (by decide +kernel) rfl rfl rfl (by decide +kernel)
set_option maxRecDepth 65536 in
theorem w_c12 : (Jvm.Cond.code ({ cls := "java/lang/String", name := "coder", desc := "()B" } : Jvm.MethodName) jdk_42_method_152_code (1 : Nat) (Option.some Jvm.ClassFile.FieldType.byte)).before args0 about1 = true := code_word (m := ⟨7, 7⟩) (meth := k7m7) (c := k7c7) (by decide +kernel) rfl rfl rfl (by decide +kernel)
set_option maxRecDepth 65536 in
theorem w_c13 : (Jvm.Cond.code ({ cls := "java/lang/String", name := "charAt", desc := "(I)C" } : Jvm.MethodName) jdk_42_method_56_code (2 : Nat) (Option.some Jvm.ClassFile.FieldType.char)).before args0 about1 = true := code_word (m := ⟨7, 4⟩) (meth := k7m4) (c := k7c4) (by decide +kernel) rfl rfl rfl (by decide +kernel)
set_option maxRecDepth 65536 in
theorem w_c14 : (Jvm.Cond.code ({ cls := "java/lang/String", name := "isLatin1", desc := "()Z" } : Jvm.MethodName) jdk_42_method_154_code (1 : Nat) (Option.some Jvm.ClassFile.FieldType.boolean)).before args0 about1 = true := code_word (m := ⟨7, 8⟩) (meth := k7m8) (c := k7c8) (by decide +kernel) rfl rfl rfl (by decide +kernel)
set_option maxRecDepth 65536 in
theorem w_c15 : (Jvm.Cond.code ({ cls := "java/lang/StringLatin1", name := "charAt", desc := "([BI)C" } : Jvm.MethodName) jdk_43_method_2_code (2 : Nat) (Option.some Jvm.ClassFile.FieldType.char)).before args0 about1 = true := code_word (m := ⟨10, 1⟩) (meth := k10m1) (c := k10c1) (by decide +kernel) rfl rfl rfl (by decide +kernel)
set_option maxRecDepth 65536 in
theorem w_c16 : (Jvm.Cond.code ({ cls := "java/lang/String", name := "checkIndex", desc := "(II)V" } : Jvm.MethodName) jdk_42_method_155_code (2 : Nat) (Option.none : Option Jvm.ClassFile.FieldType)).before args0 about1 = true := code_word (m := ⟨7, 9⟩) (meth := k7m9) (c := k7c9) (by decide +kernel) rfl rfl rfl (by decide +kernel)
set_option maxRecDepth 65536 in
theorem w_c17 : (Jvm.Cond.code ({ cls := "jdk/internal/util/Preconditions", name := "checkIndex", desc := "(IILjava/util/function/BiFunction;)I" } : Jvm.MethodName) jdk_41_method_11_code (3 : Nat) (Option.some Jvm.ClassFile.FieldType.int)).before args0 about1 = true := code_word (m := ⟨11, 1⟩) (meth := k11m1) (c := k11c1) (by decide +kernel) rfl rfl rfl (by decide +kernel)
set_option maxRecDepth 65536 in
theorem w_c18 : (Jvm.Cond.code ({ cls := "java/lang/String", name := "equals", desc := "(Ljava/lang/Object;)Z" } : Jvm.MethodName) jdk_42_method_66_code (3 : Nat) (Option.some Jvm.ClassFile.FieldType.boolean)).before args0 about1 = true := code_word (m := ⟨7, 5⟩) (meth := k7m5) (c := k7c5) (by decide +kernel) rfl rfl rfl (by decide +kernel)
def codes1 : List Jvm.Cond := [Jvm.Cond.code x code maxLocals ret, Jvm.Cond.code ({ cls := "com/example/bedrock_dispatch/bedrockdispatch/SchemaRequireNamePinLaw", name := "first", desc := "(I)C" } : Jvm.MethodName) method_2_code (2 : Nat) (Option.some Jvm.ClassFile.FieldType.char), Jvm.Cond.code ({ cls := "com/example/bedrock_dispatch/bedrockdispatch/SchemaRequireNamePinLaw", name := "rest", desc := "(I)C" } : Jvm.MethodName) method_3_code (2 : Nat) (Option.some Jvm.ClassFile.FieldType.char), Jvm.Cond.code ({ cls := "java/lang/String", name := "<init>", desc := "([C)V" } : Jvm.MethodName) jdk_42_method_3_code (2 : Nat) (Option.none : Option Jvm.ClassFile.FieldType), Jvm.Cond.code ({ cls := "java/lang/String", name := "<init>", desc := "([CIILjava/lang/Void;)V" } : Jvm.MethodName) jdk_42_method_149_code (6 : Nat) (Option.none : Option Jvm.ClassFile.FieldType), Jvm.Cond.code ({ cls := "java/lang/Object", name := "<init>", desc := "()V" } : Jvm.MethodName) object_method_1_code (1 : Nat) (Option.none : Option Jvm.ClassFile.FieldType), Jvm.Cond.code ({ cls := "java/lang/StringUTF16", name := "compress", desc := "([CII)[B" } : Jvm.MethodName) jdk_52_method_16_code (6 : Nat) (Option.some (Jvm.ClassFile.FieldType.array Jvm.ClassFile.FieldType.byte)), Jvm.Cond.code ({ cls := "java/lang/StringUTF16", name := "compress", desc := "([CI[BII)I" } : Jvm.MethodName) jdk_52_method_21_code (7 : Nat) (Option.some Jvm.ClassFile.FieldType.int), Jvm.Cond.code ({ cls := "java/lang/StringUTF16", name := "coderFromArrayLen", desc := "([BI)B" } : Jvm.MethodName) jdk_52_method_15_code (2 : Nat) (Option.some Jvm.ClassFile.FieldType.byte), Jvm.Cond.code ({ cls := "com/example/bedrock_dispatch/bedrockdispatch/Schema", name := "requireName", desc := "(Ljava/lang/String;)Ljava/lang/String;" } : Jvm.MethodName) prog_11_method_2_code (4 : Nat) (Option.some (Jvm.ClassFile.FieldType.object "java/lang/String")), Jvm.Cond.code ({ cls := "java/lang/String", name := "isEmpty", desc := "()Z" } : Jvm.MethodName) jdk_42_method_55_code (1 : Nat) (Option.some Jvm.ClassFile.FieldType.boolean), Jvm.Cond.code ({ cls := "java/lang/String", name := "length", desc := "()I" } : Jvm.MethodName) jdk_42_method_54_code (1 : Nat) (Option.some Jvm.ClassFile.FieldType.int), Jvm.Cond.code ({ cls := "java/lang/String", name := "coder", desc := "()B" } : Jvm.MethodName) jdk_42_method_152_code (1 : Nat) (Option.some Jvm.ClassFile.FieldType.byte), Jvm.Cond.code ({ cls := "java/lang/String", name := "charAt", desc := "(I)C" } : Jvm.MethodName) jdk_42_method_56_code (2 : Nat) (Option.some Jvm.ClassFile.FieldType.char), Jvm.Cond.code ({ cls := "java/lang/String", name := "isLatin1", desc := "()Z" } : Jvm.MethodName) jdk_42_method_154_code (1 : Nat) (Option.some Jvm.ClassFile.FieldType.boolean), Jvm.Cond.code ({ cls := "java/lang/StringLatin1", name := "charAt", desc := "([BI)C" } : Jvm.MethodName) jdk_43_method_2_code (2 : Nat) (Option.some Jvm.ClassFile.FieldType.char), Jvm.Cond.code ({ cls := "java/lang/String", name := "checkIndex", desc := "(II)V" } : Jvm.MethodName) jdk_42_method_155_code (2 : Nat) (Option.none : Option Jvm.ClassFile.FieldType), Jvm.Cond.code ({ cls := "jdk/internal/util/Preconditions", name := "checkIndex", desc := "(IILjava/util/function/BiFunction;)I" } : Jvm.MethodName) jdk_41_method_11_code (3 : Nat) (Option.some Jvm.ClassFile.FieldType.int), Jvm.Cond.code ({ cls := "java/lang/String", name := "equals", desc := "(Ljava/lang/Object;)Z" } : Jvm.MethodName) jdk_42_method_66_code (3 : Nat) (Option.some Jvm.ClassFile.FieldType.boolean)]
set_option maxRecDepth 65536 in
theorem codes_eq : words1.filter isCode = codes1 := rfl
theorem w_codes : ∀ c ∈ words1.filter isCode, c.before args0 about1 = true := by
  rw [codes_eq]
  intro c hc
  simp only [codes1, List.mem_cons, List.not_mem_nil, or_false] at hc
  rcases hc with rfl | rfl | rfl | rfl | rfl | rfl | rfl | rfl | rfl | rfl | rfl | rfl | rfl | rfl | rfl | rfl | rfl | rfl | rfl
  · exact w_c0
  · exact w_c1
  · exact w_c2
  · exact w_c3
  · exact w_c4
  · exact w_c5
  · exact w_c6
  · exact w_c7
  · exact w_c8
  · exact w_c9
  · exact w_c10
  · exact w_c11
  · exact w_c12
  · exact w_c13
  · exact w_c14
  · exact w_c15
  · exact w_c16
  · exact w_c17
  · exact w_c18
set_option maxRecDepth 65536 in
theorem w_t1 : (words1.take 24).all (fun c => isCode c || c.before args0 about1) = true := by decide +kernel
set_option maxRecDepth 65536 in
theorem w_t2 : ((words1.drop 24).take 24).all (fun c => isCode c || c.before args0 about1) = true := by decide +kernel
set_option maxRecDepth 65536 in
theorem w_t3 : (((words1.drop 24).drop 24).take 24).all (fun c => isCode c || c.before args0 about1) = true := by decide +kernel
set_option maxRecDepth 65536 in
theorem w_t4 : (((words1.drop 24).drop 24).drop 24).all (fun c => isCode c || c.before args0 about1) = true := by decide +kernel
theorem w_tables : (allAtoms (Jvm.Cond.code x code maxLocals ret :: tables_1)).before args0 about1 = true := by
  rw [allAtoms_all]
  show words1.all (fun c => c.before args0 about1) = true
  refine all_split ?_ w_codes
  rw [← List.take_append_drop 24 words1, List.all_append, w_t1, ← List.take_append_drop 24 (words1.drop 24), List.all_append, w_t2, ← List.take_append_drop 24 ((words1.drop 24).drop 24), List.all_append, w_t3, w_t4]
  rfl
set_option maxRecDepth 65536 in
theorem w_rest : rest_1_c.before args0 about1 = true := by decide +kernel
set_option maxRecDepth 65536 in
theorem w_case : (Jvm.Cond.and given_1 narrow_1).before args0 about1 = true := by decide +kernel
theorem w_applies : (headSpec (Jvm.Cond.code x code maxLocals ret :: tables_1) room_1).applies x e0.platform about1 = true :=
  (Spec.applies_iff w_frames).mpr ⟨w_running, w_runnable, w_alone, w_named, w_hears, w_ripe, w_room, w_tables⟩
theorem atStart : AtStart classFile x code maxLocals ret World_1 tables_1 room_1 Calls_1 rest_1 Pre_1 launch0 p0 e0 about1 theMethod args0 below0 :=
  ⟨lists_1, trivial, launch0.admits_env _ _ _, launch0.least_env, fairChoices_fair.cas, fairChoices_fair.clock, w_frames, w_args, w_heap, w_applies, trivial, w_rest, w_case⟩
end start1
theorem witness_1 : WitnessClaimed_1 := ⟨start1.p0, start1.e0, start1.about1, start1.theMethod, start1.args0, start1.below0, start1.atStart⟩
end Jvm.Pilot.@@N@@
