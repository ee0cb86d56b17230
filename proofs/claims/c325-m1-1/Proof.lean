import JvmDerived
import JvmDerived.Pilot.@@N@@Statement
import JvmDerived.Pilot.@@N@@Code
set_option linter.unusedVariables false
set_option linter.unusedSimpArgs false
namespace Jvm.Pilot.@@N@@
open Jvm Jvm.ClassFile Sem Op Lib Jvm.Free Jvm.Stand Jvm.LawKit Jvm.RoadKit Bundle Jvm.Pilot.@@N@@.Jvm.D
section Own
variable {p : Program} {l : Launch} {e : Env} {R : Room} {s : State} {m : MethodId} {args : Array Value} {below : List Frame} {meth : Method} {c : Code} {T T' : State} {cells slots : Nat} {Z : State} {bytes : ByteArray} {mL : Nat} {ret : Option FieldType} {own nm : String} {Q : Option Value → Heap → Prop} {cC cS : Nat} {pc : Nat} {Ls : Array Slot} {st : List Value} {a0 : Array Value} {g g' : JFrame}
/-- the walk stands at T, so many cells and slots made, nothing old written -/
def Wk (l : Launch) (Z : State) (R : Room) (bytes : ByteArray) (mL : Nat) (ret : Option FieldType) (own nm : String) (p : Program) (e : Env) (s : State) (m : MethodId) (args : Array Value) (below : List Frame) (meth : Method) (c : Code) (T : State) (cells slots : Nat) : Prop :=
  (p.tables.exec = Jvm.exec ∧ c.code = bytes ∧ c.maxLocals = mL ∧ meth.sig.returnType = ret ∧ meth.locks = false ∧ s.vm.findClass own = some m.cls ∧ meth.name = nm ∧ Z.Warmed39 s.vm) ∧
  ∃ locs, Stand p l e R s m args below meth c T locs cells slots ∧ Fr Z.heap.size locs ∧ Ext Z.heap T.heap
/-- from T with frame g the method comes to its end, and Q holds there -/
def Ends (p : Program) (e : Env) (below : List Frame) (s : State) (Z : State) (Q : Option Value → Heap → Prop) (cC cS : Nat) (T : State) (g : JFrame) : Prop :=
  ∃ t o, Steps p.tables e below (T.setTop g) t ∧ t.status = .running ∧ Ended t below o ∧ ∃ v L, o = .returned v ∧ (Fr Z.heap.size L ∧ Ext Z.heap t.heap ∧ Q v t.heap) ∧ FrameEnd s o t L cC cS
/-- a method's contract -/
def Ct (l : Launch) (Z : State) (y : MethodName) (bytes : ByteArray) (mL : Nat) (ret : Option FieldType) (rm : Room) (as' : Array Value) (h : Heap) (Q : Option Value → Heap → Prop) : Prop :=
  ∀ ws, MetFree l y (head1 (Jvm.Cond.code y bytes mL ret :: ws) rm) (fun a U => a = as' ∧ Z.Warmed39 U.vm ∧ U.heap = h) (fun _ _ _ _ _ => True) (fun _ U o U' => ∃ v L, o = .returned v ∧ (Fr Z.heap.size L ∧ Ext Z.heap U'.heap ∧ Q v U'.heap) ∧ FrameEnd U o U' L rm.cells rm.slots)
theorem Wk.hx (X : Wk l Z R bytes mL ret own nm p e s m args below meth c T cells slots) : p.tables.exec = Jvm.exec := X.1.1
theorem Wk.hb (X : Wk l Z R bytes mL ret own nm p e s m args below meth c T cells slots) {pc : Nat} {r : Except DecodeError (Instr × Nat)} (h : decode bytes pc = r) : decode c.code pc = r := X.1.2.1 ▸ h
theorem Wk.hown (X : Wk l Z R bytes mL ret own nm p e s m args below meth c T cells slots) : s.vm.findClass own = some m.cls := X.1.2.2.2.2.2.1
theorem Wk.hZ (X : Wk l Z R bytes mL ret own nm p e s m args below meth c T cells slots) : Z.Warmed39 s.vm := X.1.2.2.2.2.2.2.2
theorem Wk.at (X : Wk l Z R bytes mL ret own nm p e s m args below meth c T cells slots) : At T m c below := by obtain ⟨-, _, X, -⟩ := X; exact X.here
theorem Wk.old (X : Wk l Z R bytes mL ret own nm p e s m args below meth c T cells slots) : Ext Z.heap T.heap := by obtain ⟨-, _, -, -, X⟩ := X; exact X
theorem Wk.le (X : Wk l Z R bytes mL ret own nm p e s m args below meth c T cells slots) : Z.heap.size ≤ T.heap.size := X.old.1
theorem Wk.size (X : Wk l Z R bytes mL ret own nm p e s m args below meth c T cells slots) (h : Ls.size = mL) {pc : Nat} {st : List Value} : (mkF m pc Ls st).locals.size = c.maxLocals := h.trans X.1.2.2.1.symm
theorem Wk.more (X : Wk l Z R bytes mL ret own nm p e s m args below meth c T cells slots) {cells' slots' : Nat} (h1 : cells ≤ cells') (h2 : slots ≤ slots') : Wk l Z R bytes mL ret own nm p e s m args below meth c T cells' slots' := by
  obtain ⟨q, locs, Y, r⟩ := X; exact ⟨q, locs, Y.more h1 h2, r⟩
theorem E_by (f : ∀ target, Steps p.tables e below (T'.setTop g') target → Steps p.tables e below (T.setTop g) target) (k : Ends p e below s Z Q cC cS T' g') : Ends p e below s Z Q cC cS T g := by
  obtain ⟨t, o, h1, r⟩ := k; exact ⟨t, o, f _ h1, r⟩
theorem E_tr (f : Steps p.tables e below (T.setTop g) (T'.setTop g')) (k : Ends p e below s Z Q cC cS T' g') : Ends p e below s Z Q cC cS T g := E_by (fun _ q => f.trans q) k
theorem Keep.of_ext {h h' : Heap} (E : Ext h h') : Keep h h' [] := (Keep.refl h []).ext E
theorem own_keq {h h1 h2 : Heap} {ws : List Addr} (K : Keep h h1 ws) (q : h2 = h1) : Keep h h2 ws := q ▸ K
theorem Keep.old {h h' : Heap} {ws : List Addr} (O : Ext Z.heap h) (K : Keep h h' ws) (q : ∀ x ∈ ws, Z.heap.size ≤ x) : Ext Z.heap h' := ⟨Nat.le_trans O.1 K.1, fun x c r => K.2.1 x c (O.2 x c r) fun z => absurd (Array.getElem?_eq_some_iff.mp r).1 (Nat.not_lt.mpr (q x z))⟩
theorem Ct.of_body {y1 y2 y3 : String} {rm : Room} {as' : Array Value} {h : Heap} (pn : plainFor ⟨y1, y2, y3⟩ = true) (O : Ext Z.heap h) (ef : ∀ m, entryFrame m as' mL = mkF m 0 Ls [])
    (k : ∀ {p : Program} {e : Env} {s : State} {m : MethodId} {below : List Frame} {meth : Method} {c : Code} {T : State}, Wk l Z rm bytes mL ret y1 y2 p e s m as' below meth c T 0 0 → T.heap = h → Ends p e below s Z Q rm.cells rm.slots T (mkF m 0 Ls [])) : Ct l Z ⟨y1, y2, y3⟩ bytes mL ret rm as' h Q := by
  intro ws
  refine MetFree.of_bodySF pn hisR ?_
  intro p e s m args below meth c s₁ Bd hml0 hP hK
  obtain ⟨rfl, hZ, hh⟩ := hP
  have e0 : s₁.heap = h := by rw [← hh, Bd.state]; rfl
  have X : Wk l Z rm bytes mL ret y1 y2 p e s m args below meth c s₁ 0 0 := ⟨⟨Bd.exec, Bd.bytes, hml0, Bd.returns, Bd.notSynchronized, findClass_of_methodNamed Bd.named, (name_of_methodNamed Bd.named Bd.method).1, hZ⟩, [], Stand.of_body Bd, Fr.nil _, e0 ▸ O⟩
  obtain ⟨t, o, h1, r⟩ := k X e0
  exact ⟨t, o, castTop (ef m) h1, r⟩
theorem Ct.back {y : MethodName} {rm : Room} {as' : Array Value} {h : Heap} {mL' : Nat} {bytes' : ByteArray} {ret' : Option FieldType} {Q' : Option Value → Heap → Prop} (hC : Ct l Z y bytes' mL' ret' rm as' h Q') {len W : Nat}
    (hZ : Z.Warmed39 s.vm) (wc : (Jvm.Cond.code y bytes' mL' ret').before a0 Z = true) (wz : (Jvm.Cond.initialized y.cls).before a0 Z = true) (hf : rm.frames + 1 ≤ R.frames) (hl : W + (mL' + 11) + rm.locals ≤ R.locals) :
    Back l R p e below s args y len W (fun A a => a = as' ∧ A.U.heap = h ∧ A.cells + rm.cells ≤ R.cells ∧ A.slots + rm.slots ≤ R.slots)
      (fun A _ v B => ∃ L, (Fr Z.heap.size L ∧ Ext Z.heap B.U.heap ∧ Q' v B.U.heap) ∧ B.locs = A.locs ++ L ∧ B.cells = A.cells + rm.cells ∧ B.slots = A.slots + rm.slots) :=
  backOf (Q := fun v h L => Fr Z.heap.size L ∧ Ext Z.heap h ∧ Q' v h) (hC []) hZ wc wz hf hl

theorem E_aloadN (X : Wk l Z R bytes mL ret own nm p e s m args below meth c T cells slots) {j : Fin 4} {v : Value} (hd : decode bytes pc = .ok (.aload_n j, 1)) (hl : Ls[j.val]? = some (.val v)) (hv : v.isRef = true) {pc' : Nat} (hp : pc + 1 = pc') (k : Ends p e below s Z Q cC cS T (mkF m pc' Ls (v :: st))) : Ends p e below s Z Q cC cS T (mkF m pc Ls (st)) := by
  subst hp; exact E_by (fun _ q => XS.aloadN X.at X.hx rfl (X.hb hd) hl hv q) k
theorem E_aload (X : Wk l Z R bytes mL ret own nm p e s m args below meth c T cells slots) {j : Nat} {v : Value} (hd : decode bytes pc = .ok (.aload j, 2)) (hl : Ls[j]? = some (.val v)) (hv : v.isRef = true) {pc' : Nat} (hp : pc + 2 = pc') (k : Ends p e below s Z Q cC cS T (mkF m pc' Ls (v :: st))) : Ends p e below s Z Q cC cS T (mkF m pc Ls (st)) := by
  subst hp; exact E_by (fun _ q => XS.aload X.at X.hx rfl (X.hb hd) hl hv q) k
theorem E_iloadN (X : Wk l Z R bytes mL ret own nm p e s m args below meth c T cells slots) {j : Fin 4} {v : Int32} (hd : decode bytes pc = .ok (.iload_n j, 1)) (hl : Ls[j.val]? = some (.val (.int v))) {pc' : Nat} (hp : pc + 1 = pc') (k : Ends p e below s Z Q cC cS T (mkF m pc' Ls (.int v :: st))) : Ends p e below s Z Q cC cS T (mkF m pc Ls (st)) := by
  subst hp; exact E_by (fun _ q => XS.iloadN X.at X.hx rfl (X.hb hd) hl q) k
theorem E_iload (X : Wk l Z R bytes mL ret own nm p e s m args below meth c T cells slots) {j : Nat} {v : Int32} (hd : decode bytes pc = .ok (.iload j, 2)) (hl : Ls[j]? = some (.val (.int v))) {pc' : Nat} (hp : pc + 2 = pc') (k : Ends p e below s Z Q cC cS T (mkF m pc' Ls (.int v :: st))) : Ends p e below s Z Q cC cS T (mkF m pc Ls (st)) := by
  subst hp; exact E_by (fun _ q => XS.iload X.at X.hx rfl (X.hb hd) hl q) k
theorem E_aconstNull (X : Wk l Z R bytes mL ret own nm p e s m args below meth c T cells slots) (hd : decode bytes pc = .ok (.aconst_null, 1)) {pc' : Nat} (hp : pc + 1 = pc') (k : Ends p e below s Z Q cC cS T (mkF m pc' Ls (.null :: st))) : Ends p e below s Z Q cC cS T (mkF m pc Ls (st)) := by
  subst hp; exact E_by (fun _ q => XS.aconstNull X.at X.hx rfl (X.hb hd) q) k
theorem E_iconst (X : Wk l Z R bytes mL ret own nm p e s m args below meth c T cells slots) {i : Int} {v : Int32} (hd : decode bytes pc = .ok (.iconst i, 1)) (hv : Int32.ofInt i = v) {pc' : Nat} (hp : pc + 1 = pc') (k : Ends p e below s Z Q cC cS T (mkF m pc' Ls (.int v :: st))) : Ends p e below s Z Q cC cS T (mkF m pc Ls st) := by
  subst hp hv; exact E_by (fun _ q => XS.iconst X.at X.hx rfl (X.hb hd) q) k
theorem E_bipush (X : Wk l Z R bytes mL ret own nm p e s m args below meth c T cells slots) {i : Int} {v : Int32} (hd : decode bytes pc = .ok (.bipush i, 2)) (hv : (Int8.ofInt i).toInt32 = v) {pc' : Nat} (hp : pc + 2 = pc') (k : Ends p e below s Z Q cC cS T (mkF m pc' Ls (.int v :: st))) : Ends p e below s Z Q cC cS T (mkF m pc Ls st) := by
  subst hp hv; exact E_by (fun _ q => XS.bipush X.at X.hx rfl (X.hb hd) q) k
theorem E_sipush (X : Wk l Z R bytes mL ret own nm p e s m args below meth c T cells slots) {i : Int} {v : Int32} (hd : decode bytes pc = .ok (.sipush i, 3)) (hv : (Int16.ofInt i).toInt32 = v) {pc' : Nat} (hp : pc + 3 = pc') (k : Ends p e below s Z Q cC cS T (mkF m pc' Ls (.int v :: st))) : Ends p e below s Z Q cC cS T (mkF m pc Ls st) := by
  subst hp hv; exact E_by (fun _ q => XS.sipush X.at X.hx rfl (X.hb hd) q) k
theorem E_iadd (X : Wk l Z R bytes mL ret own nm p e s m args below meth c T cells slots) {x y v : Int32} (hd : decode bytes pc = .ok (.iadd, 1)) (hv : x + y = v) {pc' : Nat} (hp : pc + 1 = pc') (k : Ends p e below s Z Q cC cS T (mkF m pc' Ls (.int v :: st))) : Ends p e below s Z Q cC cS T (mkF m pc Ls (.int y :: .int x :: st)) := by
  subst hp hv; exact E_by (fun _ q => XS.iadd X.at X.hx rfl (X.hb hd) rfl q) k
theorem E_isub (X : Wk l Z R bytes mL ret own nm p e s m args below meth c T cells slots) {x y v : Int32} (hd : decode bytes pc = .ok (.isub, 1)) (hv : x - y = v) {pc' : Nat} (hp : pc + 1 = pc') (k : Ends p e below s Z Q cC cS T (mkF m pc' Ls (.int v :: st))) : Ends p e below s Z Q cC cS T (mkF m pc Ls (.int y :: .int x :: st)) := by
  subst hp hv; exact E_by (fun _ q => XS.isub X.at X.hx rfl (X.hb hd) rfl q) k
theorem E_imul (X : Wk l Z R bytes mL ret own nm p e s m args below meth c T cells slots) {x y v : Int32} (hd : decode bytes pc = .ok (.imul, 1)) (hv : x * y = v) {pc' : Nat} (hp : pc + 1 = pc') (k : Ends p e below s Z Q cC cS T (mkF m pc' Ls (.int v :: st))) : Ends p e below s Z Q cC cS T (mkF m pc Ls (.int y :: .int x :: st)) := by
  subst hp hv; exact E_by (fun _ q => XS.imul X.at X.hx rfl (X.hb hd) rfl q) k
theorem E_iand (X : Wk l Z R bytes mL ret own nm p e s m args below meth c T cells slots) {x y v : Int32} (hd : decode bytes pc = .ok (.iand, 1)) (hv : x &&& y = v) {pc' : Nat} (hp : pc + 1 = pc') (k : Ends p e below s Z Q cC cS T (mkF m pc' Ls (.int v :: st))) : Ends p e below s Z Q cC cS T (mkF m pc Ls (.int y :: .int x :: st)) := by
  subst hp hv; exact E_by (fun _ q => XS.iand X.at X.hx rfl (X.hb hd) rfl q) k
theorem E_ior (X : Wk l Z R bytes mL ret own nm p e s m args below meth c T cells slots) {x y v : Int32} (hd : decode bytes pc = .ok (.ior, 1)) (hv : x ||| y = v) {pc' : Nat} (hp : pc + 1 = pc') (k : Ends p e below s Z Q cC cS T (mkF m pc' Ls (.int v :: st))) : Ends p e below s Z Q cC cS T (mkF m pc Ls (.int y :: .int x :: st)) := by
  subst hp hv; exact E_by (fun _ q => XS.ior X.at X.hx rfl (X.hb hd) rfl q) k
theorem E_ixor (X : Wk l Z R bytes mL ret own nm p e s m args below meth c T cells slots) {x y v : Int32} (hd : decode bytes pc = .ok (.ixor, 1)) (hv : x ^^^ y = v) {pc' : Nat} (hp : pc + 1 = pc') (k : Ends p e below s Z Q cC cS T (mkF m pc' Ls (.int v :: st))) : Ends p e below s Z Q cC cS T (mkF m pc Ls (.int y :: .int x :: st)) := by
  subst hp hv; exact E_by (fun _ q => XS.ixor X.at X.hx rfl (X.hb hd) rfl q) k
theorem E_ishl (X : Wk l Z R bytes mL ret own nm p e s m args below meth c T cells slots) {x y v : Int32} (hd : decode bytes pc = .ok (.ishl, 1)) (hv : x <<< (y &&& 31) = v) {pc' : Nat} (hp : pc + 1 = pc') (k : Ends p e below s Z Q cC cS T (mkF m pc' Ls (.int v :: st))) : Ends p e below s Z Q cC cS T (mkF m pc Ls (.int y :: .int x :: st)) := by
  subst hp hv; exact E_by (fun _ q => XS.ishl X.at X.hx rfl (X.hb hd) rfl q) k
theorem E_ishr (X : Wk l Z R bytes mL ret own nm p e s m args below meth c T cells slots) {x y v : Int32} (hd : decode bytes pc = .ok (.ishr, 1)) (hv : x >>> (y &&& 31) = v) {pc' : Nat} (hp : pc + 1 = pc') (k : Ends p e below s Z Q cC cS T (mkF m pc' Ls (.int v :: st))) : Ends p e below s Z Q cC cS T (mkF m pc Ls (.int y :: .int x :: st)) := by
  subst hp hv; exact E_by (fun _ q => XS.ishr X.at X.hx rfl (X.hb hd) rfl q) k
theorem E_iushr (X : Wk l Z R bytes mL ret own nm p e s m args below meth c T cells slots) {x y v : Int32} (hd : decode bytes pc = .ok (.iushr, 1)) (hv : (x.toUInt32 >>> (y &&& 31).toUInt32).toInt32 = v) {pc' : Nat} (hp : pc + 1 = pc') (k : Ends p e below s Z Q cC cS T (mkF m pc' Ls (.int v :: st))) : Ends p e below s Z Q cC cS T (mkF m pc Ls (.int y :: .int x :: st)) := by
  subst hp hv; exact E_by (fun _ q => XS.iushr X.at X.hx rfl (X.hb hd) rfl q) k
theorem E_ineg (X : Wk l Z R bytes mL ret own nm p e s m args below meth c T cells slots) {x v : Int32} (hd : decode bytes pc = .ok (.ineg, 1)) (hv : -x = v) {pc' : Nat} (hp : pc + 1 = pc') (k : Ends p e below s Z Q cC cS T (mkF m pc' Ls (.int v :: st))) : Ends p e below s Z Q cC cS T (mkF m pc Ls (.int x :: st)) := by
  subst hp hv; exact E_by (fun _ q => XS.ineg X.at X.hx rfl (X.hb hd) rfl q) k
theorem E_i2c (X : Wk l Z R bytes mL ret own nm p e s m args below meth c T cells slots) {x v : Int32} (hd : decode bytes pc = .ok (.i2c, 1)) (hv : x.toUInt32.toUInt16.toUInt32.toInt32 = v) {pc' : Nat} (hp : pc + 1 = pc') (k : Ends p e below s Z Q cC cS T (mkF m pc' Ls (.int v :: st))) : Ends p e below s Z Q cC cS T (mkF m pc Ls (.int x :: st)) := by
  subst hp hv; exact E_by (fun _ q => XS.i2c X.at X.hx rfl (X.hb hd) rfl q) k
theorem E_i2b (X : Wk l Z R bytes mL ret own nm p e s m args below meth c T cells slots) {x v : Int32} (hd : decode bytes pc = .ok (.i2b, 1)) (hv : x.toInt8.toInt32 = v) {pc' : Nat} (hp : pc + 1 = pc') (k : Ends p e below s Z Q cC cS T (mkF m pc' Ls (.int v :: st))) : Ends p e below s Z Q cC cS T (mkF m pc Ls (.int x :: st)) := by
  subst hp hv; exact E_by (fun _ q => XS.i2b X.at X.hx rfl (X.hb hd) rfl q) k
theorem E_i2s (X : Wk l Z R bytes mL ret own nm p e s m args below meth c T cells slots) {x v : Int32} (hd : decode bytes pc = .ok (.i2s, 1)) (hv : x.toInt16.toInt32 = v) {pc' : Nat} (hp : pc + 1 = pc') (k : Ends p e below s Z Q cC cS T (mkF m pc' Ls (.int v :: st))) : Ends p e below s Z Q cC cS T (mkF m pc Ls (.int x :: st)) := by
  subst hp hv; exact E_by (fun _ q => XS.i2s X.at X.hx rfl (X.hb hd) rfl q) k
theorem E_dup (X : Wk l Z R bytes mL ret own nm p e s m args below meth c T cells slots) {v : Value} (hd : decode bytes pc = .ok (.dup, 1)) (hc : v.category = 1) {pc' : Nat} (hp : pc + 1 = pc') (k : Ends p e below s Z Q cC cS T (mkF m pc' Ls (v :: v :: st))) : Ends p e below s Z Q cC cS T (mkF m pc Ls (v :: st)) := by
  subst hp; exact E_by (fun _ q => XS.dup X.at X.hx rfl (X.hb hd) rfl hc q) k
theorem E_pop (X : Wk l Z R bytes mL ret own nm p e s m args below meth c T cells slots) {v : Value} (hd : decode bytes pc = .ok (.pop, 1)) (hc : v.category = 1) {pc' : Nat} (hp : pc + 1 = pc') (k : Ends p e below s Z Q cC cS T (mkF m pc' Ls (st))) : Ends p e below s Z Q cC cS T (mkF m pc Ls (v :: st)) := by
  subst hp; exact E_by (fun _ q => XS.pop X.at X.hx rfl (X.hb hd) rfl hc q) k
theorem E_istoreN (X : Wk l Z R bytes mL ret own nm p e s m args below meth c T cells slots) {j : Fin 4} {x : Int32} (hd : decode bytes pc = .ok (.istore_n j, 1)) {l' : Array Slot} (hl : storeLocals Ls j.val (.int x) = some l') {pc' : Nat} (hp : pc + 1 = pc') (k : Ends p e below s Z Q cC cS T (mkF m pc' l' (st))) : Ends p e below s Z Q cC cS T (mkF m pc Ls (.int x :: st)) := by
  subst hp; exact E_by (fun _ q => XS.istoreN X.at X.hx rfl (X.hb hd) rfl hl q) k
theorem E_istore (X : Wk l Z R bytes mL ret own nm p e s m args below meth c T cells slots) {j : Nat} {x : Int32} (hd : decode bytes pc = .ok (.istore j, 2)) {l' : Array Slot} (hl : storeLocals Ls j (.int x) = some l') {pc' : Nat} (hp : pc + 2 = pc') (k : Ends p e below s Z Q cC cS T (mkF m pc' l' (st))) : Ends p e below s Z Q cC cS T (mkF m pc Ls (.int x :: st)) := by
  subst hp; exact E_by (fun _ q => XS.istore X.at X.hx rfl (X.hb hd) rfl hl q) k
theorem E_astoreN (X : Wk l Z R bytes mL ret own nm p e s m args below meth c T cells slots) {j : Fin 4} {x : Value} (hd : decode bytes pc = .ok (.astore_n j, 1)) (hv : x.isRef = true) {l' : Array Slot} (hl : storeLocals Ls j.val x = some l') {pc' : Nat} (hp : pc + 1 = pc') (k : Ends p e below s Z Q cC cS T (mkF m pc' l' (st))) : Ends p e below s Z Q cC cS T (mkF m pc Ls (x :: st)) := by
  subst hp; exact E_by (fun _ q => XS.astoreN X.at X.hx rfl (X.hb hd) rfl hv hl q) k
theorem E_astore (X : Wk l Z R bytes mL ret own nm p e s m args below meth c T cells slots) {j : Nat} {x : Value} (hd : decode bytes pc = .ok (.astore j, 2)) (hv : x.isRef = true) {l' : Array Slot} (hl : storeLocals Ls j x = some l') {pc' : Nat} (hp : pc + 2 = pc') (k : Ends p e below s Z Q cC cS T (mkF m pc' l' (st))) : Ends p e below s Z Q cC cS T (mkF m pc Ls (x :: st)) := by
  subst hp; exact E_by (fun _ q => XS.astore X.at X.hx rfl (X.hb hd) rfl hv hl q) k
theorem E_iinc (X : Wk l Z R bytes mL ret own nm p e s m args below meth c T cells slots) {j : Nat} {i : Int} {x y : Int32} (hd : decode bytes pc = .ok (.iinc j i, 3)) (hy : x + Int32.ofInt i = y) (hl : Ls[j]? = some (.val (.int x))) {l' : Array Slot} (hl' : storeLocals Ls j (.int y) = some l') {pc' : Nat} (hp : pc + 3 = pc') (k : Ends p e below s Z Q cC cS T (mkF m pc' l' st)) : Ends p e below s Z Q cC cS T (mkF m pc Ls st) := by
  subst hp hy; exact E_by (fun _ q => XS.iinc X.at X.hx rfl (X.hb hd) hl hl' q) k
theorem E_irem (X : Wk l Z R bytes mL ret own nm p e s m args below meth c T cells slots) {x y v : Int32} (hd : decode bytes pc = .ok (.irem, 1)) (hy : y ≠ 0) (hv : x % y = v) {pc' : Nat} (hp : pc + 1 = pc') (k : Ends p e below s Z Q cC cS T (mkF m pc' Ls (.int v :: st))) : Ends p e below s Z Q cC cS T (mkF m pc Ls (.int y :: .int x :: st)) := by
  subst hp hv; obtain ⟨q, locs, Y, r⟩ := id X; exact E_by (fun _ k => iremM Y X.hx rfl (X.hb hd) rfl hy k) k
theorem E_idiv (X : Wk l Z R bytes mL ret own nm p e s m args below meth c T cells slots) {x y v : Int32} (hd : decode bytes pc = .ok (.idiv, 1)) (hy : y ≠ 0) (hv : x / y = v) {pc' : Nat} (hp : pc + 1 = pc') (k : Ends p e below s Z Q cC cS T (mkF m pc' Ls (.int v :: st))) : Ends p e below s Z Q cC cS T (mkF m pc Ls (.int y :: .int x :: st)) := by
  subst hp hv; exact E_by (fun _ k => XS.idiv X.at X.hx rfl (X.hb hd) rfl hy k) k
theorem E_goto (X : Wk l Z R bytes mL ret own nm p e s m args below meth c T cells slots) {o : Int} (hd : decode bytes pc = .ok (.goto o, 3)) {pc' : Nat} (ho : 0 ≤ (pc : Int) + o) (hp : ((pc : Int) + o).toNat = pc') (k : Ends p e below s Z Q cC cS T (mkF m pc' Ls st)) : Ends p e below s Z Q cC cS T (mkF m pc Ls st) :=
  E_by (fun _ q => XS.goto X.at X.hx rfl (pc0 := pc) rfl (X.hb hd) ho hp q) k
theorem E_ifT (X : Wk l Z R bytes mL ret own nm p e s m args below meth c T cells slots) {cd : ClassFile.Cond} {o : Int} {x : Int32} (hd : decode bytes pc = .ok (.ifCond cd o, 3)) (hc : ifCond.holds cd x = true) {pc' : Nat} (ho : 0 ≤ (pc : Int) + o) (hp : ((pc : Int) + o).toNat = pc') (k : Ends p e below s Z Q cC cS T (mkF m pc' Ls st)) : Ends p e below s Z Q cC cS T (mkF m pc Ls (.int x :: st)) :=
  E_by (fun _ q => XS.ifYes X.at X.hx rfl (pc0 := pc) rfl (X.hb hd) rfl hc ho hp q) k
theorem E_ifF (X : Wk l Z R bytes mL ret own nm p e s m args below meth c T cells slots) {cd : ClassFile.Cond} {o : Int} {x : Int32} (hd : decode bytes pc = .ok (.ifCond cd o, 3)) (hc : ifCond.holds cd x = false) {pc' : Nat} (hp : pc + 3 = pc') (k : Ends p e below s Z Q cC cS T (mkF m pc' Ls st)) : Ends p e below s Z Q cC cS T (mkF m pc Ls (.int x :: st)) := by
  subst hp; exact E_by (fun _ q => XS.ifNo X.at X.hx rfl (X.hb hd) rfl hc q) k
theorem E_icT (X : Wk l Z R bytes mL ret own nm p e s m args below meth c T cells slots) {cd : ClassFile.Cond} {o : Int} {x y : Int32} (hd : decode bytes pc = .ok (.if_icmp cd o, 3)) (hc : if_icmp.holds cd x y = true) {pc' : Nat} (ho : 0 ≤ (pc : Int) + o) (hp : ((pc : Int) + o).toNat = pc') (k : Ends p e below s Z Q cC cS T (mkF m pc' Ls st)) : Ends p e below s Z Q cC cS T (mkF m pc Ls (.int y :: .int x :: st)) :=
  E_by (fun _ q => XS.icmpYes X.at X.hx rfl (pc0 := pc) rfl (X.hb hd) rfl hc ho hp q) k
theorem E_icF (X : Wk l Z R bytes mL ret own nm p e s m args below meth c T cells slots) {cd : ClassFile.Cond} {o : Int} {x y : Int32} (hd : decode bytes pc = .ok (.if_icmp cd o, 3)) (hc : if_icmp.holds cd x y = false) {pc' : Nat} (hp : pc + 3 = pc') (k : Ends p e below s Z Q cC cS T (mkF m pc' Ls st)) : Ends p e below s Z Q cC cS T (mkF m pc Ls (.int y :: .int x :: st)) := by
  subst hp; exact E_by (fun _ q => XS.icmpNo X.at X.hx rfl (X.hb hd) rfl hc q) k
theorem E_nullT (X : Wk l Z R bytes mL ret own nm p e s m args below meth c T cells slots) {o : Int} (hd : decode bytes pc = .ok (.ifnull o, 3)) {pc' : Nat} (ho : 0 ≤ (pc : Int) + o) (hp : ((pc : Int) + o).toNat = pc') (k : Ends p e below s Z Q cC cS T (mkF m pc' Ls st)) : Ends p e below s Z Q cC cS T (mkF m pc Ls (.null :: st)) :=
  E_by (fun _ q => XS.ifnullYes X.at X.hx rfl (pc0 := pc) rfl (X.hb hd) rfl ho hp q) k
theorem E_nullF (X : Wk l Z R bytes mL ret own nm p e s m args below meth c T cells slots) {o : Int} {b : Addr} (hd : decode bytes pc = .ok (.ifnull o, 3)) {pc' : Nat} (hp : pc + 3 = pc') (k : Ends p e below s Z Q cC cS T (mkF m pc' Ls st)) : Ends p e below s Z Q cC cS T (mkF m pc Ls (.ref b :: st)) := by
  subst hp; exact E_by (fun _ q => XS.ifnullNo X.at X.hx rfl (X.hb hd) rfl q) k
theorem E_nonnullT (X : Wk l Z R bytes mL ret own nm p e s m args below meth c T cells slots) {o : Int} {b : Addr} (hd : decode bytes pc = .ok (.ifnonnull o, 3)) {pc' : Nat} (ho : 0 ≤ (pc : Int) + o) (hp : ((pc : Int) + o).toNat = pc') (k : Ends p e below s Z Q cC cS T (mkF m pc' Ls st)) : Ends p e below s Z Q cC cS T (mkF m pc Ls (.ref b :: st)) :=
  E_by (fun _ q => XT.nonnullYes X.at X.hx rfl (pc0 := pc) rfl (X.hb hd) rfl rfl (fun q => nomatch q) ho hp q) k
theorem E_nonnullF (X : Wk l Z R bytes mL ret own nm p e s m args below meth c T cells slots) {o : Int} (hd : decode bytes pc = .ok (.ifnonnull o, 3)) {pc' : Nat} (hp : pc + 3 = pc') (k : Ends p e below s Z Q cC cS T (mkF m pc' Ls st)) : Ends p e below s Z Q cC cS T (mkF m pc Ls (.null :: st)) := by
  subst hp; exact E_by (fun _ q => XT.nonnullNo X.at X.hx rfl (X.hb hd) rfl rfl q) k
theorem E_acmp (X : Wk l Z R bytes mL ret own nm p e s m args below meth c T cells slots) {cd : ACond} {o : Int} {x y : Value} (hd : decode bytes pc = .ok (.if_acmp cd o, 3)) (h1 : x.isRef = true) (h2 : y.isRef = true) (same : Bool) (hq : decide (x = y) = same) {pc' : Nat} (ho : 0 ≤ (pc : Int) + o) (hp : pc' = if acV cd same = true then ((pc : Int) + o).toNat else pc + 3) (k : Ends p e below s Z Q cC cS T (mkF m pc' Ls st)) : Ends p e below s Z Q cC cS T (mkF m pc Ls (y :: x :: st)) := by
  obtain ⟨_, locs, Y, r⟩ := id X; exact E_by (fun _ q => acmp Y X.hx rfl h1 h2 (pc0 := pc) rfl (X.hb hd) rfl hq ho hp q) k
theorem E_ldcI (X : Wk l Z R bytes mL ret own nm p e s m args below meth c T cells slots) {ix : Nat} {v : Int32} (hd : decode bytes pc = .ok (.ldc ix, 2)) (w : (Jvm.Cond.constant own ix v).before a0 Z = true) {pc' : Nat} (hp : pc + 2 = pc') (k : Ends p e below s Z Q cC cS T (mkF m pc' Ls (.int v :: st))) : Ends p e below s Z Q cC cS T (mkF m pc Ls st) := by
  subst hp; obtain ⟨_, locs, Y, r⟩ := id X; exact E_by (fun _ q => Y.ldcI X.hx X.hown (mvT X.hZ w) rfl (X.hb hd) q) k
theorem E_new (X : Wk l Z R bytes mL ret own nm p e s m args below meth c T cells slots) {C : String} {ix n : Nat} (hd : decode bytes pc = .ok (.new ix, 3)) (w1 : (Jvm.Cond.classLink own ix C).before a0 Z = true) (w2 : (Jvm.Cond.instantiable C n).before a0 Z = true) (w3 : (Jvm.Cond.initialized C).before a0 Z = true) (hc : cells + 1 ≤ R.cells) (hs : slots + n ≤ R.slots) {pc' : Nat} (hp : pc + 3 = pc')
    (k : ∀ (T' : State) (b : Addr), Wk l Z R bytes mL ret own nm p e s m args below meth c T' (cells + 1) (slots + n) → b = T.heap.size → Keep T.heap T'.heap [] → Exa Z T'.heap b C → (∀ {O nm d : String} {ty : FieldType}, Laid Z a0 C O nm d → parseFieldDescriptor d = some ty → Fld Z T'.heap b O nm d (defaultValue ty)) → Ends p e below s Z Q cC cS T' (mkF m pc' Ls (.ref b :: st))) : Ends p e below s Z Q cC cS T (mkF m pc Ls st) := by
  subst hp; obtain ⟨q0, locs, Y, N, O⟩ := id X
  obtain ⟨T', h', Y', rfl, E, A, D, -, stp⟩ := newO Y X.hx X.hZ X.hown w1 w2 w3 rfl (g := mkF m pc Ls st) rfl (X.hb hd) hc hs
  exact E_by stp (k T' _ ⟨q0, locs, Y', N, Keep.old O (Keep.of_ext E) all0⟩ rfl (Keep.of_ext E) A D)
theorem E_newarray (X : Wk l Z R bytes mL ret own nm p e s m args below meth c T cells slots) {aty : ArrayType} {n : Int32} (cap : Nat) (hd : decode bytes pc = .ok (.newarray aty, 2)) (w : (Jvm.Cond.arrayClass (newarray.typeOf aty)).before a0 Z = true) (hn : ¬ n < 0) (hcap : n.toNatClampNeg ≤ cap) (hb : cap * 8 ≤ 536870912) (hc : cells + 1 ≤ R.cells) (hs : slots + cap ≤ R.slots) {pc' : Nat} (hp : pc + 2 = pc')
    (k : ∀ (T' : State) (b : Addr) (kA : ClassId), Wk l Z R bytes mL ret own nm p e s m args below meth c T' (cells + 1) (slots + cap) → b = T.heap.size → Keep T.heap T'.heap [] → Arv Z T'.heap b kA (newarray.typeOf aty) n [] (defaultValue (newarray.typeOf aty)) → Ends p e below s Z Q cC cS T' (mkF m pc' Ls (.ref b :: st))) : Ends p e below s Z Q cC cS T (mkF m pc Ls (.int n :: st)) := by
  subst hp; obtain ⟨q0, locs, Y, N, O⟩ := id X
  obtain ⟨T', h', kA, Y', rfl, E, A, stp⟩ := newP Y X.hx X.hZ w rfl (g := mkF m pc Ls (.int n :: st)) rfl (X.hb hd) rfl hn hcap hb hc hs
  exact E_by stp (k T' _ kA ⟨q0, locs, Y', N, Keep.old O (Keep.of_ext E) all0⟩ rfl (Keep.of_ext E) (Arv.new A hn))
theorem E_iastore (X : Wk l Z R bytes mL ret own nm p e s m args below meth c T cells slots) {a : Addr} {kA : ClassId} {z j x : Int32} {vs : List Value} {dv : Value} {y : Int32} (i : Nat) (hd : decode bytes pc = .ok (.iastore, 1)) (hy : x = y) (V : Arv Z T.heap a kA .int z vs dv) (hj : ¬ j < 0 ∧ j < z) (hi : j.toNatClampNeg = i) (hl : i < vs.length) (ha : Z.heap.size ≤ a) {pc' : Nat} (hp : pc + 1 = pc')
    (k : ∀ (T' : State), Wk l Z R bytes mL ret own nm p e s m args below meth c T' cells slots → Keep T.heap T'.heap [a] → Arv Z T'.heap a kA .int z (vs.set i (.int y)) dv → Ends p e below s Z Q cC cS T' (mkF m pc' Ls st)) : Ends p e below s Z Q cC cS T (mkF m pc Ls (.int x :: .int j :: .ref a :: st)) := by
  subst hp hy; obtain ⟨q0, locs, Y, N, O⟩ := id X
  obtain ⟨cl, A, q1, S1, N1, H1, G1⟩ := V
  obtain ⟨T', h', Y', rfl, W, stp⟩ := stI Y X.hx X.hZ rfl A (j := j) (x := x) (inb_of S1 hj) (g := mkF m pc Ls (.int x :: .int j :: .ref a :: st)) rfl rfl (X.hb hd)
  exact E_by stp (k T' ⟨q0, _, Y', Fr.snoc Y' N ha, Keep.old O (Keep.of_wr W) (allS ha all0)⟩ (Keep.of_wr W) (Arv.set A q1 S1 N1 H1 G1 (rfl) W i hi hl))
theorem E_castore (X : Wk l Z R bytes mL ret own nm p e s m args below meth c T cells slots) {a : Addr} {kA : ClassId} {z j x : Int32} {vs : List Value} {dv : Value} {y : Int32} (i : Nat) (hd : decode bytes pc = .ok (.castore, 1)) (hy : nar .char x = y) (V : Arv Z T.heap a kA .char z vs dv) (hj : ¬ j < 0 ∧ j < z) (hi : j.toNatClampNeg = i) (hl : i < vs.length) (ha : Z.heap.size ≤ a) {pc' : Nat} (hp : pc + 1 = pc')
    (k : ∀ (T' : State), Wk l Z R bytes mL ret own nm p e s m args below meth c T' cells slots → Keep T.heap T'.heap [a] → Arv Z T'.heap a kA .char z (vs.set i (.int y)) dv → Ends p e below s Z Q cC cS T' (mkF m pc' Ls st)) : Ends p e below s Z Q cC cS T (mkF m pc Ls (.int x :: .int j :: .ref a :: st)) := by
  subst hp hy; obtain ⟨q0, locs, Y, N, O⟩ := id X
  obtain ⟨cl, A, q1, S1, N1, H1, G1⟩ := V
  obtain ⟨T', h', Y', rfl, W, stp⟩ := stC Y X.hx X.hZ rfl A (j := j) (x := x) (inb_of S1 hj) (g := mkF m pc Ls (.int x :: .int j :: .ref a :: st)) rfl rfl (X.hb hd)
  exact E_by stp (k T' ⟨q0, _, Y', Fr.snoc Y' N ha, Keep.old O (Keep.of_wr W) (allS ha all0)⟩ (Keep.of_wr W) (Arv.set A q1 S1 N1 H1 G1 (fits_nar_char _) W i hi hl))
theorem E_bastore (X : Wk l Z R bytes mL ret own nm p e s m args below meth c T cells slots) {a : Addr} {kA : ClassId} {z j x : Int32} {vs : List Value} {dv : Value} {y : Int32} (i : Nat) (hd : decode bytes pc = .ok (.bastore, 1)) (hy : x.toInt8.toInt32 = y) (V : Arv Z T.heap a kA .byte z vs dv) (hj : ¬ j < 0 ∧ j < z) (hi : j.toNatClampNeg = i) (hl : i < vs.length) (ha : Z.heap.size ≤ a) {pc' : Nat} (hp : pc + 1 = pc')
    (k : ∀ (T' : State), Wk l Z R bytes mL ret own nm p e s m args below meth c T' cells slots → Keep T.heap T'.heap [a] → Arv Z T'.heap a kA .byte z (vs.set i (.int y)) dv → Ends p e below s Z Q cC cS T' (mkF m pc' Ls st)) : Ends p e below s Z Q cC cS T (mkF m pc Ls (.int x :: .int j :: .ref a :: st)) := by
  subst hp hy; obtain ⟨q0, locs, Y, N, O⟩ := id X
  obtain ⟨cl, A, q1, S1, N1, H1, G1⟩ := V
  obtain ⟨T', h', Y', rfl, W, stp⟩ := stB Y X.hx X.hZ rfl A (j := j) (x := x) (inb_of S1 hj) (g := mkF m pc Ls (.int x :: .int j :: .ref a :: st)) rfl rfl (X.hb hd)
  exact E_by stp (k T' ⟨q0, _, Y', Fr.snoc Y' N ha, Keep.old O (Keep.of_wr W) (allS ha all0)⟩ (Keep.of_wr W) (Arv.set A q1 S1 N1 H1 G1 (fits_nar_byte _) W i hi hl))
theorem E_iastoreA (X : Wk l Z R bytes mL ret own nm p e s m args below meth c T cells slots) {a : Addr} {kA : ClassId} {z j x : Int32} {vs : List Value} {dv : Value} {y : Int32} (hd : decode bytes pc = .ok (.iastore, 1)) (hy : x = y) (V : Arv Z T.heap a kA .int z vs dv) (hj : ¬ j < 0 ∧ j < z) (hi : j.toNatClampNeg = vs.length) (ha : Z.heap.size ≤ a) {pc' : Nat} (hp : pc + 1 = pc')
    (k : ∀ (T' : State), Wk l Z R bytes mL ret own nm p e s m args below meth c T' cells slots → Keep T.heap T'.heap [a] → Arv Z T'.heap a kA .int z (vs ++ [.int y]) dv → Ends p e below s Z Q cC cS T' (mkF m pc' Ls st)) : Ends p e below s Z Q cC cS T (mkF m pc Ls (.int x :: .int j :: .ref a :: st)) := by
  refine E_iastore X vs.length hd hy (V.pad (pad_rep vs dv 1)) hj hi (by simp) ha hp fun T' X' K' V' => k T' X' K' ?_
  have q : (vs ++ List.replicate 1 dv).set vs.length (.int y) = vs ++ [.int y] := by simp
  rw [q] at V'; exact V'
theorem E_castoreA (X : Wk l Z R bytes mL ret own nm p e s m args below meth c T cells slots) {a : Addr} {kA : ClassId} {z j x : Int32} {vs : List Value} {dv : Value} {y : Int32} (hd : decode bytes pc = .ok (.castore, 1)) (hy : nar .char x = y) (V : Arv Z T.heap a kA .char z vs dv) (hj : ¬ j < 0 ∧ j < z) (hi : j.toNatClampNeg = vs.length) (ha : Z.heap.size ≤ a) {pc' : Nat} (hp : pc + 1 = pc')
    (k : ∀ (T' : State), Wk l Z R bytes mL ret own nm p e s m args below meth c T' cells slots → Keep T.heap T'.heap [a] → Arv Z T'.heap a kA .char z (vs ++ [.int y]) dv → Ends p e below s Z Q cC cS T' (mkF m pc' Ls st)) : Ends p e below s Z Q cC cS T (mkF m pc Ls (.int x :: .int j :: .ref a :: st)) := by
  refine E_castore X vs.length hd hy (V.pad (pad_rep vs dv 1)) hj hi (by simp) ha hp fun T' X' K' V' => k T' X' K' ?_
  have q : (vs ++ List.replicate 1 dv).set vs.length (.int y) = vs ++ [.int y] := by simp
  rw [q] at V'; exact V'
theorem E_bastoreA (X : Wk l Z R bytes mL ret own nm p e s m args below meth c T cells slots) {a : Addr} {kA : ClassId} {z j x : Int32} {vs : List Value} {dv : Value} {y : Int32} (hd : decode bytes pc = .ok (.bastore, 1)) (hy : x.toInt8.toInt32 = y) (V : Arv Z T.heap a kA .byte z vs dv) (hj : ¬ j < 0 ∧ j < z) (hi : j.toNatClampNeg = vs.length) (ha : Z.heap.size ≤ a) {pc' : Nat} (hp : pc + 1 = pc')
    (k : ∀ (T' : State), Wk l Z R bytes mL ret own nm p e s m args below meth c T' cells slots → Keep T.heap T'.heap [a] → Arv Z T'.heap a kA .byte z (vs ++ [.int y]) dv → Ends p e below s Z Q cC cS T' (mkF m pc' Ls st)) : Ends p e below s Z Q cC cS T (mkF m pc Ls (.int x :: .int j :: .ref a :: st)) := by
  refine E_bastore X vs.length hd hy (V.pad (pad_rep vs dv 1)) hj hi (by simp) ha hp fun T' X' K' V' => k T' X' K' ?_
  have q : (vs ++ List.replicate 1 dv).set vs.length (.int y) = vs ++ [.int y] := by simp
  rw [q] at V'; exact V'
theorem E_iaload (X : Wk l Z R bytes mL ret own nm p e s m args below meth c T cells slots) {a : Addr} {kA : ClassId} {z j : Int32} {vs : List Value} {dv v : Value} (hd : decode bytes pc = .ok (.iaload, 1)) (V : Arv Z T.heap a kA .int z vs dv) (hj : ¬ j < 0 ∧ j < z) (hv : vs.getD j.toNatClampNeg dv = v) {pc' : Nat} (hp : pc + 1 = pc')
    (k : Ends p e below s Z Q cC cS T (mkF m pc' Ls (v :: st))) : Ends p e below s Z Q cC cS T (mkF m pc Ls (.int j :: .ref a :: st)) := by
  subst hp; obtain ⟨q0, locs, Y, N, O⟩ := id X
  obtain ⟨cl, A, q1, S1, N1, H1, G1⟩ := V
  exact E_by (Y.iaload X.hx A.1 (State.isArrayOf_alike X.hZ.alike A.2.1) A.2.2 (inb_of S1 hj) (Has.at H1 (inb_of S1 hj) hv) (g := mkF m pc Ls (.int j :: .ref a :: st)) rfl rfl (X.hb hd)) k
theorem E_caload (X : Wk l Z R bytes mL ret own nm p e s m args below meth c T cells slots) {a : Addr} {kA : ClassId} {z j : Int32} {vs : List Value} {dv v : Value} (hd : decode bytes pc = .ok (.caload, 1)) (V : Arv Z T.heap a kA .char z vs dv) (hj : ¬ j < 0 ∧ j < z) (hv : vs.getD j.toNatClampNeg dv = v) {pc' : Nat} (hp : pc + 1 = pc')
    (k : Ends p e below s Z Q cC cS T (mkF m pc' Ls (v :: st))) : Ends p e below s Z Q cC cS T (mkF m pc Ls (.int j :: .ref a :: st)) := by
  subst hp; obtain ⟨q0, locs, Y, N, O⟩ := id X
  obtain ⟨cl, A, q1, S1, N1, H1, G1⟩ := V
  exact E_by (Y.caload X.hx A.1 (State.isArrayOf_alike X.hZ.alike A.2.1) A.2.2 (inb_of S1 hj) (Has.at H1 (inb_of S1 hj) hv) (g := mkF m pc Ls (.int j :: .ref a :: st)) rfl rfl (X.hb hd)) k
theorem E_baload (X : Wk l Z R bytes mL ret own nm p e s m args below meth c T cells slots) {a : Addr} {kA : ClassId} {z j : Int32} {vs : List Value} {dv v : Value} (hd : decode bytes pc = .ok (.baload, 1)) (V : Arv Z T.heap a kA .byte z vs dv) (hj : ¬ j < 0 ∧ j < z) (hv : vs.getD j.toNatClampNeg dv = v) {pc' : Nat} (hp : pc + 1 = pc')
    (k : Ends p e below s Z Q cC cS T (mkF m pc' Ls (v :: st))) : Ends p e below s Z Q cC cS T (mkF m pc Ls (.int j :: .ref a :: st)) := by
  subst hp; obtain ⟨q0, locs, Y, N, O⟩ := id X
  obtain ⟨cl, A, q1, S1, N1, H1, G1⟩ := V
  exact E_by (Y.baloadBytes X.hx A.1 (State.isArrayOf_alike X.hZ.alike A.2.1) A.2.2 (inb_of S1 hj) (Has.at H1 (inb_of S1 hj) hv) (g := mkF m pc Ls (.int j :: .ref a :: st)) rfl rfl (X.hb hd)) k
theorem E_aaload (X : Wk l Z R bytes mL ret own nm p e s m args below meth c T cells slots) {a : Addr} {kA : ClassId} {z j : Int32} {vs : List Value} {dv v : Value} {ty : FieldType} (hd : decode bytes pc = .ok (.aaload, 1)) (V : Arv Z T.heap a kA ty z vs dv) (hty : ty.isReference = true) (hj : ¬ j < 0 ∧ j < z) (hv : vs.getD j.toNatClampNeg dv = v) {pc' : Nat} (hp : pc + 1 = pc')
    (k : Ends p e below s Z Q cC cS T (mkF m pc' Ls (v :: st))) : Ends p e below s Z Q cC cS T (mkF m pc Ls (.int j :: .ref a :: st)) := by
  subst hp; obtain ⟨q0, locs, Y, N, O⟩ := id X
  obtain ⟨cl, A, q1, S1, N1, H1, G1⟩ := V
  exact E_by (Y.aaload X.hx A.1 (State.isArrayOf_alike X.hZ.alike A.2.1) hty A.2.2 (inb_of S1 hj) (Has.at H1 (inb_of S1 hj) hv) (g := mkF m pc Ls (.int j :: .ref a :: st)) rfl rfl (X.hb hd)) k
theorem E_arraylength (X : Wk l Z R bytes mL ret own nm p e s m args below meth c T cells slots) {a : Addr} {kA : ClassId} {z : Int32} {vs : List Value} {dv : Value} {ty : FieldType} (hd : decode bytes pc = .ok (.arraylength, 1)) (V : Arv Z T.heap a kA ty z vs dv) {pc' : Nat} (hp : pc + 1 = pc')
    (k : Ends p e below s Z Q cC cS T (mkF m pc' Ls (.int z :: st))) : Ends p e below s Z Q cC cS T (mkF m pc Ls (.ref a :: st)) := by
  subst hp; obtain ⟨q0, locs, Y, N, O⟩ := id X
  obtain ⟨cl, A, q1, S1, N1, H1, G1⟩ := V
  refine E_by (Y.arraylength X.hx A.1 (State.isArrayOf_alike X.hZ.alike A.2.1) (g := mkF m pc Ls (.ref a :: st)) rfl rfl (X.hb hd)) ?_
  rw [len_of S1 N1]; exact k
theorem E_getfield (X : Wk l Z R bytes mL ret own nm p e s m args below meth c T cells slots) {a : Addr} {O n d R0 : String} {ix : Nat} {v : Value} (hd : decode bytes pc = .ok (.getfield ix, 3)) (w : (Jvm.Cond.fieldLink own ix R0 n d).before a0 Z = true) (via : Via Z R0 O n d) (F : Fld Z T.heap a O n d v) {pc' : Nat} (hp : pc + 3 = pc')
    (k : ∀ (T' : State), Wk l Z R bytes mL ret own nm p e s m args below meth c T' cells slots → T'.heap = T.heap → Ends p e below s Z Q cC cS T' (mkF m pc' Ls (v :: st))) : Ends p e below s Z Q cC cS T (mkF m pc Ls (.ref a :: st)) := by
  subst hp; obtain ⟨q0, locs, Y, N, Od⟩ := id X
  obtain ⟨T', Y', e1, stp⟩ := getF Y X.hx X.hZ X.hown (host := "") (Or.inl w) via rfl F (g := mkF m pc Ls (.ref a :: st)) rfl rfl (X.hb hd)
  exact E_by stp (k T' ⟨q0, locs, Y', N, e1 ▸ Od⟩ e1)
theorem E_getstatic (X : Wk l Z R bytes mL ret own nm p e s m args below meth c T cells slots) {O n d R0 : String} {ix : Nat} {v : Value} (hd : decode bytes pc = .ok (.getstatic ix, 3)) (w : (Jvm.Cond.fieldLink own ix R0 n d).before a0 Z = true) (via : Via Z R0 O n d) (F : Sta Z Z.heap O n d v) {pc' : Nat} (hp : pc + 3 = pc')
    (k : ∀ (T' : State), Wk l Z R bytes mL ret own nm p e s m args below meth c T' cells slots → T'.heap = T.heap → Ends p e below s Z Q cC cS T' (mkF m pc' Ls (v :: st))) : Ends p e below s Z Q cC cS T (mkF m pc Ls st) := by
  subst hp; obtain ⟨q0, locs, Y, N, Od⟩ := id X
  obtain ⟨T', Y', e1, stp⟩ := getS Y X.hx X.hZ (host := "") X.hown w via rfl (F.ext Od) (g := mkF m pc Ls st) rfl (X.hb hd)
  exact E_by stp (k T' ⟨q0, locs, Y', N, e1 ▸ Od⟩ e1)
theorem E_putfield (X : Wk l Z R bytes mL ret own nm p e s m args below meth c T cells slots) {a : Addr} {O n d R0 C : String} {ix kk : Nat} {v old : Value} {ty : FieldType} (hd : decode bytes pc = .ok (.putfield ix, 3)) (w : (Jvm.Cond.fieldLink own ix R0 n d).before a0 Z = true) (via : Via Z R0 O n d) (F : Fld Z T.heap a O n d old) (E : Exa Z T.heap a C) (L : (Jvm.Cond.lays C O n d).before a0 Z = true ∨ ((Jvm.Cond.laysFinal C O n d).before a0 Z = true ∧ own = O ∧ nm = "<init>")) (wi : (Jvm.Cond.instantiable C kk).before a0 Z = true) (hty : parseFieldDescriptor d = some ty) (hn : narrow ty v = v) (hf : fits ty v = true) (ha : Z.heap.size ≤ a) {pc' : Nat} (hp : pc + 3 = pc')
    (k : ∀ (T' : State), Wk l Z R bytes mL ret own nm p e s m args below meth c T' cells slots → Wr T.heap T'.heap a (Jvm.RoadKit.slotOf Z O n d) v → Ends p e below s Z Q cC cS T' (mkF m pc' Ls st)) : Ends p e below s Z Q cC cS T (mkF m pc Ls (v :: .ref a :: st)) := by
  subst hp; obtain ⟨q0, locs, Y, N, Od⟩ := id X
  obtain ⟨T', h', Y', rfl, W, stp⟩ := putF Y X.hx X.hZ X.hown (host := "") (Or.inl w) via rfl F E (L.imp id fun q => ⟨q.1, q.2.1, q0.2.2.2.2.2.2.1.trans q.2.2⟩) wi hty hn hf (g := mkF m pc Ls (v :: .ref a :: st)) rfl rfl (X.hb hd)
  exact E_by stp (k T' ⟨q0, _, Y', Fr.snoc Y' N ha, Keep.old Od (Keep.of_wr W) (allS ha all0)⟩ W)
theorem E_initO (X : Wk l Z R bytes mL ret own nm p e s m args below meth c T cells slots) {a : Addr} {ix : Nat} (hd : decode bytes pc = .ok (.invokespecial ix, 3)) (w1 : (Jvm.Cond.methodLink own ix Lib.objectInit).before a0 Z = true) (w2 : (Jvm.Cond.instanceMethod Lib.objectInit).before a0 Z = true) (w3 : (Jvm.Cond.code Lib.objectInit ⟨#[0xb1]⟩ 1 none).before a0 Z = true) (hsz : Ls.size = mL) (hf : 1 ≤ R.frames) (hl : (st.map fun v => v.category).sum + 12 ≤ R.locals) {pc' : Nat} (hp : pc + 3 = pc')
    (k : ∀ (T' : State), Wk l Z R bytes mL ret own nm p e s m args below meth c T' cells slots → T'.heap = T.heap → Ends p e below s Z Q cC cS T' (mkF m pc' Ls st)) : Ends p e below s Z Q cC cS T (mkF m pc Ls (.ref a :: st)) := by
  subst hp; obtain ⟨q0, locs, Y, N, Od⟩ := id X
  obtain ⟨T', Y', e1, stp⟩ := initO Y X.hx X.hZ X.hown w1 w2 w3 rfl (g := mkF m pc Ls (.ref a :: st)) rfl (X.size hsz) rfl (X.hb hd) hf (W := (st.map fun v => v.category).sum) (by show 2 * 0 + _ ≤ _; omega) hl
  exact E_by stp (k T' ⟨q0, locs, Y', N, e1 ▸ Od⟩ e1)
theorem E_checkcast (X : Wk l Z R bytes mL ret own nm p e s m args below meth c T cells slots) {a : Addr} {K : String} {ix : Nat} (hd : decode bytes pc = .ok (.checkcast ix, 3)) (w : (Jvm.Cond.classLink own ix K).before a0 Z = true) (F : Ins Z T.heap a K true) {pc' : Nat} (hp : pc + 3 = pc')
    (k : ∀ (T' : State), Wk l Z R bytes mL ret own nm p e s m args below meth c T' cells slots → T'.heap = T.heap → Ends p e below s Z Q cC cS T' (mkF m pc' Ls (.ref a :: st))) : Ends p e below s Z Q cC cS T (mkF m pc Ls (.ref a :: st)) := by
  subst hp; obtain ⟨q0, locs, Y, N, Od⟩ := id X
  obtain ⟨T', Y', e1, stp⟩ := castY Y X.hx X.hZ X.hown w rfl F (g := mkF m pc Ls (.ref a :: st)) rfl rfl (X.hb hd)
  exact E_by stp (k T' ⟨q0, locs, Y', N, e1 ▸ Od⟩ e1)
theorem E_instY (X : Wk l Z R bytes mL ret own nm p e s m args below meth c T cells slots) {a : Addr} {K : String} {ix : Nat} (hd : decode bytes pc = .ok (.instanceof ix, 3)) (w : (Jvm.Cond.classLink own ix K).before a0 Z = true) (F : Ins Z T.heap a K true) {pc' : Nat} (hp : pc + 3 = pc')
    (k : ∀ (T' : State), Wk l Z R bytes mL ret own nm p e s m args below meth c T' cells slots → T'.heap = T.heap → Ends p e below s Z Q cC cS T' (mkF m pc' Ls (.int 1 :: st))) : Ends p e below s Z Q cC cS T (mkF m pc Ls (.ref a :: st)) := by
  subst hp; obtain ⟨q0, locs, Y, N, Od⟩ := id X
  obtain ⟨T', Y', e1, stp⟩ := instY Y X.hx X.hZ X.hown w rfl F (g := mkF m pc Ls (.ref a :: st)) rfl rfl (X.hb hd)
  exact E_by stp (k T' ⟨q0, locs, Y', N, e1 ▸ Od⟩ e1)
theorem E_staticB (X : Wk l Z R bytes mL ret own nm p e s m args below meth c T cells slots) {y : MethodName} {ix : Nat} {bytes' : ByteArray} {mL' : Nat} {ret' : Option FieldType} {Q' : Option Value → Heap → Prop} {argsL : List Value} {Q2 : Option Value → Heap → List Loc → Prop} {rC rS : Nat} (hd : decode bytes pc = .ok (.invokestatic ix, 3)) (w1 : (Jvm.Cond.methodLink own ix y).before a0 Z = true) (w2 : (Jvm.Cond.static y).before a0 Z = true) (w3 : (Jvm.Cond.initialized y.cls).before a0 Z = true) (w4 : (Jvm.Cond.code y bytes' mL' ret').before a0 Z = true) (hy : y.cls ≠ "java/lang/invoke/MethodHandle" ∧ y.cls ≠ "java/lang/invoke/VarHandle") {st0 : List Value} (hst : st0 = argsL.reverse ++ st) (hK : Back l R p e below s args y 3 ((st.map fun v => v.category).sum) (fun A aa => aa = argsL.toArray ∧ A.U.heap = T.heap ∧ A.cells + rC ≤ R.cells ∧ A.slots + rS ≤ R.slots) (fun A _ v B => ∃ L, Q2 v B.U.heap L ∧ B.locs = A.locs ++ L ∧ B.cells = A.cells + rC ∧ B.slots = A.slots + rS)) (hQ2 : ∀ v h L, Q2 v h L → Fr Z.heap.size L ∧ Ext Z.heap h ∧ Q' v h) (hlen : ∀ sig, parseMethodDescriptor y.desc = some sig → argsL.length = sig.parameters.length) (hsz : Ls.size = mL) (hcl : cells + rC ≤ R.cells) (hsl : slots + rS ≤ R.slots) {pc' : Nat} (hp : pc + 3 = pc')
    (k : ∀ (T' : State) (v : Option Value), Wk l Z R bytes mL ret own nm p e s m args below meth c T' (cells + rC) (slots + rS) → Q' v T'.heap → Ends p e below s Z Q cC cS T' (mkF m pc' Ls (v.toList ++ st))) : Ends p e below s Z Q cC cS T (mkF m pc Ls st0) := by
  subst hp hst; obtain ⟨q0, locs, Y, N, Od⟩ := id X
  obtain ⟨v, _, ⟨T', L1, k1, n1⟩, -, Y', ⟨Lc, hQ, l1, y1, z1⟩, stp⟩ := Jvm.LawKit.callS Y X.hx (y := y) X.hown (mvT X.hZ w1) (mvT X.hZ w2) (mvT X.hZ w3) (mvT X.hZ w4) hy hK (g := mkF m pc Ls (argsL.reverse ++ st)) rfl (X.size hsz) (argsL := argsL) (rest := st) hlen rfl (by show 2 * 0 + _ ≤ _; omega) (X.hb hd) (fun _ _ => ⟨rfl, rfl, hcl, hsl⟩)
  dsimp only [Pt.U, Pt.locs, Pt.cells, Pt.slots] at Y' l1 y1 z1 stp hQ
  subst l1 y1 z1
  obtain ⟨f1, f2, f3⟩ := hQ2 _ _ _ hQ
  exact E_by stp (k T' v ⟨q0, _, Y', Fr.app N f1, f2⟩ f3)
theorem E_static (X : Wk l Z R bytes mL ret own nm p e s m args below meth c T cells slots) {y : MethodName} {ix : Nat} {bytes' : ByteArray} {mL' : Nat} {ret' : Option FieldType} {Q' : Option Value → Heap → Prop} {argsL : List Value} {rm : Room} (hd : decode bytes pc = .ok (.invokestatic ix, 3)) (w1 : (Jvm.Cond.methodLink own ix y).before a0 Z = true) (w2 : (Jvm.Cond.static y).before a0 Z = true) (w3 : (Jvm.Cond.initialized y.cls).before a0 Z = true) (w4 : (Jvm.Cond.code y bytes' mL' ret').before a0 Z = true) (hy : y.cls ≠ "java/lang/invoke/MethodHandle" ∧ y.cls ≠ "java/lang/invoke/VarHandle")  {st0 : List Value} (hst : st0 = argsL.reverse ++ st) (hC : Ct l Z y bytes' mL' ret' rm argsL.toArray T.heap Q') (hlen : ∀ sig, parseMethodDescriptor y.desc = some sig → argsL.length = sig.parameters.length) (hsz : Ls.size = mL) (hcl : cells + rm.cells ≤ R.cells) (hsl : slots + rm.slots ≤ R.slots) (hfr : rm.frames + 1 ≤ R.frames) (hlo : (st.map fun v => v.category).sum + (mL' + 11) + rm.locals ≤ R.locals) {pc' : Nat} (hp : pc + 3 = pc')
    (k : ∀ (T' : State) (v : Option Value), Wk l Z R bytes mL ret own nm p e s m args below meth c T' (cells + rm.cells) (slots + rm.slots) → Q' v T'.heap → Ends p e below s Z Q cC cS T' (mkF m pc' Ls (v.toList ++ st))) : Ends p e below s Z Q cC cS T (mkF m pc Ls st0) :=
  E_staticB X hd w1 w2 w3 w4 hy hst (hC.back X.hZ w4 w3 hfr hlo) (fun _ _ _ q => q) hlen hsz hcl hsl hp k
theorem E_specialB (X : Wk l Z R bytes mL ret own nm p e s m args below meth c T cells slots) {y : MethodName} {ix : Nat} {bytes' : ByteArray} {mL' : Nat} {ret' : Option FieldType} {Q' : Option Value → Heap → Prop} {argsL : List Value} {Q2 : Option Value → Heap → List Loc → Prop} {rC rS : Nat} {a : Addr} (hd : decode bytes pc = .ok (.invokespecial ix, 3)) (hy1 : y.name = "<init>") (hret : ret' = none) (w1 : (Jvm.Cond.methodLink own ix y).before a0 Z = true) (w2 : (Jvm.Cond.instanceMethod y).before a0 Z = true) (w4 : (Jvm.Cond.code y bytes' mL' ret').before a0 Z = true) (hy : y.cls ≠ "java/lang/invoke/MethodHandle" ∧ y.cls ≠ "java/lang/invoke/VarHandle") {st0 : List Value} (hst : st0 = argsL.reverse ++ .ref a :: st) (hK : Back l R p e below s args y 3 ((st.map fun v => v.category).sum) (fun A aa => aa = (.ref a :: argsL).toArray ∧ A.U.heap = T.heap ∧ A.cells + rC ≤ R.cells ∧ A.slots + rS ≤ R.slots) (fun A _ v B => ∃ L, Q2 v B.U.heap L ∧ B.locs = A.locs ++ L ∧ B.cells = A.cells + rC ∧ B.slots = A.slots + rS)) (hQ2 : ∀ v h L, Q2 v h L → Fr Z.heap.size L ∧ Ext Z.heap h ∧ Q' v h) (hlen : ∀ sig, parseMethodDescriptor y.desc = some sig → argsL.length = sig.parameters.length) (hsz : Ls.size = mL) (hcl : cells + rC ≤ R.cells) (hsl : slots + rS ≤ R.slots) {pc' : Nat} (hp : pc + 3 = pc')
    (k : ∀ (T' : State) (v : Option Value), Wk l Z R bytes mL ret own nm p e s m args below meth c T' (cells + rC) (slots + rS) → Q' v T'.heap → Ends p e below s Z Q cC cS T' (mkF m pc' Ls (v.toList ++ st))) : Ends p e below s Z Q cC cS T (mkF m pc Ls st0) := by
  subst hp hst; obtain ⟨q0, locs, Y, N, Od⟩ := id X
  subst hret
  obtain ⟨v, _, ⟨T', L1, k1, n1⟩, -, Y', ⟨Lc, hQ, l1, y1, z1⟩, stp⟩ := Y.specialBack X.hx (y := y) hy1 X.hown (mvT X.hZ w1) (mvT X.hZ w2) (mvT X.hZ w4) hy hK (g := mkF m pc Ls (argsL.reverse ++ .ref a :: st)) rfl (X.size hsz) (Steps.refl _) (a := a) (argsL := argsL) (rest := st) hlen rfl (by show 2 * 0 + _ ≤ _; omega) (X.hb hd) (fun _ _ => ⟨rfl, rfl, hcl, hsl⟩)
  dsimp only [Pt.U, Pt.locs, Pt.cells, Pt.slots] at Y' l1 y1 z1 stp hQ
  subst l1 y1 z1
  obtain ⟨f1, f2, f3⟩ := hQ2 _ _ _ hQ
  exact E_tr stp (k T' v ⟨q0, _, Y', Fr.app N f1, f2⟩ f3)
theorem E_special (X : Wk l Z R bytes mL ret own nm p e s m args below meth c T cells slots) {y : MethodName} {ix : Nat} {bytes' : ByteArray} {mL' : Nat} {ret' : Option FieldType} {Q' : Option Value → Heap → Prop} {argsL : List Value} {rm : Room} {a : Addr} (hd : decode bytes pc = .ok (.invokespecial ix, 3)) (hy1 : y.name = "<init>") (hret : ret' = none) (w1 : (Jvm.Cond.methodLink own ix y).before a0 Z = true) (w2 : (Jvm.Cond.instanceMethod y).before a0 Z = true) (w4 : (Jvm.Cond.code y bytes' mL' ret').before a0 Z = true) (hy : y.cls ≠ "java/lang/invoke/MethodHandle" ∧ y.cls ≠ "java/lang/invoke/VarHandle") (w3 : (Jvm.Cond.initialized y.cls).before a0 Z = true) {st0 : List Value} (hst : st0 = argsL.reverse ++ .ref a :: st) (hC : Ct l Z y bytes' mL' ret' rm (.ref a :: argsL).toArray T.heap Q') (hlen : ∀ sig, parseMethodDescriptor y.desc = some sig → argsL.length = sig.parameters.length) (hsz : Ls.size = mL) (hcl : cells + rm.cells ≤ R.cells) (hsl : slots + rm.slots ≤ R.slots) (hfr : rm.frames + 1 ≤ R.frames) (hlo : (st.map fun v => v.category).sum + (mL' + 11) + rm.locals ≤ R.locals) {pc' : Nat} (hp : pc + 3 = pc')
    (k : ∀ (T' : State) (v : Option Value), Wk l Z R bytes mL ret own nm p e s m args below meth c T' (cells + rm.cells) (slots + rm.slots) → Q' v T'.heap → Ends p e below s Z Q cC cS T' (mkF m pc' Ls (v.toList ++ st))) : Ends p e below s Z Q cC cS T (mkF m pc Ls st0) :=
  E_specialB X hd hy1 hret w1 w2 w4 hy hst (hC.back X.hZ w4 w3 hfr hlo) (fun _ _ _ q => q) hlen hsz hcl hsl hp k
theorem E_virtualB (X : Wk l Z R bytes mL ret own nm p e s m args below meth c T cells slots) {y : MethodName} {ix : Nat} {Q' : Option Value → Heap → Prop} {argsL : List Value} {Q2 : Option Value → Heap → List Loc → Prop} {rC rS : Nat} {a : Addr} {z : MethodName} {D : String} (hd : decode bytes pc = .ok (.invokevirtual ix, 3)) (w1 : (Jvm.Cond.methodLink own ix y).before a0 Z = true) (w2 : (Jvm.Cond.declares y).before a0 Z = true) (w5 : (Jvm.Cond.selects D y z).before a0 Z = true) (w6 : (Jvm.Cond.instanceMethod z).before a0 Z = true) (hnf : NotFace s y) (hy : y.cls ≠ "java/lang/invoke/MethodHandle" ∧ y.cls ≠ "java/lang/invoke/VarHandle") (E : Exa Z T.heap a D) {st0 : List Value} (hst : st0 = argsL.reverse ++ .ref a :: st) (hK : Back l R p e below s args z 3 ((st.map fun v => v.category).sum) (fun A aa => aa = (.ref a :: argsL).toArray ∧ A.U.heap = T.heap ∧ A.cells + rC ≤ R.cells ∧ A.slots + rS ≤ R.slots) (fun A _ v B => ∃ L, Q2 v B.U.heap L ∧ B.locs = A.locs ++ L ∧ B.cells = A.cells + rC ∧ B.slots = A.slots + rS)) (hQ2 : ∀ v h L, Q2 v h L → Fr Z.heap.size L ∧ Ext Z.heap h ∧ Q' v h) (hlen : ∀ sig, parseMethodDescriptor y.desc = some sig → argsL.length = sig.parameters.length) (hsz : Ls.size = mL) (hcl : cells + rC ≤ R.cells) (hsl : slots + rS ≤ R.slots) {pc' : Nat} (hp : pc + 3 = pc')
    (k : ∀ (T' : State) (v : Option Value), Wk l Z R bytes mL ret own nm p e s m args below meth c T' (cells + rC) (slots + rS) → Q' v T'.heap → Ends p e below s Z Q cC cS T' (mkF m pc' Ls (v.toList ++ st))) : Ends p e below s Z Q cC cS T (mkF m pc Ls st0) := by
  subst hp hst; obtain ⟨q0, locs, Y, N, Od⟩ := id X
  obtain ⟨cq, kq, qa, qb, qc⟩ := isOf X.hZ rfl E
  obtain ⟨v, _, ⟨T', L1, k1, n1⟩, -, Y', ⟨Lc, hQ, l1, y1, z1⟩, stp⟩ := Y.virtualBack X.hx (y := y) (z := z) X.hown (mvT X.hZ w1) (mvT X.hZ w2) hnf (mvT X.hZ w5) (mvT X.hZ w6) hy hK qa qc (g := mkF m pc Ls (argsL.reverse ++ .ref a :: st)) rfl (X.size hsz) (Steps.refl _) (argsL := argsL) (rest := st) hlen rfl (by show 2 * 0 + _ ≤ _; omega) (X.hb hd) (fun _ _ => ⟨rfl, rfl, hcl, hsl⟩)
  dsimp only [Pt.U, Pt.locs, Pt.cells, Pt.slots] at Y' l1 y1 z1 stp hQ
  subst l1 y1 z1
  obtain ⟨f1, f2, f3⟩ := hQ2 _ _ _ hQ
  exact E_tr stp (k T' v ⟨q0, _, Y', Fr.app N f1, f2⟩ f3)
theorem E_virtual (X : Wk l Z R bytes mL ret own nm p e s m args below meth c T cells slots) {y : MethodName} {ix : Nat} {bytes' : ByteArray} {mL' : Nat} {ret' : Option FieldType} {Q' : Option Value → Heap → Prop} {argsL : List Value} {rm : Room} {a : Addr} {z : MethodName} {D : String} (hd : decode bytes pc = .ok (.invokevirtual ix, 3)) (w1 : (Jvm.Cond.methodLink own ix y).before a0 Z = true) (w2 : (Jvm.Cond.declares y).before a0 Z = true) (w5 : (Jvm.Cond.selects D y z).before a0 Z = true) (w6 : (Jvm.Cond.instanceMethod z).before a0 Z = true) (hnf : NotFace s y) (hy : y.cls ≠ "java/lang/invoke/MethodHandle" ∧ y.cls ≠ "java/lang/invoke/VarHandle") (E : Exa Z T.heap a D) (w3 : (Jvm.Cond.initialized z.cls).before a0 Z = true) (w4 : (Jvm.Cond.code z bytes' mL' ret').before a0 Z = true) {st0 : List Value} (hst : st0 = argsL.reverse ++ .ref a :: st) (hC : Ct l Z z bytes' mL' ret' rm (.ref a :: argsL).toArray T.heap Q') (hlen : ∀ sig, parseMethodDescriptor y.desc = some sig → argsL.length = sig.parameters.length) (hsz : Ls.size = mL) (hcl : cells + rm.cells ≤ R.cells) (hsl : slots + rm.slots ≤ R.slots) (hfr : rm.frames + 1 ≤ R.frames) (hlo : (st.map fun v => v.category).sum + (mL' + 11) + rm.locals ≤ R.locals) {pc' : Nat} (hp : pc + 3 = pc')
    (k : ∀ (T' : State) (v : Option Value), Wk l Z R bytes mL ret own nm p e s m args below meth c T' (cells + rm.cells) (slots + rm.slots) → Q' v T'.heap → Ends p e below s Z Q cC cS T' (mkF m pc' Ls (v.toList ++ st))) : Ends p e below s Z Q cC cS T (mkF m pc Ls st0) :=
  E_virtualB X hd w1 w2 w5 w6 hnf hy E hst (hC.back X.hZ w4 w3 hfr hlo) (fun _ _ _ q => q) hlen hsz hcl hsl hp k
theorem Wk.out (X : Wk l Z R bytes mL ret own nm p e s m args below meth c T cells slots) {v : Option Value} (hv : ret = none → v = none) (hQ : Q v T.heap) (h1 : cells ≤ cC) (h2 : slots ≤ cS) (hs : ∀ fs, (∀ (f : JFrame) (acts : List Action), f.method = m → f.locked = none → f.entered = [] → (doReturn e (T.setTop f) acts v).1 = T.setFrames fs) → Steps p.tables e below (T.setTop g) (T.setFrames fs)) : Ends p e below s Z Q cC cS T g := by
  obtain ⟨q0, locs, Y, N, Od⟩ := id X
  obtain ⟨fs, hr, hrun, hended, hW, hsame⟩ := Y.leave (v := v) (fun h => hv (q0.2.2.2.1.symm.trans h)) q0.2.2.2.2.1
  exact ⟨_, _, hs fs hr, hrun, hended, _, _, rfl, ⟨N, Od, hQ⟩, ⟨_, rfl⟩, hW, hsame.mono h1 h2⟩
theorem E_return (X : Wk l Z R bytes mL ret own nm p e s m args below meth c T cells slots) (hd : decode bytes pc = .ok (.return_, 1)) (hret : ret = none) (h1 : cells ≤ cC) (h2 : slots ≤ cS) (hQ : Q none T.heap) : Ends p e below s Z Q cC cS T (mkF m pc Ls []) := by
  refine X.out (v := none) (fun _ => rfl) hQ h1 h2 fun fs hr => ?_
  obtain ⟨q0, locs, Y, N, Od⟩ := id X
  exact Y.returnOut X.hx (q0.2.2.2.1.trans hret) (X.hb hd) hr
theorem E_ireturnI (X : Wk l Z R bytes mL ret own nm p e s m args below meth c T cells slots) {z : Int32} (hd : decode bytes pc = .ok (.ireturn, 1)) (hret : ret = some .int) (h1 : cells ≤ cC) (h2 : slots ≤ cS) (hQ : Q (some (.int z)) T.heap) : Ends p e below s Z Q cC cS T (mkF m pc Ls (.int z :: st)) := by
  refine X.out (v := some (.int z)) (fun h => by rw [hret] at h; cases h) hQ h1 h2 fun fs hr => ?_
  obtain ⟨q0, locs, Y, N, Od⟩ := id X
  exact retOut Y X.hx (q0.2.2.2.1.trans hret) rfl (Or.inl ⟨rfl, Or.inl rfl, z, rfl⟩) (X.hb hd) hr
theorem E_ireturnN (X : Wk l Z R bytes mL ret own nm p e s m args below meth c T cells slots) {z : Int32} {t : FieldType} (hd : decode bytes pc = .ok (.ireturn, 1)) (hret : ret = some t) (ht : t = .boolean ∨ t = .byte ∨ t = .char ∨ t = .short) (h1 : cells ≤ cC) (h2 : slots ≤ cS) (hQ : Q (some (.int (nar t z))) T.heap) : Ends p e below s Z Q cC cS T (mkF m pc Ls (.int z :: st)) := by
  refine X.out (v := some (.int (nar t z))) (fun h => by rw [hret] at h; cases h) hQ h1 h2 fun fs hr => ?_
  obtain ⟨q0, locs, Y, N, Od⟩ := id X
  exact retN Y X.hx (q0.2.2.2.1.trans hret) ht (X.hb hd) hr
theorem E_areturn (X : Wk l Z R bytes mL ret own nm p e s m args below meth c T cells slots) {v : Value} {t : FieldType} (hd : decode bytes pc = .ok (.areturn, 1)) (hret : ret = some t) (ht : t.isReference = true) (hv : v.isRef = true) (hn : narrow t v = v) (h1 : cells ≤ cC) (h2 : slots ≤ cS) (hQ : Q (some v) T.heap) : Ends p e below s Z Q cC cS T (mkF m pc Ls (v :: st)) := by
  refine X.out (v := some v) (fun h => by rw [hret] at h; cases h) hQ h1 h2 fun fs hr => ?_
  obtain ⟨q0, locs, Y, N, Od⟩ := id X
  exact retOut Y X.hx (q0.2.2.2.1.trans hret) hn (Or.inr (Or.inr (Or.inr (Or.inr ⟨rfl, ht, hv⟩)))) (X.hb hd) hr
end Own
section OwnW
variable {p : Program} {l : Launch} {e : Env} {R : Room} {s : State} {m : MethodId} {args : Array Value} {below : List Frame} {meth : Method} {c : Code} {T T' : State} {cells slots : Nat} {Z : State} {bytes : ByteArray} {mL : Nat} {ret : Option FieldType} {own nm : String} {Q : Option Value → Heap → Prop} {cC cS : Nat} {pc : Nat} {Ls : Array Slot} {st : List Value} {a0 : Array Value} {g g' : JFrame} {vm : Vm}
abbrev EL : List (String × Nat) := consts_1
/-- the walk stands at T over the start with the tables vm; it may have loaded String constants -/
def Ww (l : Launch) (Z : State) (R : Room) (bytes : ByteArray) (mL : Nat) (ret : Option FieldType) (own nm : String) (p : Program) (e : Env) (s : State) (m : MethodId) (args : Array Value) (below : List Frame) (meth : Method) (c : Code) (vm : Vm) (T : State) (cells slots : Nat) : Prop :=
  (p.tables.exec = Jvm.exec ∧ c.code = bytes ∧ c.maxLocals = mL ∧ meth.sig.returnType = ret ∧ meth.locks = false ∧ vm.findClass own = some m.cls ∧ meth.name = nm ∧ Z.Warmed39 vm) ∧
  ((∃ k0, s.Since vm k0 ∧ k0 ≤ T.heap.size) ∧ (∃ a1, EW Z a1 EL) ∧ CHr Z EL s.vm s.heap vm T.heap) ∧
  ∃ locs, Stand p l e R (s.setVm vm) m args below meth c T locs cells slots ∧ Fr Z.heap.size locs ∧ Ext Z.heap T.heap
def EndW (p : Program) (e : Env) (below : List Frame) (s : State) (Z : State) (Q : Option Value → Heap → Prop) (cC cS : Nat) (T : State) (g : JFrame) : Prop :=
  ∃ t o, Steps p.tables e below (T.setTop g) t ∧ t.status = .running ∧ Ended t below o ∧ ∃ v L, o = .returned v ∧ (Fr Z.heap.size L ∧ Ext Z.heap t.heap ∧ Q v t.heap) ∧ CHr Z EL s.vm s.heap t.vm t.heap ∧ ReturnedEndW s o t L cC cS
def CtW (l : Launch) (Z : State) (y : MethodName) (bytes : ByteArray) (mL : Nat) (ret : Option FieldType) (rm : Room) (as' : Array Value) (h : Heap) (Q : Option Value → Heap → Prop) : Prop :=
  ∀ ws, MetFree l y (head1 (Jvm.Cond.code y bytes mL ret :: ws) rm) (fun a U => a = as' ∧ Z.Warmed39 U.vm ∧ U.heap = h ∧ CHv Z EL U.vm h) (fun _ _ _ _ _ => True) (fun _ U o U' => ∃ v L, o = .returned v ∧ (Fr Z.heap.size L ∧ Ext Z.heap U'.heap ∧ Q v U'.heap) ∧ CHr Z EL U.vm U.heap U'.vm U'.heap ∧ ReturnedEndW U o U' L rm.cells rm.slots)
theorem Ww.hx (X : Ww l Z R bytes mL ret own nm p e s m args below meth c vm T cells slots) : p.tables.exec = Jvm.exec := X.1.1
theorem Ww.hb (X : Ww l Z R bytes mL ret own nm p e s m args below meth c vm T cells slots) {pc : Nat} {r : Except DecodeError (Instr × Nat)} (h : decode bytes pc = r) : decode c.code pc = r := X.1.2.1 ▸ h
theorem Ww.hown (X : Ww l Z R bytes mL ret own nm p e s m args below meth c vm T cells slots) : vm.findClass own = some m.cls := X.1.2.2.2.2.2.1
theorem Ww.hZ (X : Ww l Z R bytes mL ret own nm p e s m args below meth c vm T cells slots) : Z.Warmed39 vm := X.1.2.2.2.2.2.2.2
theorem Ww.at (X : Ww l Z R bytes mL ret own nm p e s m args below meth c vm T cells slots) : At T m c below := by obtain ⟨-, -, _, X, -⟩ := X; exact X.here
theorem Ww.old (X : Ww l Z R bytes mL ret own nm p e s m args below meth c vm T cells slots) : Ext Z.heap T.heap := by obtain ⟨-, -, _, -, -, X⟩ := X; exact X
theorem Ww.le (X : Ww l Z R bytes mL ret own nm p e s m args below meth c vm T cells slots) : Z.heap.size ≤ T.heap.size := X.old.1
theorem Ww.size (X : Ww l Z R bytes mL ret own nm p e s m args below meth c vm T cells slots) (h : Ls.size = mL) {pc : Nat} {st : List Value} : (mkF m pc Ls st).locals.size = c.maxLocals := h.trans X.1.2.2.1.symm
theorem Ww.more (X : Ww l Z R bytes mL ret own nm p e s m args below meth c vm T cells slots) {cells' slots' : Nat} (h1 : cells ≤ cells') (h2 : slots ≤ slots') : Ww l Z R bytes mL ret own nm p e s m args below meth c vm T cells' slots' := by
  obtain ⟨q, q2, locs, Y, r⟩ := X; exact ⟨q, q2, locs, Y.more h1 h2, r⟩

theorem Ww.ch (X : Ww l Z R bytes mL ret own nm p e s m args below meth c vm T cells slots) : CHv Z EL vm T.heap := X.2.1.2.2.1
theorem Ww.al (X : Ww l Z R bytes mL ret own nm p e s m args below meth c vm T cells slots) : Z.vm.Alike vm := X.hZ.alike
theorem F_by (f : ∀ target, Steps p.tables e below (T'.setTop g') target → Steps p.tables e below (T.setTop g) target) (k : EndW p e below s Z Q cC cS T' g') : EndW p e below s Z Q cC cS T g := by
  obtain ⟨t, o, h1, r⟩ := k; exact ⟨t, o, f _ h1, r⟩
theorem F_tr (f : Steps p.tables e below (T.setTop g) (T'.setTop g')) (k : EndW p e below s Z Q cC cS T' g') : EndW p e below s Z Q cC cS T g := F_by (fun _ q => f.trans q) k
theorem own_ks {h h' : Heap} (q : h' = h) : Keep h h' [] := q ▸ Keep.refl _ _
/-- the walk goes on: same tables, heap kept but for safe places -/
theorem Ww.go {ws : List Addr} {T' : State} {cells' slots' : Nat} {locs' : List Loc} (X : Ww l Z R bytes mL ret own nm p e s m args below meth c vm T cells slots) (Y : Stand p l e R (s.setVm vm) m args below meth c T' locs' cells' slots') (N : Fr Z.heap.size locs') (K : Keep T.heap T'.heap ws) (hw : ∀ x ∈ ws, Z.heap.size ≤ x) (hs : ∀ x ∈ ws, Safe Z EL vm T.heap x) : Ww l Z R bytes mL ret own nm p e s m args below meth c vm T' cells' slots' := by
  obtain ⟨q0, ⟨⟨k0, hS, hk⟩, hE, hC⟩, locs, Y0, N0, O⟩ := X
  exact ⟨q0, ⟨⟨k0, hS, Nat.le_trans hk K.1⟩, hE, hC.trans (CHr.keep K hs hC.1)⟩, locs', Y, N, Keep.old O K hw⟩
theorem Ww.go2 {ws : List Addr} {T' : State} {cells' slots' : Nat} {locs' : List Loc} (X : Ww l Z R bytes mL ret own nm p e s m args below meth c vm T cells slots) (Y : Stand p l e R (s.setVm vm) m args below meth c T' locs' cells' slots') (N : Fr Z.heap.size locs') (O' : Ext Z.heap T'.heap) (K : Keep T.heap T'.heap ws) (hs : ∀ x ∈ ws, Safe Z EL vm T.heap x) : Ww l Z R bytes mL ret own nm p e s m args below meth c vm T' cells' slots' := by
  obtain ⟨q0, ⟨⟨k0, hS, hk⟩, hE, hC⟩, locs, Y0, N0, O⟩ := X
  exact ⟨q0, ⟨⟨k0, hS, Nat.le_trans hk K.1⟩, hE, hC.trans (CHr.keep K hs hC.1)⟩, locs', Y, N, O'⟩
/-- a String whose array isn't set is no booked one -/
theorem own_safe {h : Heap} {x : Addr} (hal : Z.vm.Alike vm) (E : Exa Z h x "java/lang/String") (F : Fld Z h x "java/lang/String" "value" "[B" .null) (wi : (Jvm.Cond.instantiable "java/lang/String" 4).before a0 Z = true) : Safe Z EL vm h x := fun B => by
  obtain ⟨cell, cf, k, i, f, h1, h2, h3, h4, h5, h6, h7⟩ := F
  obtain ⟨pr, -, u, a, -, q, -, G, rfl | rfl⟩ := B
  · have ha := G.ha
    obtain ⟨cS, ⟨⟨-, -, -, ⟨cv, kv, iv, s4, -⟩, -, -, -, s8, -⟩, -⟩, -⟩ := G
    cases (show h[q.sa]? = some q.sC from ha).symm.trans h1
    obtain ⟨kv', z4⟩ := ff_back (U := Wst Z vm h) hal s4
    have e4 := z4.symm.trans h2
    simp only [Option.some.injEq, Prod.mk.injEq] at e4
    rw [e4.2.2.2, h7] at s8
    cases s8
  · have hd := G.hd
    obtain ⟨cS, ⟨⟨-, -, -, -, -, -, -, -, -, -, ⟨-, kB, hkB, compB, hkindB⟩, -⟩, -, -⟩, -⟩ := G
    obtain ⟨cell2, k2, e1, e2, e3, -⟩ := E
    cases (show h[q.sd]? = some q.SA from hd).symm.trans e1
    obtain ⟨c4, k4, i1, i2, i3, -⟩ := Cond.instantiable_spec wi
    cases e2.symm.trans i1
    obtain ⟨k5, q1, q2⟩ := hal.2.2 _ _ i2
    cases (show vm.classes[q.SA.cls]? = some kB from hkB).symm.trans q1
    rw [q2] at hkindB
    have := i3.symm.trans hkindB
    cases this
theorem CtW.of_body {y1 y2 y3 : String} {rm : Room} {as' : Array Value} {h : Heap} (pn : plainFor ⟨y1, y2, y3⟩ = true) (O : Ext Z.heap h) (hE : EW Z a0 EL) (ef : ∀ m, entryFrame m as' mL = mkF m 0 Ls [])
    (k : ∀ {p : Program} {e : Env} {s : State} {m : MethodId} {below : List Frame} {meth : Method} {c : Code} {T : State}, Ww l Z rm bytes mL ret y1 y2 p e s m as' below meth c s.vm T 0 0 → T.heap = h → EndW p e below s Z Q rm.cells rm.slots T (mkF m 0 Ls [])) : CtW l Z ⟨y1, y2, y3⟩ bytes mL ret rm as' h Q := by
  intro ws
  refine MetFree.of_bodySF pn hisR ?_
  intro p e s m args below meth c s₁ Bd hml0 hP hK
  obtain ⟨rfl, hZ, hh, hC⟩ := hP
  have e0 : s₁.heap = h := by rw [← hh, Bd.state]; rfl
  have X : Ww l Z rm bytes mL ret y1 y2 p e s m args below meth c s.vm s₁ 0 0 := ⟨⟨Bd.exec, Bd.bytes, hml0, Bd.returns, Bd.notSynchronized, findClass_of_methodNamed Bd.named, (name_of_methodNamed Bd.named Bd.method).1, hZ⟩, ⟨⟨0, (State.WarmedH.refl s).since 0, Nat.zero_le _⟩, ⟨_, hE⟩, by rw [hh, e0]; exact CHr.refl hC⟩, [], by rw [State.setVm_self]; exact Stand.of_body Bd, Fr.nil _, e0 ▸ O⟩
  obtain ⟨t, o, h1, r⟩ := k X e0
  exact ⟨t, o, castTop (ef m) h1, r⟩
theorem CtW.back {y : MethodName} {rm : Room} {as' : Array Value} {h : Heap} {mL' : Nat} {bytes' : ByteArray} {ret' : Option FieldType} {Q' : Option Value → Heap → Prop} (hC : CtW l Z y bytes' mL' ret' rm as' h Q') {len W : Nat}
    (hZ : Z.Warmed39 vm) (wc : (Jvm.Cond.code y bytes' mL' ret').before a0 Z = true) (wz : (Jvm.Cond.initialized y.cls).before a0 Z = true) (hf : rm.frames + 1 ≤ R.frames) (hl : W + (mL' + 11) + rm.locals ≤ R.locals) {a1 : Array Value} (hE : EW Z a1 EL) (H : CHv Z EL vm h) :
    BackS l R p e below (s.setVm vm) args y len W (fun A aa => aa = as' ∧ A.U.heap = h ∧ A.cells + rm.cells ≤ R.cells ∧ A.slots + rm.slots ≤ R.slots)
      (fun A _ v B => ∃ L, (Fr Z.heap.size L ∧ Ext Z.heap B.U.heap ∧ Q' v B.U.heap) ∧ B.locs = A.locs ++ L ∧ B.cells = A.cells + rm.cells ∧ B.slots = A.slots + rm.slots ∧ CHr Z EL vm h B.U.vm B.U.heap) :=
  backOfSH (Q := fun v h L => Fr Z.heap.size L ∧ Ext Z.heap h ∧ Q' v h) (hC []) hZ wc wz hf hl hE H

theorem F_aloadN (X : Ww l Z R bytes mL ret own nm p e s m args below meth c vm T cells slots) {j : Fin 4} {v : Value} (hd : decode bytes pc = .ok (.aload_n j, 1)) (hl : Ls[j.val]? = some (.val v)) (hv : v.isRef = true) {pc' : Nat} (hp : pc + 1 = pc') (k : EndW p e below s Z Q cC cS T (mkF m pc' Ls (v :: st))) : EndW p e below s Z Q cC cS T (mkF m pc Ls (st)) := by
  subst hp; exact F_by (fun _ q => XS.aloadN X.at X.hx rfl (X.hb hd) hl hv q) k
theorem F_aload (X : Ww l Z R bytes mL ret own nm p e s m args below meth c vm T cells slots) {j : Nat} {v : Value} (hd : decode bytes pc = .ok (.aload j, 2)) (hl : Ls[j]? = some (.val v)) (hv : v.isRef = true) {pc' : Nat} (hp : pc + 2 = pc') (k : EndW p e below s Z Q cC cS T (mkF m pc' Ls (v :: st))) : EndW p e below s Z Q cC cS T (mkF m pc Ls (st)) := by
  subst hp; exact F_by (fun _ q => XS.aload X.at X.hx rfl (X.hb hd) hl hv q) k
theorem F_iloadN (X : Ww l Z R bytes mL ret own nm p e s m args below meth c vm T cells slots) {j : Fin 4} {v : Int32} (hd : decode bytes pc = .ok (.iload_n j, 1)) (hl : Ls[j.val]? = some (.val (.int v))) {pc' : Nat} (hp : pc + 1 = pc') (k : EndW p e below s Z Q cC cS T (mkF m pc' Ls (.int v :: st))) : EndW p e below s Z Q cC cS T (mkF m pc Ls (st)) := by
  subst hp; exact F_by (fun _ q => XS.iloadN X.at X.hx rfl (X.hb hd) hl q) k
theorem F_iload (X : Ww l Z R bytes mL ret own nm p e s m args below meth c vm T cells slots) {j : Nat} {v : Int32} (hd : decode bytes pc = .ok (.iload j, 2)) (hl : Ls[j]? = some (.val (.int v))) {pc' : Nat} (hp : pc + 2 = pc') (k : EndW p e below s Z Q cC cS T (mkF m pc' Ls (.int v :: st))) : EndW p e below s Z Q cC cS T (mkF m pc Ls (st)) := by
  subst hp; exact F_by (fun _ q => XS.iload X.at X.hx rfl (X.hb hd) hl q) k
theorem F_aconstNull (X : Ww l Z R bytes mL ret own nm p e s m args below meth c vm T cells slots) (hd : decode bytes pc = .ok (.aconst_null, 1)) {pc' : Nat} (hp : pc + 1 = pc') (k : EndW p e below s Z Q cC cS T (mkF m pc' Ls (.null :: st))) : EndW p e below s Z Q cC cS T (mkF m pc Ls (st)) := by
  subst hp; exact F_by (fun _ q => XS.aconstNull X.at X.hx rfl (X.hb hd) q) k
theorem F_iconst (X : Ww l Z R bytes mL ret own nm p e s m args below meth c vm T cells slots) {i : Int} {v : Int32} (hd : decode bytes pc = .ok (.iconst i, 1)) (hv : Int32.ofInt i = v) {pc' : Nat} (hp : pc + 1 = pc') (k : EndW p e below s Z Q cC cS T (mkF m pc' Ls (.int v :: st))) : EndW p e below s Z Q cC cS T (mkF m pc Ls st) := by
  subst hp hv; exact F_by (fun _ q => XS.iconst X.at X.hx rfl (X.hb hd) q) k
theorem F_bipush (X : Ww l Z R bytes mL ret own nm p e s m args below meth c vm T cells slots) {i : Int} {v : Int32} (hd : decode bytes pc = .ok (.bipush i, 2)) (hv : (Int8.ofInt i).toInt32 = v) {pc' : Nat} (hp : pc + 2 = pc') (k : EndW p e below s Z Q cC cS T (mkF m pc' Ls (.int v :: st))) : EndW p e below s Z Q cC cS T (mkF m pc Ls st) := by
  subst hp hv; exact F_by (fun _ q => XS.bipush X.at X.hx rfl (X.hb hd) q) k
theorem F_sipush (X : Ww l Z R bytes mL ret own nm p e s m args below meth c vm T cells slots) {i : Int} {v : Int32} (hd : decode bytes pc = .ok (.sipush i, 3)) (hv : (Int16.ofInt i).toInt32 = v) {pc' : Nat} (hp : pc + 3 = pc') (k : EndW p e below s Z Q cC cS T (mkF m pc' Ls (.int v :: st))) : EndW p e below s Z Q cC cS T (mkF m pc Ls st) := by
  subst hp hv; exact F_by (fun _ q => XS.sipush X.at X.hx rfl (X.hb hd) q) k
theorem F_iadd (X : Ww l Z R bytes mL ret own nm p e s m args below meth c vm T cells slots) {x y v : Int32} (hd : decode bytes pc = .ok (.iadd, 1)) (hv : x + y = v) {pc' : Nat} (hp : pc + 1 = pc') (k : EndW p e below s Z Q cC cS T (mkF m pc' Ls (.int v :: st))) : EndW p e below s Z Q cC cS T (mkF m pc Ls (.int y :: .int x :: st)) := by
  subst hp hv; exact F_by (fun _ q => XS.iadd X.at X.hx rfl (X.hb hd) rfl q) k
theorem F_isub (X : Ww l Z R bytes mL ret own nm p e s m args below meth c vm T cells slots) {x y v : Int32} (hd : decode bytes pc = .ok (.isub, 1)) (hv : x - y = v) {pc' : Nat} (hp : pc + 1 = pc') (k : EndW p e below s Z Q cC cS T (mkF m pc' Ls (.int v :: st))) : EndW p e below s Z Q cC cS T (mkF m pc Ls (.int y :: .int x :: st)) := by
  subst hp hv; exact F_by (fun _ q => XS.isub X.at X.hx rfl (X.hb hd) rfl q) k
theorem F_imul (X : Ww l Z R bytes mL ret own nm p e s m args below meth c vm T cells slots) {x y v : Int32} (hd : decode bytes pc = .ok (.imul, 1)) (hv : x * y = v) {pc' : Nat} (hp : pc + 1 = pc') (k : EndW p e below s Z Q cC cS T (mkF m pc' Ls (.int v :: st))) : EndW p e below s Z Q cC cS T (mkF m pc Ls (.int y :: .int x :: st)) := by
  subst hp hv; exact F_by (fun _ q => XS.imul X.at X.hx rfl (X.hb hd) rfl q) k
theorem F_iand (X : Ww l Z R bytes mL ret own nm p e s m args below meth c vm T cells slots) {x y v : Int32} (hd : decode bytes pc = .ok (.iand, 1)) (hv : x &&& y = v) {pc' : Nat} (hp : pc + 1 = pc') (k : EndW p e below s Z Q cC cS T (mkF m pc' Ls (.int v :: st))) : EndW p e below s Z Q cC cS T (mkF m pc Ls (.int y :: .int x :: st)) := by
  subst hp hv; exact F_by (fun _ q => XS.iand X.at X.hx rfl (X.hb hd) rfl q) k
theorem F_ior (X : Ww l Z R bytes mL ret own nm p e s m args below meth c vm T cells slots) {x y v : Int32} (hd : decode bytes pc = .ok (.ior, 1)) (hv : x ||| y = v) {pc' : Nat} (hp : pc + 1 = pc') (k : EndW p e below s Z Q cC cS T (mkF m pc' Ls (.int v :: st))) : EndW p e below s Z Q cC cS T (mkF m pc Ls (.int y :: .int x :: st)) := by
  subst hp hv; exact F_by (fun _ q => XS.ior X.at X.hx rfl (X.hb hd) rfl q) k
theorem F_ixor (X : Ww l Z R bytes mL ret own nm p e s m args below meth c vm T cells slots) {x y v : Int32} (hd : decode bytes pc = .ok (.ixor, 1)) (hv : x ^^^ y = v) {pc' : Nat} (hp : pc + 1 = pc') (k : EndW p e below s Z Q cC cS T (mkF m pc' Ls (.int v :: st))) : EndW p e below s Z Q cC cS T (mkF m pc Ls (.int y :: .int x :: st)) := by
  subst hp hv; exact F_by (fun _ q => XS.ixor X.at X.hx rfl (X.hb hd) rfl q) k
theorem F_ishl (X : Ww l Z R bytes mL ret own nm p e s m args below meth c vm T cells slots) {x y v : Int32} (hd : decode bytes pc = .ok (.ishl, 1)) (hv : x <<< (y &&& 31) = v) {pc' : Nat} (hp : pc + 1 = pc') (k : EndW p e below s Z Q cC cS T (mkF m pc' Ls (.int v :: st))) : EndW p e below s Z Q cC cS T (mkF m pc Ls (.int y :: .int x :: st)) := by
  subst hp hv; exact F_by (fun _ q => XS.ishl X.at X.hx rfl (X.hb hd) rfl q) k
theorem F_ishr (X : Ww l Z R bytes mL ret own nm p e s m args below meth c vm T cells slots) {x y v : Int32} (hd : decode bytes pc = .ok (.ishr, 1)) (hv : x >>> (y &&& 31) = v) {pc' : Nat} (hp : pc + 1 = pc') (k : EndW p e below s Z Q cC cS T (mkF m pc' Ls (.int v :: st))) : EndW p e below s Z Q cC cS T (mkF m pc Ls (.int y :: .int x :: st)) := by
  subst hp hv; exact F_by (fun _ q => XS.ishr X.at X.hx rfl (X.hb hd) rfl q) k
theorem F_iushr (X : Ww l Z R bytes mL ret own nm p e s m args below meth c vm T cells slots) {x y v : Int32} (hd : decode bytes pc = .ok (.iushr, 1)) (hv : (x.toUInt32 >>> (y &&& 31).toUInt32).toInt32 = v) {pc' : Nat} (hp : pc + 1 = pc') (k : EndW p e below s Z Q cC cS T (mkF m pc' Ls (.int v :: st))) : EndW p e below s Z Q cC cS T (mkF m pc Ls (.int y :: .int x :: st)) := by
  subst hp hv; exact F_by (fun _ q => XS.iushr X.at X.hx rfl (X.hb hd) rfl q) k
theorem F_ineg (X : Ww l Z R bytes mL ret own nm p e s m args below meth c vm T cells slots) {x v : Int32} (hd : decode bytes pc = .ok (.ineg, 1)) (hv : -x = v) {pc' : Nat} (hp : pc + 1 = pc') (k : EndW p e below s Z Q cC cS T (mkF m pc' Ls (.int v :: st))) : EndW p e below s Z Q cC cS T (mkF m pc Ls (.int x :: st)) := by
  subst hp hv; exact F_by (fun _ q => XS.ineg X.at X.hx rfl (X.hb hd) rfl q) k
theorem F_i2c (X : Ww l Z R bytes mL ret own nm p e s m args below meth c vm T cells slots) {x v : Int32} (hd : decode bytes pc = .ok (.i2c, 1)) (hv : x.toUInt32.toUInt16.toUInt32.toInt32 = v) {pc' : Nat} (hp : pc + 1 = pc') (k : EndW p e below s Z Q cC cS T (mkF m pc' Ls (.int v :: st))) : EndW p e below s Z Q cC cS T (mkF m pc Ls (.int x :: st)) := by
  subst hp hv; exact F_by (fun _ q => XS.i2c X.at X.hx rfl (X.hb hd) rfl q) k
theorem F_i2b (X : Ww l Z R bytes mL ret own nm p e s m args below meth c vm T cells slots) {x v : Int32} (hd : decode bytes pc = .ok (.i2b, 1)) (hv : x.toInt8.toInt32 = v) {pc' : Nat} (hp : pc + 1 = pc') (k : EndW p e below s Z Q cC cS T (mkF m pc' Ls (.int v :: st))) : EndW p e below s Z Q cC cS T (mkF m pc Ls (.int x :: st)) := by
  subst hp hv; exact F_by (fun _ q => XS.i2b X.at X.hx rfl (X.hb hd) rfl q) k
theorem F_i2s (X : Ww l Z R bytes mL ret own nm p e s m args below meth c vm T cells slots) {x v : Int32} (hd : decode bytes pc = .ok (.i2s, 1)) (hv : x.toInt16.toInt32 = v) {pc' : Nat} (hp : pc + 1 = pc') (k : EndW p e below s Z Q cC cS T (mkF m pc' Ls (.int v :: st))) : EndW p e below s Z Q cC cS T (mkF m pc Ls (.int x :: st)) := by
  subst hp hv; exact F_by (fun _ q => XS.i2s X.at X.hx rfl (X.hb hd) rfl q) k
theorem F_dup (X : Ww l Z R bytes mL ret own nm p e s m args below meth c vm T cells slots) {v : Value} (hd : decode bytes pc = .ok (.dup, 1)) (hc : v.category = 1) {pc' : Nat} (hp : pc + 1 = pc') (k : EndW p e below s Z Q cC cS T (mkF m pc' Ls (v :: v :: st))) : EndW p e below s Z Q cC cS T (mkF m pc Ls (v :: st)) := by
  subst hp; exact F_by (fun _ q => XS.dup X.at X.hx rfl (X.hb hd) rfl hc q) k
theorem F_pop (X : Ww l Z R bytes mL ret own nm p e s m args below meth c vm T cells slots) {v : Value} (hd : decode bytes pc = .ok (.pop, 1)) (hc : v.category = 1) {pc' : Nat} (hp : pc + 1 = pc') (k : EndW p e below s Z Q cC cS T (mkF m pc' Ls (st))) : EndW p e below s Z Q cC cS T (mkF m pc Ls (v :: st)) := by
  subst hp; exact F_by (fun _ q => XS.pop X.at X.hx rfl (X.hb hd) rfl hc q) k
theorem F_istoreN (X : Ww l Z R bytes mL ret own nm p e s m args below meth c vm T cells slots) {j : Fin 4} {x : Int32} (hd : decode bytes pc = .ok (.istore_n j, 1)) {l' : Array Slot} (hl : storeLocals Ls j.val (.int x) = some l') {pc' : Nat} (hp : pc + 1 = pc') (k : EndW p e below s Z Q cC cS T (mkF m pc' l' (st))) : EndW p e below s Z Q cC cS T (mkF m pc Ls (.int x :: st)) := by
  subst hp; exact F_by (fun _ q => XS.istoreN X.at X.hx rfl (X.hb hd) rfl hl q) k
theorem F_istore (X : Ww l Z R bytes mL ret own nm p e s m args below meth c vm T cells slots) {j : Nat} {x : Int32} (hd : decode bytes pc = .ok (.istore j, 2)) {l' : Array Slot} (hl : storeLocals Ls j (.int x) = some l') {pc' : Nat} (hp : pc + 2 = pc') (k : EndW p e below s Z Q cC cS T (mkF m pc' l' (st))) : EndW p e below s Z Q cC cS T (mkF m pc Ls (.int x :: st)) := by
  subst hp; exact F_by (fun _ q => XS.istore X.at X.hx rfl (X.hb hd) rfl hl q) k
theorem F_astoreN (X : Ww l Z R bytes mL ret own nm p e s m args below meth c vm T cells slots) {j : Fin 4} {x : Value} (hd : decode bytes pc = .ok (.astore_n j, 1)) (hv : x.isRef = true) {l' : Array Slot} (hl : storeLocals Ls j.val x = some l') {pc' : Nat} (hp : pc + 1 = pc') (k : EndW p e below s Z Q cC cS T (mkF m pc' l' (st))) : EndW p e below s Z Q cC cS T (mkF m pc Ls (x :: st)) := by
  subst hp; exact F_by (fun _ q => XS.astoreN X.at X.hx rfl (X.hb hd) rfl hv hl q) k
theorem F_astore (X : Ww l Z R bytes mL ret own nm p e s m args below meth c vm T cells slots) {j : Nat} {x : Value} (hd : decode bytes pc = .ok (.astore j, 2)) (hv : x.isRef = true) {l' : Array Slot} (hl : storeLocals Ls j x = some l') {pc' : Nat} (hp : pc + 2 = pc') (k : EndW p e below s Z Q cC cS T (mkF m pc' l' (st))) : EndW p e below s Z Q cC cS T (mkF m pc Ls (x :: st)) := by
  subst hp; exact F_by (fun _ q => XS.astore X.at X.hx rfl (X.hb hd) rfl hv hl q) k
theorem F_iinc (X : Ww l Z R bytes mL ret own nm p e s m args below meth c vm T cells slots) {j : Nat} {i : Int} {x y : Int32} (hd : decode bytes pc = .ok (.iinc j i, 3)) (hy : x + Int32.ofInt i = y) (hl : Ls[j]? = some (.val (.int x))) {l' : Array Slot} (hl' : storeLocals Ls j (.int y) = some l') {pc' : Nat} (hp : pc + 3 = pc') (k : EndW p e below s Z Q cC cS T (mkF m pc' l' st)) : EndW p e below s Z Q cC cS T (mkF m pc Ls st) := by
  subst hp hy; exact F_by (fun _ q => XS.iinc X.at X.hx rfl (X.hb hd) hl hl' q) k
theorem F_irem (X : Ww l Z R bytes mL ret own nm p e s m args below meth c vm T cells slots) {x y v : Int32} (hd : decode bytes pc = .ok (.irem, 1)) (hy : y ≠ 0) (hv : x % y = v) {pc' : Nat} (hp : pc + 1 = pc') (k : EndW p e below s Z Q cC cS T (mkF m pc' Ls (.int v :: st))) : EndW p e below s Z Q cC cS T (mkF m pc Ls (.int y :: .int x :: st)) := by
  subst hp hv; obtain ⟨q, q2, locs, Y, r⟩ := id X; exact F_by (fun _ k => iremM Y X.hx rfl (X.hb hd) rfl hy k) k
theorem F_idiv (X : Ww l Z R bytes mL ret own nm p e s m args below meth c vm T cells slots) {x y v : Int32} (hd : decode bytes pc = .ok (.idiv, 1)) (hy : y ≠ 0) (hv : x / y = v) {pc' : Nat} (hp : pc + 1 = pc') (k : EndW p e below s Z Q cC cS T (mkF m pc' Ls (.int v :: st))) : EndW p e below s Z Q cC cS T (mkF m pc Ls (.int y :: .int x :: st)) := by
  subst hp hv; exact F_by (fun _ k => XS.idiv X.at X.hx rfl (X.hb hd) rfl hy k) k
theorem F_goto (X : Ww l Z R bytes mL ret own nm p e s m args below meth c vm T cells slots) {o : Int} (hd : decode bytes pc = .ok (.goto o, 3)) {pc' : Nat} (ho : 0 ≤ (pc : Int) + o) (hp : ((pc : Int) + o).toNat = pc') (k : EndW p e below s Z Q cC cS T (mkF m pc' Ls st)) : EndW p e below s Z Q cC cS T (mkF m pc Ls st) :=
  F_by (fun _ q => XS.goto X.at X.hx rfl (pc0 := pc) rfl (X.hb hd) ho hp q) k
theorem F_ifT (X : Ww l Z R bytes mL ret own nm p e s m args below meth c vm T cells slots) {cd : ClassFile.Cond} {o : Int} {x : Int32} (hd : decode bytes pc = .ok (.ifCond cd o, 3)) (hc : ifCond.holds cd x = true) {pc' : Nat} (ho : 0 ≤ (pc : Int) + o) (hp : ((pc : Int) + o).toNat = pc') (k : EndW p e below s Z Q cC cS T (mkF m pc' Ls st)) : EndW p e below s Z Q cC cS T (mkF m pc Ls (.int x :: st)) :=
  F_by (fun _ q => XS.ifYes X.at X.hx rfl (pc0 := pc) rfl (X.hb hd) rfl hc ho hp q) k
theorem F_ifF (X : Ww l Z R bytes mL ret own nm p e s m args below meth c vm T cells slots) {cd : ClassFile.Cond} {o : Int} {x : Int32} (hd : decode bytes pc = .ok (.ifCond cd o, 3)) (hc : ifCond.holds cd x = false) {pc' : Nat} (hp : pc + 3 = pc') (k : EndW p e below s Z Q cC cS T (mkF m pc' Ls st)) : EndW p e below s Z Q cC cS T (mkF m pc Ls (.int x :: st)) := by
  subst hp; exact F_by (fun _ q => XS.ifNo X.at X.hx rfl (X.hb hd) rfl hc q) k
theorem F_icT (X : Ww l Z R bytes mL ret own nm p e s m args below meth c vm T cells slots) {cd : ClassFile.Cond} {o : Int} {x y : Int32} (hd : decode bytes pc = .ok (.if_icmp cd o, 3)) (hc : if_icmp.holds cd x y = true) {pc' : Nat} (ho : 0 ≤ (pc : Int) + o) (hp : ((pc : Int) + o).toNat = pc') (k : EndW p e below s Z Q cC cS T (mkF m pc' Ls st)) : EndW p e below s Z Q cC cS T (mkF m pc Ls (.int y :: .int x :: st)) :=
  F_by (fun _ q => XS.icmpYes X.at X.hx rfl (pc0 := pc) rfl (X.hb hd) rfl hc ho hp q) k
theorem F_icF (X : Ww l Z R bytes mL ret own nm p e s m args below meth c vm T cells slots) {cd : ClassFile.Cond} {o : Int} {x y : Int32} (hd : decode bytes pc = .ok (.if_icmp cd o, 3)) (hc : if_icmp.holds cd x y = false) {pc' : Nat} (hp : pc + 3 = pc') (k : EndW p e below s Z Q cC cS T (mkF m pc' Ls st)) : EndW p e below s Z Q cC cS T (mkF m pc Ls (.int y :: .int x :: st)) := by
  subst hp; exact F_by (fun _ q => XS.icmpNo X.at X.hx rfl (X.hb hd) rfl hc q) k
theorem F_nullT (X : Ww l Z R bytes mL ret own nm p e s m args below meth c vm T cells slots) {o : Int} (hd : decode bytes pc = .ok (.ifnull o, 3)) {pc' : Nat} (ho : 0 ≤ (pc : Int) + o) (hp : ((pc : Int) + o).toNat = pc') (k : EndW p e below s Z Q cC cS T (mkF m pc' Ls st)) : EndW p e below s Z Q cC cS T (mkF m pc Ls (.null :: st)) :=
  F_by (fun _ q => XS.ifnullYes X.at X.hx rfl (pc0 := pc) rfl (X.hb hd) rfl ho hp q) k
theorem F_nullF (X : Ww l Z R bytes mL ret own nm p e s m args below meth c vm T cells slots) {o : Int} {b : Addr} (hd : decode bytes pc = .ok (.ifnull o, 3)) {pc' : Nat} (hp : pc + 3 = pc') (k : EndW p e below s Z Q cC cS T (mkF m pc' Ls st)) : EndW p e below s Z Q cC cS T (mkF m pc Ls (.ref b :: st)) := by
  subst hp; exact F_by (fun _ q => XS.ifnullNo X.at X.hx rfl (X.hb hd) rfl q) k
theorem F_nonnullT (X : Ww l Z R bytes mL ret own nm p e s m args below meth c vm T cells slots) {o : Int} {b : Addr} (hd : decode bytes pc = .ok (.ifnonnull o, 3)) {pc' : Nat} (ho : 0 ≤ (pc : Int) + o) (hp : ((pc : Int) + o).toNat = pc') (k : EndW p e below s Z Q cC cS T (mkF m pc' Ls st)) : EndW p e below s Z Q cC cS T (mkF m pc Ls (.ref b :: st)) :=
  F_by (fun _ q => XT.nonnullYes X.at X.hx rfl (pc0 := pc) rfl (X.hb hd) rfl rfl (fun q => nomatch q) ho hp q) k
theorem F_nonnullF (X : Ww l Z R bytes mL ret own nm p e s m args below meth c vm T cells slots) {o : Int} (hd : decode bytes pc = .ok (.ifnonnull o, 3)) {pc' : Nat} (hp : pc + 3 = pc') (k : EndW p e below s Z Q cC cS T (mkF m pc' Ls st)) : EndW p e below s Z Q cC cS T (mkF m pc Ls (.null :: st)) := by
  subst hp; exact F_by (fun _ q => XT.nonnullNo X.at X.hx rfl (X.hb hd) rfl rfl q) k
theorem F_acmp (X : Ww l Z R bytes mL ret own nm p e s m args below meth c vm T cells slots) {cd : ACond} {o : Int} {x y : Value} (hd : decode bytes pc = .ok (.if_acmp cd o, 3)) (h1 : x.isRef = true) (h2 : y.isRef = true) (same : Bool) (hq : decide (x = y) = same) {pc' : Nat} (ho : 0 ≤ (pc : Int) + o) (hp : pc' = if acV cd same = true then ((pc : Int) + o).toNat else pc + 3) (k : EndW p e below s Z Q cC cS T (mkF m pc' Ls st)) : EndW p e below s Z Q cC cS T (mkF m pc Ls (y :: x :: st)) := by
  obtain ⟨_, _, locs, Y, r⟩ := id X; exact F_by (fun _ q => acmp Y X.hx rfl h1 h2 (pc0 := pc) rfl (X.hb hd) rfl hq ho hp q) k
theorem F_ldcI (X : Ww l Z R bytes mL ret own nm p e s m args below meth c vm T cells slots) {ix : Nat} {v : Int32} (hd : decode bytes pc = .ok (.ldc ix, 2)) (w : (Jvm.Cond.constant own ix v).before a0 Z = true) {pc' : Nat} (hp : pc + 2 = pc') (k : EndW p e below s Z Q cC cS T (mkF m pc' Ls (.int v :: st))) : EndW p e below s Z Q cC cS T (mkF m pc Ls st) := by
  subst hp; obtain ⟨_, _, locs, Y, r⟩ := id X; exact F_by (fun _ q => Y.ldcI X.hx X.hown (mvT X.hZ w) rfl (X.hb hd) q) k

theorem F_new (X : Ww l Z R bytes mL ret own nm p e s m args below meth c vm T cells slots) {C : String} {ix n : Nat} (hd : decode bytes pc = .ok (.new ix, 3)) (w1 : (Jvm.Cond.classLink own ix C).before a0 Z = true) (w2 : (Jvm.Cond.instantiable C n).before a0 Z = true) (w3 : (Jvm.Cond.initialized C).before a0 Z = true) (hc : cells + 1 ≤ R.cells) (hs : slots + n ≤ R.slots) {pc' : Nat} (hp : pc + 3 = pc')
    (k : ∀ (T' : State) (b : Addr), Ww l Z R bytes mL ret own nm p e s m args below meth c vm T' (cells + 1) (slots + n) → b = T.heap.size → Keep T.heap T'.heap [] → Exa Z T'.heap b C → (∀ {O nm d : String} {ty : FieldType}, Laid Z a0 C O nm d → parseFieldDescriptor d = some ty → Fld Z T'.heap b O nm d (defaultValue ty)) → EndW p e below s Z Q cC cS T' (mkF m pc' Ls (.ref b :: st))) : EndW p e below s Z Q cC cS T (mkF m pc Ls st) := by
  subst hp; obtain ⟨q0, qq, locs, Y, N, O⟩ := id X
  obtain ⟨T', h', Y', rfl, E, A, D, -, stp⟩ := newO Y X.hx X.hZ X.hown w1 w2 w3 rfl (g := mkF m pc Ls st) rfl (X.hb hd) hc hs
  exact F_by stp (k T' _ (X.go Y' N (Keep.of_ext E) all0 sf0) rfl (Keep.of_ext E) A D)
theorem F_newarray (X : Ww l Z R bytes mL ret own nm p e s m args below meth c vm T cells slots) {aty : ArrayType} {n : Int32} (cap : Nat) (hd : decode bytes pc = .ok (.newarray aty, 2)) (w : (Jvm.Cond.arrayClass (newarray.typeOf aty)).before a0 Z = true) (hn : ¬ n < 0) (hcap : n.toNatClampNeg ≤ cap) (hb : cap * 8 ≤ 536870912) (hc : cells + 1 ≤ R.cells) (hs : slots + cap ≤ R.slots) {pc' : Nat} (hp : pc + 2 = pc')
    (k : ∀ (T' : State) (b : Addr) (kA : ClassId), Ww l Z R bytes mL ret own nm p e s m args below meth c vm T' (cells + 1) (slots + cap) → b = T.heap.size → Keep T.heap T'.heap [] → Arv Z T'.heap b kA (newarray.typeOf aty) n [] (defaultValue (newarray.typeOf aty)) → EndW p e below s Z Q cC cS T' (mkF m pc' Ls (.ref b :: st))) : EndW p e below s Z Q cC cS T (mkF m pc Ls (.int n :: st)) := by
  subst hp; obtain ⟨q0, qq, locs, Y, N, O⟩ := id X
  obtain ⟨T', h', kA, Y', rfl, E, A, stp⟩ := newP Y X.hx X.hZ w rfl (g := mkF m pc Ls (.int n :: st)) rfl (X.hb hd) rfl hn hcap hb hc hs
  exact F_by stp (k T' _ kA (X.go Y' N (Keep.of_ext E) all0 sf0) rfl (Keep.of_ext E) (Arv.new A hn))
theorem F_iastore (X : Ww l Z R bytes mL ret own nm p e s m args below meth c vm T cells slots) {a : Addr} {kA : ClassId} {z j x : Int32} {vs : List Value} {dv : Value} {y : Int32} (i : Nat) (hd : decode bytes pc = .ok (.iastore, 1)) (hy : x = y) (V : Arv Z T.heap a kA .int z vs dv) (hj : ¬ j < 0 ∧ j < z) (hi : j.toNatClampNeg = i) (hl : i < vs.length) (ha : Z.heap.size ≤ a) {pc' : Nat} (hp : pc + 1 = pc')
    (k : ∀ (T' : State), Ww l Z R bytes mL ret own nm p e s m args below meth c vm T' cells slots → Keep T.heap T'.heap [a] → Arv Z T'.heap a kA .int z (vs.set i (.int y)) dv → EndW p e below s Z Q cC cS T' (mkF m pc' Ls st)) : EndW p e below s Z Q cC cS T (mkF m pc Ls (.int x :: .int j :: .ref a :: st)) := by
  subst hp hy; obtain ⟨q0, qq, locs, Y, N, O⟩ := id X
  obtain ⟨cl, A, q1, S1, N1, H1, G1⟩ := V
  obtain ⟨T', h', Y', rfl, W, stp⟩ := stI Y X.hx X.hZ rfl A (j := j) (x := x) (inb_of S1 hj) (g := mkF m pc Ls (.int x :: .int j :: .ref a :: st)) rfl rfl (X.hb hd)
  exact F_by stp (k T' (X.go Y' (Fr.snoc Y' N ha) (Keep.of_wr W) (allS ha all0) (sfS (Safe.arr X.al A (by simp)) sf0)) (Keep.of_wr W) (Arv.set A q1 S1 N1 H1 G1 (rfl) W i hi hl))
theorem F_castore (X : Ww l Z R bytes mL ret own nm p e s m args below meth c vm T cells slots) {a : Addr} {kA : ClassId} {z j x : Int32} {vs : List Value} {dv : Value} {y : Int32} (i : Nat) (hd : decode bytes pc = .ok (.castore, 1)) (hy : nar .char x = y) (V : Arv Z T.heap a kA .char z vs dv) (hj : ¬ j < 0 ∧ j < z) (hi : j.toNatClampNeg = i) (hl : i < vs.length) (ha : Z.heap.size ≤ a) {pc' : Nat} (hp : pc + 1 = pc')
    (k : ∀ (T' : State), Ww l Z R bytes mL ret own nm p e s m args below meth c vm T' cells slots → Keep T.heap T'.heap [a] → Arv Z T'.heap a kA .char z (vs.set i (.int y)) dv → EndW p e below s Z Q cC cS T' (mkF m pc' Ls st)) : EndW p e below s Z Q cC cS T (mkF m pc Ls (.int x :: .int j :: .ref a :: st)) := by
  subst hp hy; obtain ⟨q0, qq, locs, Y, N, O⟩ := id X
  obtain ⟨cl, A, q1, S1, N1, H1, G1⟩ := V
  obtain ⟨T', h', Y', rfl, W, stp⟩ := stC Y X.hx X.hZ rfl A (j := j) (x := x) (inb_of S1 hj) (g := mkF m pc Ls (.int x :: .int j :: .ref a :: st)) rfl rfl (X.hb hd)
  exact F_by stp (k T' (X.go Y' (Fr.snoc Y' N ha) (Keep.of_wr W) (allS ha all0) (sfS (Safe.arr X.al A (by simp)) sf0)) (Keep.of_wr W) (Arv.set A q1 S1 N1 H1 G1 (fits_nar_char _) W i hi hl))
theorem F_iastoreA (X : Ww l Z R bytes mL ret own nm p e s m args below meth c vm T cells slots) {a : Addr} {kA : ClassId} {z j x : Int32} {vs : List Value} {dv : Value} {y : Int32} (hd : decode bytes pc = .ok (.iastore, 1)) (hy : x = y) (V : Arv Z T.heap a kA .int z vs dv) (hj : ¬ j < 0 ∧ j < z) (hi : j.toNatClampNeg = vs.length) (ha : Z.heap.size ≤ a) {pc' : Nat} (hp : pc + 1 = pc')
    (k : ∀ (T' : State), Ww l Z R bytes mL ret own nm p e s m args below meth c vm T' cells slots → Keep T.heap T'.heap [a] → Arv Z T'.heap a kA .int z (vs ++ [.int y]) dv → EndW p e below s Z Q cC cS T' (mkF m pc' Ls st)) : EndW p e below s Z Q cC cS T (mkF m pc Ls (.int x :: .int j :: .ref a :: st)) := by
  refine F_iastore X vs.length hd hy (V.pad (pad_rep vs dv 1)) hj hi (by simp) ha hp fun T' X' K' V' => k T' X' K' ?_
  have q : (vs ++ List.replicate 1 dv).set vs.length (.int y) = vs ++ [.int y] := by simp
  rw [q] at V'; exact V'
theorem F_castoreA (X : Ww l Z R bytes mL ret own nm p e s m args below meth c vm T cells slots) {a : Addr} {kA : ClassId} {z j x : Int32} {vs : List Value} {dv : Value} {y : Int32} (hd : decode bytes pc = .ok (.castore, 1)) (hy : nar .char x = y) (V : Arv Z T.heap a kA .char z vs dv) (hj : ¬ j < 0 ∧ j < z) (hi : j.toNatClampNeg = vs.length) (ha : Z.heap.size ≤ a) {pc' : Nat} (hp : pc + 1 = pc')
    (k : ∀ (T' : State), Ww l Z R bytes mL ret own nm p e s m args below meth c vm T' cells slots → Keep T.heap T'.heap [a] → Arv Z T'.heap a kA .char z (vs ++ [.int y]) dv → EndW p e below s Z Q cC cS T' (mkF m pc' Ls st)) : EndW p e below s Z Q cC cS T (mkF m pc Ls (.int x :: .int j :: .ref a :: st)) := by
  refine F_castore X vs.length hd hy (V.pad (pad_rep vs dv 1)) hj hi (by simp) ha hp fun T' X' K' V' => k T' X' K' ?_
  have q : (vs ++ List.replicate 1 dv).set vs.length (.int y) = vs ++ [.int y] := by simp
  rw [q] at V'; exact V'
theorem F_iaload (X : Ww l Z R bytes mL ret own nm p e s m args below meth c vm T cells slots) {a : Addr} {kA : ClassId} {z j : Int32} {vs : List Value} {dv v : Value} (hd : decode bytes pc = .ok (.iaload, 1)) (V : Arv Z T.heap a kA .int z vs dv) (hj : ¬ j < 0 ∧ j < z) (hv : vs.getD j.toNatClampNeg dv = v) {pc' : Nat} (hp : pc + 1 = pc')
    (k : EndW p e below s Z Q cC cS T (mkF m pc' Ls (v :: st))) : EndW p e below s Z Q cC cS T (mkF m pc Ls (.int j :: .ref a :: st)) := by
  subst hp; obtain ⟨q0, qq, locs, Y, N, O⟩ := id X
  obtain ⟨cl, A, q1, S1, N1, H1, G1⟩ := V
  exact F_by (Y.iaload X.hx A.1 (State.isArrayOf_alike X.hZ.alike A.2.1) A.2.2 (inb_of S1 hj) (Has.at H1 (inb_of S1 hj) hv) (g := mkF m pc Ls (.int j :: .ref a :: st)) rfl rfl (X.hb hd)) k
theorem F_caload (X : Ww l Z R bytes mL ret own nm p e s m args below meth c vm T cells slots) {a : Addr} {kA : ClassId} {z j : Int32} {vs : List Value} {dv v : Value} (hd : decode bytes pc = .ok (.caload, 1)) (V : Arv Z T.heap a kA .char z vs dv) (hj : ¬ j < 0 ∧ j < z) (hv : vs.getD j.toNatClampNeg dv = v) {pc' : Nat} (hp : pc + 1 = pc')
    (k : EndW p e below s Z Q cC cS T (mkF m pc' Ls (v :: st))) : EndW p e below s Z Q cC cS T (mkF m pc Ls (.int j :: .ref a :: st)) := by
  subst hp; obtain ⟨q0, qq, locs, Y, N, O⟩ := id X
  obtain ⟨cl, A, q1, S1, N1, H1, G1⟩ := V
  exact F_by (Y.caload X.hx A.1 (State.isArrayOf_alike X.hZ.alike A.2.1) A.2.2 (inb_of S1 hj) (Has.at H1 (inb_of S1 hj) hv) (g := mkF m pc Ls (.int j :: .ref a :: st)) rfl rfl (X.hb hd)) k
theorem F_baload (X : Ww l Z R bytes mL ret own nm p e s m args below meth c vm T cells slots) {a : Addr} {kA : ClassId} {z j : Int32} {vs : List Value} {dv v : Value} (hd : decode bytes pc = .ok (.baload, 1)) (V : Arv Z T.heap a kA .byte z vs dv) (hj : ¬ j < 0 ∧ j < z) (hv : vs.getD j.toNatClampNeg dv = v) {pc' : Nat} (hp : pc + 1 = pc')
    (k : EndW p e below s Z Q cC cS T (mkF m pc' Ls (v :: st))) : EndW p e below s Z Q cC cS T (mkF m pc Ls (.int j :: .ref a :: st)) := by
  subst hp; obtain ⟨q0, qq, locs, Y, N, O⟩ := id X
  obtain ⟨cl, A, q1, S1, N1, H1, G1⟩ := V
  exact F_by (Y.baloadBytes X.hx A.1 (State.isArrayOf_alike X.hZ.alike A.2.1) A.2.2 (inb_of S1 hj) (Has.at H1 (inb_of S1 hj) hv) (g := mkF m pc Ls (.int j :: .ref a :: st)) rfl rfl (X.hb hd)) k
theorem F_aaload (X : Ww l Z R bytes mL ret own nm p e s m args below meth c vm T cells slots) {a : Addr} {kA : ClassId} {z j : Int32} {vs : List Value} {dv v : Value} {ty : FieldType} (hd : decode bytes pc = .ok (.aaload, 1)) (V : Arv Z T.heap a kA ty z vs dv) (hty : ty.isReference = true) (hj : ¬ j < 0 ∧ j < z) (hv : vs.getD j.toNatClampNeg dv = v) {pc' : Nat} (hp : pc + 1 = pc')
    (k : EndW p e below s Z Q cC cS T (mkF m pc' Ls (v :: st))) : EndW p e below s Z Q cC cS T (mkF m pc Ls (.int j :: .ref a :: st)) := by
  subst hp; obtain ⟨q0, qq, locs, Y, N, O⟩ := id X
  obtain ⟨cl, A, q1, S1, N1, H1, G1⟩ := V
  exact F_by (Y.aaload X.hx A.1 (State.isArrayOf_alike X.hZ.alike A.2.1) hty A.2.2 (inb_of S1 hj) (Has.at H1 (inb_of S1 hj) hv) (g := mkF m pc Ls (.int j :: .ref a :: st)) rfl rfl (X.hb hd)) k
theorem F_arraylength (X : Ww l Z R bytes mL ret own nm p e s m args below meth c vm T cells slots) {a : Addr} {kA : ClassId} {z : Int32} {vs : List Value} {dv : Value} {ty : FieldType} (hd : decode bytes pc = .ok (.arraylength, 1)) (V : Arv Z T.heap a kA ty z vs dv) {pc' : Nat} (hp : pc + 1 = pc')
    (k : EndW p e below s Z Q cC cS T (mkF m pc' Ls (.int z :: st))) : EndW p e below s Z Q cC cS T (mkF m pc Ls (.ref a :: st)) := by
  subst hp; obtain ⟨q0, qq, locs, Y, N, O⟩ := id X
  obtain ⟨cl, A, q1, S1, N1, H1, G1⟩ := V
  refine F_by (Y.arraylength X.hx A.1 (State.isArrayOf_alike X.hZ.alike A.2.1) (g := mkF m pc Ls (.ref a :: st)) rfl rfl (X.hb hd)) ?_
  rw [len_of S1 N1]; exact k
theorem F_getfield (X : Ww l Z R bytes mL ret own nm p e s m args below meth c vm T cells slots) {a : Addr} {O n d R0 : String} {ix : Nat} {v : Value} (hd : decode bytes pc = .ok (.getfield ix, 3)) (w : (Jvm.Cond.fieldLink own ix R0 n d).before a0 Z = true) (via : Via Z R0 O n d) (F : Fld Z T.heap a O n d v) {pc' : Nat} (hp : pc + 3 = pc')
    (k : ∀ (T' : State), Ww l Z R bytes mL ret own nm p e s m args below meth c vm T' cells slots → T'.heap = T.heap → EndW p e below s Z Q cC cS T' (mkF m pc' Ls (v :: st))) : EndW p e below s Z Q cC cS T (mkF m pc Ls (.ref a :: st)) := by
  subst hp; obtain ⟨q0, qq, locs, Y, N, Od⟩ := id X
  obtain ⟨T', Y', e1, stp⟩ := getF Y X.hx X.hZ X.hown (host := "") (Or.inl w) via rfl F (g := mkF m pc Ls (.ref a :: st)) rfl rfl (X.hb hd)
  exact F_by stp (k T' (X.go Y' N (own_ks e1) all0 sf0) e1)
theorem F_getstatic (X : Ww l Z R bytes mL ret own nm p e s m args below meth c vm T cells slots) {O n d R0 : String} {ix : Nat} {v : Value} (hd : decode bytes pc = .ok (.getstatic ix, 3)) (w : (Jvm.Cond.fieldLink own ix R0 n d).before a0 Z = true) (via : Via Z R0 O n d) (F : Sta Z Z.heap O n d v) {pc' : Nat} (hp : pc + 3 = pc')
    (k : ∀ (T' : State), Ww l Z R bytes mL ret own nm p e s m args below meth c vm T' cells slots → T'.heap = T.heap → EndW p e below s Z Q cC cS T' (mkF m pc' Ls (v :: st))) : EndW p e below s Z Q cC cS T (mkF m pc Ls st) := by
  subst hp; obtain ⟨q0, qq, locs, Y, N, Od⟩ := id X
  obtain ⟨T', Y', e1, stp⟩ := getS Y X.hx X.hZ (host := "") X.hown w via rfl (F.ext Od) (g := mkF m pc Ls st) rfl (X.hb hd)
  exact F_by stp (k T' (X.go Y' N (own_ks e1) all0 sf0) e1)
theorem F_putfield (X : Ww l Z R bytes mL ret own nm p e s m args below meth c vm T cells slots) {a : Addr} {O n d R0 C : String} {ix kk : Nat} {v old : Value} {ty : FieldType} (hd : decode bytes pc = .ok (.putfield ix, 3)) (w : (Jvm.Cond.fieldLink own ix R0 n d).before a0 Z = true) (via : Via Z R0 O n d) (F : Fld Z T.heap a O n d old) (E : Exa Z T.heap a C) (L : (Jvm.Cond.lays C O n d).before a0 Z = true ∨ ((Jvm.Cond.laysFinal C O n d).before a0 Z = true ∧ own = O ∧ nm = "<init>")) (wi : (Jvm.Cond.instantiable C kk).before a0 Z = true) (hty : parseFieldDescriptor d = some ty) (hn : narrow ty v = v) (hf : fits ty v = true) (ha : Z.heap.size ≤ a) (hsf : Safe Z EL vm T.heap a) {pc' : Nat} (hp : pc + 3 = pc')
    (k : ∀ (T' : State), Ww l Z R bytes mL ret own nm p e s m args below meth c vm T' cells slots → Wr T.heap T'.heap a (Jvm.RoadKit.slotOf Z O n d) v → EndW p e below s Z Q cC cS T' (mkF m pc' Ls st)) : EndW p e below s Z Q cC cS T (mkF m pc Ls (v :: .ref a :: st)) := by
  subst hp; obtain ⟨q0, qq, locs, Y, N, Od⟩ := id X
  obtain ⟨T', h', Y', rfl, W, stp⟩ := putF Y X.hx X.hZ X.hown (host := "") (Or.inl w) via rfl F E (L.imp id fun q => ⟨q.1, q.2.1, q0.2.2.2.2.2.2.1.trans q.2.2⟩) wi hty hn hf (g := mkF m pc Ls (v :: .ref a :: st)) rfl rfl (X.hb hd)
  exact F_by stp (k T' (X.go Y' (Fr.snoc Y' N ha) (Keep.of_wr W) (allS ha all0) (sfS hsf sf0)) W)
theorem F_initO (X : Ww l Z R bytes mL ret own nm p e s m args below meth c vm T cells slots) {a : Addr} {ix : Nat} (hd : decode bytes pc = .ok (.invokespecial ix, 3)) (w1 : (Jvm.Cond.methodLink own ix Lib.objectInit).before a0 Z = true) (w2 : (Jvm.Cond.instanceMethod Lib.objectInit).before a0 Z = true) (w3 : (Jvm.Cond.code Lib.objectInit ⟨#[0xb1]⟩ 1 none).before a0 Z = true) (hsz : Ls.size = mL) (hf : 1 ≤ R.frames) (hl : (st.map fun v => v.category).sum + 12 ≤ R.locals) {pc' : Nat} (hp : pc + 3 = pc')
    (k : ∀ (T' : State), Ww l Z R bytes mL ret own nm p e s m args below meth c vm T' cells slots → T'.heap = T.heap → EndW p e below s Z Q cC cS T' (mkF m pc' Ls st)) : EndW p e below s Z Q cC cS T (mkF m pc Ls (.ref a :: st)) := by
  subst hp; obtain ⟨q0, qq, locs, Y, N, Od⟩ := id X
  obtain ⟨T', Y', e1, stp⟩ := initO Y X.hx X.hZ X.hown w1 w2 w3 rfl (g := mkF m pc Ls (.ref a :: st)) rfl (X.size hsz) rfl (X.hb hd) hf (W := (st.map fun v => v.category).sum) (by show 2 * 0 + _ ≤ _; omega) hl
  exact F_by stp (k T' (X.go Y' N (own_ks e1) all0 sf0) e1)
theorem F_checkcast (X : Ww l Z R bytes mL ret own nm p e s m args below meth c vm T cells slots) {a : Addr} {K : String} {ix : Nat} (hd : decode bytes pc = .ok (.checkcast ix, 3)) (w : (Jvm.Cond.classLink own ix K).before a0 Z = true) (F : Ins Z T.heap a K true) {pc' : Nat} (hp : pc + 3 = pc')
    (k : ∀ (T' : State), Ww l Z R bytes mL ret own nm p e s m args below meth c vm T' cells slots → T'.heap = T.heap → EndW p e below s Z Q cC cS T' (mkF m pc' Ls (.ref a :: st))) : EndW p e below s Z Q cC cS T (mkF m pc Ls (.ref a :: st)) := by
  subst hp; obtain ⟨q0, qq, locs, Y, N, Od⟩ := id X
  obtain ⟨T', Y', e1, stp⟩ := castY Y X.hx X.hZ X.hown w rfl F (g := mkF m pc Ls (.ref a :: st)) rfl rfl (X.hb hd)
  exact F_by stp (k T' (X.go Y' N (own_ks e1) all0 sf0) e1)
theorem F_instY (X : Ww l Z R bytes mL ret own nm p e s m args below meth c vm T cells slots) {a : Addr} {K : String} {ix : Nat} (hd : decode bytes pc = .ok (.instanceof ix, 3)) (w : (Jvm.Cond.classLink own ix K).before a0 Z = true) (F : Ins Z T.heap a K true) {pc' : Nat} (hp : pc + 3 = pc')
    (k : ∀ (T' : State), Ww l Z R bytes mL ret own nm p e s m args below meth c vm T' cells slots → T'.heap = T.heap → EndW p e below s Z Q cC cS T' (mkF m pc' Ls (.int 1 :: st))) : EndW p e below s Z Q cC cS T (mkF m pc Ls (.ref a :: st)) := by
  subst hp; obtain ⟨q0, qq, locs, Y, N, Od⟩ := id X
  obtain ⟨T', Y', e1, stp⟩ := instY Y X.hx X.hZ X.hown w rfl F (g := mkF m pc Ls (.ref a :: st)) rfl rfl (X.hb hd)
  exact F_by stp (k T' (X.go Y' N (own_ks e1) all0 sf0) e1)

theorem F_ldcS (X : Ww l Z R bytes mL ret own nm p e s m args below meth c vm T cells slots) {ix n : Nat} {text : String} {vs : List Value} {z : Int32} (hd : decode bytes pc = .ok (.ldc ix, 2)) (w : (Jvm.Cond.stringLink own ix text).before a0 Z = true) (wS : ∀ a ∈ Bundle.stringAtoms, a.before a0 Z = true) (hE : EW Z a0 EL) (hmem : (own, ix) ∈ EL) (ht : (∀ c ∈ text.toList, c.toNat < 256) ∧ text.toList.map (fun c => Value.int (Jvm.Lit.byteI c.toNat.toUInt16)) = vs) (hz : ¬ z < 0) (hl : z.toNatClampNeg = vs.length) (hn : 4 * text.toList.length ≤ n) (hbig : n ≤ 536870912) (hc : cells + 2 ≤ R.cells) (hs : slots + (n + 4) ≤ R.slots) {pc' : Nat} (hp : pc + 2 = pc')
    (k : ∀ (T' : State) (a b : Addr) (kb : ClassId), Ww l Z R bytes mL ret own nm p e s m args below meth c T'.vm T' (cells + 2) (slots + (n + 4)) → Keep T.heap T'.heap [] → Exa Z T'.heap a "java/lang/String" → Fld Z T'.heap a "java/lang/String" "coder" "B" (.int 0) → Fld Z T'.heap a "java/lang/String" "value" "[B" (.ref b) → Arv Z T'.heap b kb .byte z vs (.int 0) → (∀ x, x < T.heap.size → Safe Z EL vm T.heap x → Safe Z EL T'.vm T'.heap x ∧ x ≠ a ∧ x ≠ b) → EndW p e below s Z Q cC cS T' (mkF m pc' Ls (.ref a :: st))) : EndW p e below s Z Q cC cS T (mkF m pc Ls st) := by
  subst hp; obtain ⟨q0, ⟨⟨k0, hS, hk⟩, hE1, hC⟩, locs, Y, N, O⟩ := id X
  obtain ⟨a, T', h', k1, b, kb, Y', rfl, E, hS', hk', hW', hf', x1, x2, x3, x4, l1, l2, hC', hL, hsf, stp⟩ := ldcCH Y X.hx X.hZ X.hown w wS rfl hS hk hE hmem X.ch ht hz hl (g := mkF m pc Ls st) rfl (X.hb hd) hn hbig hc hs
  refine F_by stp (k T' a b kb ⟨⟨q0.1, q0.2.1, q0.2.2.1, q0.2.2.2.1, q0.2.2.2.2.1, hf', q0.2.2.2.2.2.2.1, hW'⟩, ⟨⟨k1, hS', hk'⟩, hE1, hC.trans hC'⟩, locs, Y', N, Keep.old O (Keep.of_ext E) all0⟩ (Keep.of_ext E) x1 x2 x3 x4 fun x hx hs => ?_)
  have q := hC'.safe hx hs
  exact ⟨q, hsf x q⟩
theorem F_staticB (X : Ww l Z R bytes mL ret own nm p e s m args below meth c vm T cells slots) {y : MethodName} {ix : Nat} {bytes' : ByteArray} {mL' : Nat} {ret' : Option FieldType} {Q' : Option Value → Heap → Prop} {argsL : List Value} {Q2 : Option Value → Heap → List Loc → Prop} {rC rS : Nat} (hd : decode bytes pc = .ok (.invokestatic ix, 3)) (w1 : (Jvm.Cond.methodLink own ix y).before a0 Z = true) (w2 : (Jvm.Cond.static y).before a0 Z = true) (w3 : (Jvm.Cond.initialized y.cls).before a0 Z = true) (w4 : (Jvm.Cond.code y bytes' mL' ret').before a0 Z = true) (hy : y.cls ≠ "java/lang/invoke/MethodHandle" ∧ y.cls ≠ "java/lang/invoke/VarHandle") {st0 : List Value} (hst : st0 = argsL.reverse ++ st) (hK : Back l R p e below (s.setVm vm) args y 3 ((st.map fun v => v.category).sum) (fun A aa => aa = argsL.toArray ∧ A.U.heap = T.heap ∧ A.cells + rC ≤ R.cells ∧ A.slots + rS ≤ R.slots) (fun A _ v B => ∃ L, Q2 v B.U.heap L ∧ B.locs = A.locs ++ L ∧ B.cells = A.cells + rC ∧ B.slots = A.slots + rS)) (hQ2 : ∀ v h L, Q2 v h L → Fr Z.heap.size L ∧ Ext Z.heap h ∧ Q' v h) (hlen : ∀ sig, parseMethodDescriptor y.desc = some sig → argsL.length = sig.parameters.length) (hsz : Ls.size = mL) (hcl : cells + rC ≤ R.cells) (hsl : slots + rS ≤ R.slots) (ws : List Addr) (hkp : ∀ v h, Q' v h → Keep T.heap h ws) (hsf : ∀ x ∈ ws, Safe Z EL vm T.heap x) {pc' : Nat} (hp : pc + 3 = pc')
    (k : ∀ (T' : State) (v : Option Value), Ww l Z R bytes mL ret own nm p e s m args below meth c vm T' (cells + rC) (slots + rS) → Q' v T'.heap → EndW p e below s Z Q cC cS T' (mkF m pc' Ls (v.toList ++ st))) : EndW p e below s Z Q cC cS T (mkF m pc Ls st0) := by
  subst hp hst; obtain ⟨q0, qq, locs, Y, N, Od⟩ := id X
  obtain ⟨v, _, ⟨T', L1, k1, n1⟩, -, Y', ⟨Lc, hQ, l1, y1, z1⟩, stp⟩ := Jvm.LawKit.callS Y X.hx (y := y) X.hown (mvT X.hZ w1) (mvT X.hZ w2) (mvT X.hZ w3) (mvT X.hZ w4) hy hK (g := mkF m pc Ls (argsL.reverse ++ st)) rfl (X.size hsz) (argsL := argsL) (rest := st) hlen rfl (by show 2 * 0 + _ ≤ _; omega) (X.hb hd) (fun _ _ => ⟨rfl, rfl, hcl, hsl⟩)
  dsimp only [Pt.U, Pt.locs, Pt.cells, Pt.slots] at Y' l1 y1 z1 stp hQ
  subst l1 y1 z1
  obtain ⟨f1, f2, f3⟩ := hQ2 _ _ _ hQ
  exact F_by stp (k T' v (X.go2 Y' (Fr.app N f1) f2 (hkp _ _ f3) hsf) f3)

theorem F_static (X : Ww l Z R bytes mL ret own nm p e s m args below meth c vm T cells slots) {y : MethodName} {ix : Nat} {bytes' : ByteArray} {mL' : Nat} {ret' : Option FieldType} {Q' : Option Value → Heap → Prop} {argsL : List Value} {rm : Room} (hd : decode bytes pc = .ok (.invokestatic ix, 3)) (w1 : (Jvm.Cond.methodLink own ix y).before a0 Z = true) (w2 : (Jvm.Cond.static y).before a0 Z = true) (w3 : (Jvm.Cond.initialized y.cls).before a0 Z = true) (w4 : (Jvm.Cond.code y bytes' mL' ret').before a0 Z = true) (hy : y.cls ≠ "java/lang/invoke/MethodHandle" ∧ y.cls ≠ "java/lang/invoke/VarHandle")  {st0 : List Value} (hst : st0 = argsL.reverse ++ st) (hC : Ct l Z y bytes' mL' ret' rm argsL.toArray T.heap Q') (hlen : ∀ sig, parseMethodDescriptor y.desc = some sig → argsL.length = sig.parameters.length) (hsz : Ls.size = mL) (hcl : cells + rm.cells ≤ R.cells) (hsl : slots + rm.slots ≤ R.slots) (hfr : rm.frames + 1 ≤ R.frames) (hlo : (st.map fun v => v.category).sum + (mL' + 11) + rm.locals ≤ R.locals) (ws : List Addr) (hkp : ∀ v h, Q' v h → Keep T.heap h ws) (hsf : ∀ x ∈ ws, Safe Z EL vm T.heap x) {pc' : Nat} (hp : pc + 3 = pc')
    (k : ∀ (T' : State) (v : Option Value), Ww l Z R bytes mL ret own nm p e s m args below meth c vm T' (cells + rm.cells) (slots + rm.slots) → Q' v T'.heap → EndW p e below s Z Q cC cS T' (mkF m pc' Ls (v.toList ++ st))) : EndW p e below s Z Q cC cS T (mkF m pc Ls st0) :=
  F_staticB X hd w1 w2 w3 w4 hy hst (hC.back X.hZ w4 w3 hfr hlo) (fun _ _ _ q => q) hlen hsz hcl hsl ws hkp hsf hp k

theorem G_static (X : Ww l Z R bytes mL ret own nm p e s m args below meth c vm T cells slots) {y : MethodName} {ix : Nat} {bytes' : ByteArray} {mL' : Nat} {ret' : Option FieldType} {Q' : Option Value → Heap → Prop} {argsL : List Value} {rm : Room} (hd : decode bytes pc = .ok (.invokestatic ix, 3)) (w1 : (Jvm.Cond.methodLink own ix y).before a0 Z = true) (w2 : (Jvm.Cond.static y).before a0 Z = true) (w3 : (Jvm.Cond.initialized y.cls).before a0 Z = true) (w4 : (Jvm.Cond.code y bytes' mL' ret').before a0 Z = true) (hy : y.cls ≠ "java/lang/invoke/MethodHandle" ∧ y.cls ≠ "java/lang/invoke/VarHandle")  {st0 : List Value} (hst : st0 = argsL.reverse ++ st) (hC : CtW l Z y bytes' mL' ret' rm argsL.toArray T.heap Q') (hlen : ∀ sig, parseMethodDescriptor y.desc = some sig → argsL.length = sig.parameters.length) (hsz : Ls.size = mL) (hcl : cells + rm.cells ≤ R.cells) (hsl : slots + rm.slots ≤ R.slots) (hfr : rm.frames + 1 ≤ R.frames) (hlo : (st.map fun v => v.category).sum + (mL' + 11) + rm.locals ≤ R.locals) {pc' : Nat} (hp : pc + 3 = pc')
    (k : ∀ (T' : State) (v : Option Value), Ww l Z R bytes mL ret own nm p e s m args below meth c T'.vm T' (cells + rm.cells) (slots + rm.slots) → Q' v T'.heap → (∀ x, x < T.heap.size → Safe Z EL vm T.heap x → Safe Z EL T'.vm T'.heap x) → EndW p e below s Z Q cC cS T' (mkF m pc' Ls (v.toList ++ st))) : EndW p e below s Z Q cC cS T (mkF m pc Ls st0) := by
  subst hp hst; obtain ⟨q0, ⟨⟨k0, hS, hk⟩, ⟨a1, hE1⟩, hC0⟩, locs, Y, N, Od⟩ := id X
  obtain ⟨v, _, ⟨T', L1, k1, n1⟩, -, Y', hS2, hgr, ⟨Lc, hQ, l1, y1, z1, hC1⟩, stp⟩ := callSS Y X.hx (y := y) X.hown (mvT (s := s.setVm vm) X.hZ w1) (mvT (s := s.setVm vm) X.hZ w2) (mvT (s := s.setVm vm) X.hZ w3) (mvT (s := s.setVm vm) X.hZ w4) hy (hC.back X.hZ w4 w3 hfr hlo hE1 X.ch) (g := mkF m pc Ls (argsL.reverse ++ st)) rfl (X.size hsz) (argsL := argsL) (rest := st) hlen rfl (by show 2 * 0 + _ ≤ _; omega) (X.hb hd) (fun _ _ => ⟨rfl, rfl, hcl, hsl⟩)
  dsimp only [Pt.U, Pt.locs, Pt.cells, Pt.slots] at Y' l1 y1 z1 stp hQ hS2 hgr hC1
  subst l1 y1 z1
  have hW2 : Z.Warmed39 T'.vm := State.Warmed39.trans (t := s.setVm vm) X.hZ hS2.1
  have hf2 : T'.vm.findClass own = some m.cls := by rw [hS2.1.alike.findClass]; exact X.hown
  exact F_tr stp (k T' v ⟨⟨q0.1, q0.2.1, q0.2.2.1, q0.2.2.2.1, q0.2.2.2.2.1, hf2, q0.2.2.2.2.2.2.1, hW2⟩, ⟨⟨_, foldS hS hk hS2 hgr, Nat.le_refl _⟩, ⟨a1, hE1⟩, hC0.trans hC1⟩, _, Y', Fr.app N hQ.1, hQ.2.1⟩ hQ.2.2 (fun x hx hs => hC1.safe hx hs))

theorem F_specialB (X : Ww l Z R bytes mL ret own nm p e s m args below meth c vm T cells slots) {y : MethodName} {ix : Nat} {bytes' : ByteArray} {mL' : Nat} {ret' : Option FieldType} {Q' : Option Value → Heap → Prop} {argsL : List Value} {Q2 : Option Value → Heap → List Loc → Prop} {rC rS : Nat} {a : Addr} (hd : decode bytes pc = .ok (.invokespecial ix, 3)) (hy1 : y.name = "<init>") (hret : ret' = none) (w1 : (Jvm.Cond.methodLink own ix y).before a0 Z = true) (w2 : (Jvm.Cond.instanceMethod y).before a0 Z = true) (w4 : (Jvm.Cond.code y bytes' mL' ret').before a0 Z = true) (hy : y.cls ≠ "java/lang/invoke/MethodHandle" ∧ y.cls ≠ "java/lang/invoke/VarHandle") {st0 : List Value} (hst : st0 = argsL.reverse ++ .ref a :: st) (hK : Back l R p e below (s.setVm vm) args y 3 ((st.map fun v => v.category).sum) (fun A aa => aa = (.ref a :: argsL).toArray ∧ A.U.heap = T.heap ∧ A.cells + rC ≤ R.cells ∧ A.slots + rS ≤ R.slots) (fun A _ v B => ∃ L, Q2 v B.U.heap L ∧ B.locs = A.locs ++ L ∧ B.cells = A.cells + rC ∧ B.slots = A.slots + rS)) (hQ2 : ∀ v h L, Q2 v h L → Fr Z.heap.size L ∧ Ext Z.heap h ∧ Q' v h) (hlen : ∀ sig, parseMethodDescriptor y.desc = some sig → argsL.length = sig.parameters.length) (hsz : Ls.size = mL) (hcl : cells + rC ≤ R.cells) (hsl : slots + rS ≤ R.slots) (ws : List Addr) (hkp : ∀ v h, Q' v h → Keep T.heap h ws) (hsf : ∀ x ∈ ws, Safe Z EL vm T.heap x) {pc' : Nat} (hp : pc + 3 = pc')
    (k : ∀ (T' : State) (v : Option Value), Ww l Z R bytes mL ret own nm p e s m args below meth c vm T' (cells + rC) (slots + rS) → Q' v T'.heap → EndW p e below s Z Q cC cS T' (mkF m pc' Ls (v.toList ++ st))) : EndW p e below s Z Q cC cS T (mkF m pc Ls st0) := by
  subst hp hst; obtain ⟨q0, qq, locs, Y, N, Od⟩ := id X
  subst hret
  obtain ⟨v, _, ⟨T', L1, k1, n1⟩, -, Y', ⟨Lc, hQ, l1, y1, z1⟩, stp⟩ := Y.specialBack X.hx (y := y) hy1 X.hown (mvT X.hZ w1) (mvT X.hZ w2) (mvT X.hZ w4) hy hK (g := mkF m pc Ls (argsL.reverse ++ .ref a :: st)) rfl (X.size hsz) (Steps.refl _) (a := a) (argsL := argsL) (rest := st) hlen rfl (by show 2 * 0 + _ ≤ _; omega) (X.hb hd) (fun _ _ => ⟨rfl, rfl, hcl, hsl⟩)
  dsimp only [Pt.U, Pt.locs, Pt.cells, Pt.slots] at Y' l1 y1 z1 stp hQ
  subst l1 y1 z1
  obtain ⟨f1, f2, f3⟩ := hQ2 _ _ _ hQ
  exact F_tr stp (k T' v (X.go2 Y' (Fr.app N f1) f2 (hkp _ _ f3) hsf) f3)

theorem F_special (X : Ww l Z R bytes mL ret own nm p e s m args below meth c vm T cells slots) {y : MethodName} {ix : Nat} {bytes' : ByteArray} {mL' : Nat} {ret' : Option FieldType} {Q' : Option Value → Heap → Prop} {argsL : List Value} {rm : Room} {a : Addr} (hd : decode bytes pc = .ok (.invokespecial ix, 3)) (hy1 : y.name = "<init>") (hret : ret' = none) (w1 : (Jvm.Cond.methodLink own ix y).before a0 Z = true) (w2 : (Jvm.Cond.instanceMethod y).before a0 Z = true) (w4 : (Jvm.Cond.code y bytes' mL' ret').before a0 Z = true) (hy : y.cls ≠ "java/lang/invoke/MethodHandle" ∧ y.cls ≠ "java/lang/invoke/VarHandle") (w3 : (Jvm.Cond.initialized y.cls).before a0 Z = true) {st0 : List Value} (hst : st0 = argsL.reverse ++ .ref a :: st) (hC : Ct l Z y bytes' mL' ret' rm (.ref a :: argsL).toArray T.heap Q') (hlen : ∀ sig, parseMethodDescriptor y.desc = some sig → argsL.length = sig.parameters.length) (hsz : Ls.size = mL) (hcl : cells + rm.cells ≤ R.cells) (hsl : slots + rm.slots ≤ R.slots) (hfr : rm.frames + 1 ≤ R.frames) (hlo : (st.map fun v => v.category).sum + (mL' + 11) + rm.locals ≤ R.locals) (ws : List Addr) (hkp : ∀ v h, Q' v h → Keep T.heap h ws) (hsf : ∀ x ∈ ws, Safe Z EL vm T.heap x) {pc' : Nat} (hp : pc + 3 = pc')
    (k : ∀ (T' : State) (v : Option Value), Ww l Z R bytes mL ret own nm p e s m args below meth c vm T' (cells + rm.cells) (slots + rm.slots) → Q' v T'.heap → EndW p e below s Z Q cC cS T' (mkF m pc' Ls (v.toList ++ st))) : EndW p e below s Z Q cC cS T (mkF m pc Ls st0) :=
  F_specialB X hd hy1 hret w1 w2 w4 hy hst (hC.back X.hZ w4 w3 hfr hlo) (fun _ _ _ q => q) hlen hsz hcl hsl ws hkp hsf hp k

theorem G_special (X : Ww l Z R bytes mL ret own nm p e s m args below meth c vm T cells slots) {y : MethodName} {ix : Nat} {bytes' : ByteArray} {mL' : Nat} {ret' : Option FieldType} {Q' : Option Value → Heap → Prop} {argsL : List Value} {rm : Room} {a : Addr} (hd : decode bytes pc = .ok (.invokespecial ix, 3)) (hy1 : y.name = "<init>") (hret : ret' = none) (w1 : (Jvm.Cond.methodLink own ix y).before a0 Z = true) (w2 : (Jvm.Cond.instanceMethod y).before a0 Z = true) (w4 : (Jvm.Cond.code y bytes' mL' ret').before a0 Z = true) (hy : y.cls ≠ "java/lang/invoke/MethodHandle" ∧ y.cls ≠ "java/lang/invoke/VarHandle") (w3 : (Jvm.Cond.initialized y.cls).before a0 Z = true) {st0 : List Value} (hst : st0 = argsL.reverse ++ .ref a :: st) (hC : CtW l Z y bytes' mL' ret' rm (.ref a :: argsL).toArray T.heap Q') (hlen : ∀ sig, parseMethodDescriptor y.desc = some sig → argsL.length = sig.parameters.length) (hsz : Ls.size = mL) (hcl : cells + rm.cells ≤ R.cells) (hsl : slots + rm.slots ≤ R.slots) (hfr : rm.frames + 1 ≤ R.frames) (hlo : (st.map fun v => v.category).sum + (mL' + 11) + rm.locals ≤ R.locals) {pc' : Nat} (hp : pc + 3 = pc')
    (k : ∀ (T' : State) (v : Option Value), Ww l Z R bytes mL ret own nm p e s m args below meth c T'.vm T' (cells + rm.cells) (slots + rm.slots) → Q' v T'.heap → (∀ x, x < T.heap.size → Safe Z EL vm T.heap x → Safe Z EL T'.vm T'.heap x) → EndW p e below s Z Q cC cS T' (mkF m pc' Ls (v.toList ++ st))) : EndW p e below s Z Q cC cS T (mkF m pc Ls st0) := by
  subst hp hst; obtain ⟨q0, ⟨⟨k0, hS, hk⟩, ⟨a1, hE1⟩, hC0⟩, locs, Y, N, Od⟩ := id X
  subst hret
  obtain ⟨v, _, ⟨T', L1, k1, n1⟩, -, Y', hS2, hgr, ⟨Lc, hQ, l1, y1, z1, hC1⟩, stp⟩ := Y.specialBackS X.hx (y := y) hy1 X.hown (mvT (s := s.setVm vm) X.hZ w1) (mvT (s := s.setVm vm) X.hZ w2) (mvT (s := s.setVm vm) X.hZ w4) hy (hC.back X.hZ w4 w3 hfr hlo hE1 X.ch) (g := mkF m pc Ls (argsL.reverse ++ .ref a :: st)) rfl (X.size hsz) (Steps.refl _) (a := a) (argsL := argsL) (rest := st) hlen rfl (by show 2 * 0 + _ ≤ _; omega) (X.hb hd) (fun _ _ => ⟨rfl, rfl, hcl, hsl⟩)
  dsimp only [Pt.U, Pt.locs, Pt.cells, Pt.slots] at Y' l1 y1 z1 stp hQ hS2 hgr hC1
  subst l1 y1 z1
  have hW2 : Z.Warmed39 T'.vm := State.Warmed39.trans (t := s.setVm vm) X.hZ hS2.1
  have hf2 : T'.vm.findClass own = some m.cls := by rw [hS2.1.alike.findClass]; exact X.hown
  exact F_tr stp (k T' v ⟨⟨q0.1, q0.2.1, q0.2.2.1, q0.2.2.2.1, q0.2.2.2.2.1, hf2, q0.2.2.2.2.2.2.1, hW2⟩, ⟨⟨_, foldS hS hk hS2 hgr, Nat.le_refl _⟩, ⟨a1, hE1⟩, hC0.trans hC1⟩, _, Y', Fr.app N hQ.1, hQ.2.1⟩ hQ.2.2 (fun x hx hs => hC1.safe hx hs))

theorem F_virtualB (X : Ww l Z R bytes mL ret own nm p e s m args below meth c vm T cells slots) {y : MethodName} {ix : Nat} {Q' : Option Value → Heap → Prop} {argsL : List Value} {Q2 : Option Value → Heap → List Loc → Prop} {rC rS : Nat} {a : Addr} {z : MethodName} {D : String} (hd : decode bytes pc = .ok (.invokevirtual ix, 3)) (w1 : (Jvm.Cond.methodLink own ix y).before a0 Z = true) (w2 : (Jvm.Cond.declares y).before a0 Z = true) (w5 : (Jvm.Cond.selects D y z).before a0 Z = true) (w6 : (Jvm.Cond.instanceMethod z).before a0 Z = true) (hnf : NotFace (s.setVm vm) y) (hy : y.cls ≠ "java/lang/invoke/MethodHandle" ∧ y.cls ≠ "java/lang/invoke/VarHandle") (E : Exa Z T.heap a D) {st0 : List Value} (hst : st0 = argsL.reverse ++ .ref a :: st) (hK : Back l R p e below (s.setVm vm) args z 3 ((st.map fun v => v.category).sum) (fun A aa => aa = (.ref a :: argsL).toArray ∧ A.U.heap = T.heap ∧ A.cells + rC ≤ R.cells ∧ A.slots + rS ≤ R.slots) (fun A _ v B => ∃ L, Q2 v B.U.heap L ∧ B.locs = A.locs ++ L ∧ B.cells = A.cells + rC ∧ B.slots = A.slots + rS)) (hQ2 : ∀ v h L, Q2 v h L → Fr Z.heap.size L ∧ Ext Z.heap h ∧ Q' v h) (hlen : ∀ sig, parseMethodDescriptor y.desc = some sig → argsL.length = sig.parameters.length) (hsz : Ls.size = mL) (hcl : cells + rC ≤ R.cells) (hsl : slots + rS ≤ R.slots) (ws : List Addr) (hkp : ∀ v h, Q' v h → Keep T.heap h ws) (hsf : ∀ x ∈ ws, Safe Z EL vm T.heap x) {pc' : Nat} (hp : pc + 3 = pc')
    (k : ∀ (T' : State) (v : Option Value), Ww l Z R bytes mL ret own nm p e s m args below meth c vm T' (cells + rC) (slots + rS) → Q' v T'.heap → EndW p e below s Z Q cC cS T' (mkF m pc' Ls (v.toList ++ st))) : EndW p e below s Z Q cC cS T (mkF m pc Ls st0) := by
  subst hp hst; obtain ⟨q0, qq, locs, Y, N, Od⟩ := id X
  obtain ⟨cq, kq, qa, qb, qc⟩ := isOf (s := s.setVm vm) X.hZ rfl E
  obtain ⟨v, _, ⟨T', L1, k1, n1⟩, -, Y', ⟨Lc, hQ, l1, y1, z1⟩, stp⟩ := Y.virtualBack X.hx (y := y) (z := z) X.hown (mvT X.hZ w1) (mvT X.hZ w2) hnf (mvT X.hZ w5) (mvT X.hZ w6) hy hK qa qc (g := mkF m pc Ls (argsL.reverse ++ .ref a :: st)) rfl (X.size hsz) (Steps.refl _) (argsL := argsL) (rest := st) hlen rfl (by show 2 * 0 + _ ≤ _; omega) (X.hb hd) (fun _ _ => ⟨rfl, rfl, hcl, hsl⟩)
  dsimp only [Pt.U, Pt.locs, Pt.cells, Pt.slots] at Y' l1 y1 z1 stp hQ
  subst l1 y1 z1
  obtain ⟨f1, f2, f3⟩ := hQ2 _ _ _ hQ
  exact F_tr stp (k T' v (X.go2 Y' (Fr.app N f1) f2 (hkp _ _ f3) hsf) f3)

theorem F_virtual (X : Ww l Z R bytes mL ret own nm p e s m args below meth c vm T cells slots) {y : MethodName} {ix : Nat} {bytes' : ByteArray} {mL' : Nat} {ret' : Option FieldType} {Q' : Option Value → Heap → Prop} {argsL : List Value} {rm : Room} {a : Addr} {z : MethodName} {D : String} (hd : decode bytes pc = .ok (.invokevirtual ix, 3)) (w1 : (Jvm.Cond.methodLink own ix y).before a0 Z = true) (w2 : (Jvm.Cond.declares y).before a0 Z = true) (w5 : (Jvm.Cond.selects D y z).before a0 Z = true) (w6 : (Jvm.Cond.instanceMethod z).before a0 Z = true) (hnf : NotFace (s.setVm vm) y) (hy : y.cls ≠ "java/lang/invoke/MethodHandle" ∧ y.cls ≠ "java/lang/invoke/VarHandle") (E : Exa Z T.heap a D) (w3 : (Jvm.Cond.initialized z.cls).before a0 Z = true) (w4 : (Jvm.Cond.code z bytes' mL' ret').before a0 Z = true) {st0 : List Value} (hst : st0 = argsL.reverse ++ .ref a :: st) (hC : Ct l Z z bytes' mL' ret' rm (.ref a :: argsL).toArray T.heap Q') (hlen : ∀ sig, parseMethodDescriptor y.desc = some sig → argsL.length = sig.parameters.length) (hsz : Ls.size = mL) (hcl : cells + rm.cells ≤ R.cells) (hsl : slots + rm.slots ≤ R.slots) (hfr : rm.frames + 1 ≤ R.frames) (hlo : (st.map fun v => v.category).sum + (mL' + 11) + rm.locals ≤ R.locals) (ws : List Addr) (hkp : ∀ v h, Q' v h → Keep T.heap h ws) (hsf : ∀ x ∈ ws, Safe Z EL vm T.heap x) {pc' : Nat} (hp : pc + 3 = pc')
    (k : ∀ (T' : State) (v : Option Value), Ww l Z R bytes mL ret own nm p e s m args below meth c vm T' (cells + rm.cells) (slots + rm.slots) → Q' v T'.heap → EndW p e below s Z Q cC cS T' (mkF m pc' Ls (v.toList ++ st))) : EndW p e below s Z Q cC cS T (mkF m pc Ls st0) :=
  F_virtualB X hd w1 w2 w5 w6 hnf hy E hst (hC.back X.hZ w4 w3 hfr hlo) (fun _ _ _ q => q) hlen hsz hcl hsl ws hkp hsf hp k

theorem G_virtual (X : Ww l Z R bytes mL ret own nm p e s m args below meth c vm T cells slots) {y : MethodName} {ix : Nat} {bytes' : ByteArray} {mL' : Nat} {ret' : Option FieldType} {Q' : Option Value → Heap → Prop} {argsL : List Value} {rm : Room} {a : Addr} {z : MethodName} {D : String} (hd : decode bytes pc = .ok (.invokevirtual ix, 3)) (w1 : (Jvm.Cond.methodLink own ix y).before a0 Z = true) (w2 : (Jvm.Cond.declares y).before a0 Z = true) (w5 : (Jvm.Cond.selects D y z).before a0 Z = true) (w6 : (Jvm.Cond.instanceMethod z).before a0 Z = true) (hnf : NotFace (s.setVm vm) y) (hy : y.cls ≠ "java/lang/invoke/MethodHandle" ∧ y.cls ≠ "java/lang/invoke/VarHandle") (E : Exa Z T.heap a D) (w3 : (Jvm.Cond.initialized z.cls).before a0 Z = true) (w4 : (Jvm.Cond.code z bytes' mL' ret').before a0 Z = true) {st0 : List Value} (hst : st0 = argsL.reverse ++ .ref a :: st) (hC : CtW l Z z bytes' mL' ret' rm (.ref a :: argsL).toArray T.heap Q') (hlen : ∀ sig, parseMethodDescriptor y.desc = some sig → argsL.length = sig.parameters.length) (hsz : Ls.size = mL) (hcl : cells + rm.cells ≤ R.cells) (hsl : slots + rm.slots ≤ R.slots) (hfr : rm.frames + 1 ≤ R.frames) (hlo : (st.map fun v => v.category).sum + (mL' + 11) + rm.locals ≤ R.locals) {pc' : Nat} (hp : pc + 3 = pc')
    (k : ∀ (T' : State) (v : Option Value), Ww l Z R bytes mL ret own nm p e s m args below meth c T'.vm T' (cells + rm.cells) (slots + rm.slots) → Q' v T'.heap → (∀ x, x < T.heap.size → Safe Z EL vm T.heap x → Safe Z EL T'.vm T'.heap x) → EndW p e below s Z Q cC cS T' (mkF m pc' Ls (v.toList ++ st))) : EndW p e below s Z Q cC cS T (mkF m pc Ls st0) := by
  subst hp hst; obtain ⟨q0, ⟨⟨k0, hS, hk⟩, ⟨a1, hE1⟩, hC0⟩, locs, Y, N, Od⟩ := id X
  obtain ⟨cq, kq, qa, qb, qc⟩ := isOf (s := s.setVm vm) X.hZ rfl E
  obtain ⟨v, _, ⟨T', L1, k1, n1⟩, -, Y', hS2, hgr, ⟨Lc, hQ, l1, y1, z1, hC1⟩, stp⟩ := Y.virtualBackS X.hx (y := y) (z := z) X.hown (mvT (s := s.setVm vm) X.hZ w1) (mvT (s := s.setVm vm) X.hZ w2) hnf (mvT (s := s.setVm vm) X.hZ w5) (mvT (s := s.setVm vm) X.hZ w6) hy (hC.back X.hZ w4 w3 hfr hlo hE1 X.ch) qa qc (g := mkF m pc Ls (argsL.reverse ++ .ref a :: st)) rfl (X.size hsz) (Steps.refl _) (argsL := argsL) (rest := st) hlen rfl (by show 2 * 0 + _ ≤ _; omega) (X.hb hd) (fun _ _ => ⟨rfl, rfl, hcl, hsl⟩)
  dsimp only [Pt.U, Pt.locs, Pt.cells, Pt.slots] at Y' l1 y1 z1 stp hQ hS2 hgr hC1
  subst l1 y1 z1
  have hW2 : Z.Warmed39 T'.vm := State.Warmed39.trans (t := s.setVm vm) X.hZ hS2.1
  have hf2 : T'.vm.findClass own = some m.cls := by rw [hS2.1.alike.findClass]; exact X.hown
  exact F_tr stp (k T' v ⟨⟨q0.1, q0.2.1, q0.2.2.1, q0.2.2.2.1, q0.2.2.2.2.1, hf2, q0.2.2.2.2.2.2.1, hW2⟩, ⟨⟨_, foldS hS hk hS2 hgr, Nat.le_refl _⟩, ⟨a1, hE1⟩, hC0.trans hC1⟩, _, Y', Fr.app N hQ.1, hQ.2.1⟩ hQ.2.2 (fun x hx hs => hC1.safe hx hs))

theorem Ww.out (X : Ww l Z R bytes mL ret own nm p e s m args below meth c vm T cells slots) {v : Option Value} (hv : ret = none → v = none) (hQ : Q v T.heap) (h1 : cells ≤ cC) (h2 : slots ≤ cS) (hs : ∀ fs, (∀ (f : JFrame) (acts : List Action), f.method = m → f.locked = none → f.entered = [] → (doReturn e (T.setTop f) acts v).1 = T.setFrames fs) → Steps p.tables e below (T.setTop g) (T.setFrames fs)) : EndW p e below s Z Q cC cS T g := by
  obtain ⟨q0, ⟨⟨k0, hS, hk⟩, ⟨a1, hE1⟩, hC0⟩, locs, Y, N, Od⟩ := id X
  obtain ⟨fs, hr, hrun, hended, hW⟩ := Y.leaveW hS hk (v := v) (fun h => hv (q0.2.2.2.1.symm.trans h)) q0.2.2.2.2.1
  exact ⟨_, _, hs fs hr, hrun, hended, _, _, rfl, ⟨N, Od, hQ⟩, (hC0.trans (CHv.at (T := T) Y X.hZ hE1 X.ch) : CHr Z EL s.vm s.heap T.vm T.heap), hW.1, hW.2.1, hW.2.2.1, hW.2.2.2.mono h1 h2⟩
theorem F_return (X : Ww l Z R bytes mL ret own nm p e s m args below meth c vm T cells slots) (hd : decode bytes pc = .ok (.return_, 1)) (hret : ret = none) (h1 : cells ≤ cC) (h2 : slots ≤ cS) (hQ : Q none T.heap) : EndW p e below s Z Q cC cS T (mkF m pc Ls []) := by
  refine X.out (v := none) (fun _ => rfl) hQ h1 h2 fun fs hr => ?_
  obtain ⟨q0, qq, locs, Y, N, Od⟩ := id X
  exact Y.returnOut X.hx (q0.2.2.2.1.trans hret) (X.hb hd) hr
theorem F_ireturnI (X : Ww l Z R bytes mL ret own nm p e s m args below meth c vm T cells slots) {z : Int32} (hd : decode bytes pc = .ok (.ireturn, 1)) (hret : ret = some .int) (h1 : cells ≤ cC) (h2 : slots ≤ cS) (hQ : Q (some (.int z)) T.heap) : EndW p e below s Z Q cC cS T (mkF m pc Ls (.int z :: st)) := by
  refine X.out (v := some (.int z)) (fun h => by rw [hret] at h; cases h) hQ h1 h2 fun fs hr => ?_
  obtain ⟨q0, qq, locs, Y, N, Od⟩ := id X
  exact retOut Y X.hx (q0.2.2.2.1.trans hret) rfl (Or.inl ⟨rfl, Or.inl rfl, z, rfl⟩) (X.hb hd) hr
theorem F_ireturnN (X : Ww l Z R bytes mL ret own nm p e s m args below meth c vm T cells slots) {z : Int32} {t : FieldType} (hd : decode bytes pc = .ok (.ireturn, 1)) (hret : ret = some t) (ht : t = .boolean ∨ t = .byte ∨ t = .char ∨ t = .short) (h1 : cells ≤ cC) (h2 : slots ≤ cS) (hQ : Q (some (.int (nar t z))) T.heap) : EndW p e below s Z Q cC cS T (mkF m pc Ls (.int z :: st)) := by
  refine X.out (v := some (.int (nar t z))) (fun h => by rw [hret] at h; cases h) hQ h1 h2 fun fs hr => ?_
  obtain ⟨q0, qq, locs, Y, N, Od⟩ := id X
  exact retN Y X.hx (q0.2.2.2.1.trans hret) ht (X.hb hd) hr
theorem F_areturn (X : Ww l Z R bytes mL ret own nm p e s m args below meth c vm T cells slots) {v : Value} {t : FieldType} (hd : decode bytes pc = .ok (.areturn, 1)) (hret : ret = some t) (ht : t.isReference = true) (hv : v.isRef = true) (hn : narrow t v = v) (h1 : cells ≤ cC) (h2 : slots ≤ cS) (hQ : Q (some v) T.heap) : EndW p e below s Z Q cC cS T (mkF m pc Ls (v :: st)) := by
  refine X.out (v := some v) (fun h => by rw [hret] at h; cases h) hQ h1 h2 fun fs hr => ?_
  obtain ⟨q0, qq, locs, Y, N, Od⟩ := id X
  exact retOut Y X.hx (q0.2.2.2.1.trans hret) hn (Or.inr (Or.inr (Or.inr (Or.inr ⟨rfl, ht, hv⟩)))) (X.hb hd) hr
end OwnW
theorem pd_0 : parseMethodDescriptor "()B" = some ⟨[], some .byte⟩ := by decide +kernel
theorem pd_1 : parseMethodDescriptor "(I)I" = some ⟨[.int], some .int⟩ := by decide +kernel
theorem pd_2 : parseMethodDescriptor "([BII)V" = some ⟨[(.array .byte), .int, .int], none⟩ := by decide +kernel
theorem pd_3 : parseMethodDescriptor "(I)[B" = some ⟨[.int], some (.array .byte)⟩ := by decide +kernel
theorem pd_4 : parseMethodDescriptor "([CI[BII)I" = some ⟨[(.array .char), .int, (.array .byte), .int, .int], some .int⟩ := by decide +kernel
theorem pd_5 : parseMethodDescriptor "([CII)[B" = some ⟨[(.array .char), .int, .int], some (.array .byte)⟩ := by decide +kernel
theorem pd_6 : parseMethodDescriptor "([BI)C" = some ⟨[(.array .byte), .int], some .char⟩ := by decide +kernel
theorem pd_7 : parseMethodDescriptor "([BI)B" = some ⟨[(.array .byte), .int], some .byte⟩ := by decide +kernel
theorem pd_8 : parseMethodDescriptor "([CIILjava/lang/Void;)V" = some ⟨[(.array .char), .int, .int, (.object "java/lang/Void")], none⟩ := by decide +kernel
theorem pd_9 : parseMethodDescriptor "(IIILjava/util/function/BiFunction;)I" = some ⟨[.int, .int, .int, (.object "java/util/function/BiFunction")], some .int⟩ := by decide +kernel
theorem pd_10 : parseMethodDescriptor "(C)Z" = some ⟨[.char], some .boolean⟩ := by decide +kernel
theorem pd_11 : parseMethodDescriptor "([BIIZ)I" = some ⟨[(.array .byte), .int, .int, .boolean], some .int⟩ := by decide +kernel
theorem pd_12 : parseMethodDescriptor "()I" = some ⟨[], some .int⟩ := by decide +kernel
theorem pd_13 : parseMethodDescriptor "(III)I" = some ⟨[.int, .int, .int], some .int⟩ := by decide +kernel
theorem pd_14 : parseMethodDescriptor "()Z" = some ⟨[], some .boolean⟩ := by decide +kernel
theorem pd_15 : parseMethodDescriptor "([BII)I" = some ⟨[(.array .byte), .int, .int], some .int⟩ := by decide +kernel
theorem pd_16 : parseMethodDescriptor "(II)I" = some ⟨[.int, .int], some .int⟩ := by decide +kernel
theorem pd_17 : parseMethodDescriptor "(I)C" = some ⟨[.int], some .char⟩ := by decide +kernel
theorem pd_18 : parseMethodDescriptor "([C)V" = some ⟨[(.array .char)], none⟩ := by decide +kernel
theorem pd_19 : parseMethodDescriptor "(Ljava/lang/String;II)Z" = some ⟨[(.object "java/lang/String"), .int, .int], some .boolean⟩ := by decide +kernel
theorem o_int {n : Nat} (h : n < 2147483648) : (Int32.ofNat n).toInt = n := by
  have := Int32.toInt_ofNat_of_lt (n := n) (by omega); simpa using this
theorem o_cl {n : Nat} (h : n < 2147483648) : (Int32.ofNat n).toNatClampNeg = n := by
  simp [Int32.toNatClampNeg, o_int h]
theorem o_nn {n : Nat} (h : n < 2147483648) : ¬ Int32.ofNat n < 0 := by
  rw [Int32.lt_iff_toInt_lt, o_int h]; show ¬ (n : Int) < 0; omega
theorem o_lt {i n : Nat} (hi : i < n) (h : n < 2147483648) : Int32.ofNat i < Int32.ofNat n := by
  rw [Int32.lt_iff_toInt_lt, o_int h, o_int (by omega)]; omega
theorem o_nlt {i n : Nat} (hi : n ≤ i) (h : i < 2147483648) : ¬ Int32.ofNat i < Int32.ofNat n := by
  rw [Int32.lt_iff_toInt_lt, o_int h, o_int (by omega)]; omega
theorem o_add {i : Nat} : Int32.ofNat i + (1 : Int32) = Int32.ofNat (i + 1) := by
  rw [Int32.ofNat_add]; rfl
theorem o_two {i : Nat} (h : 2 * i < 2147483648) : Int32.ofNat i <<< ((1 : Int32) &&& 31) = Int32.ofNat (2 * i) := by
  apply Int32.toInt_inj.mp
  have e := c_ishl (Int32.ofNat i) 1 1 (by decide)
  have r := rng32 (Int32.ofNat i <<< ((1 : Int32) &&& 31))
  rw [o_int (by omega)] at e
  rw [o_int h]
  omega
theorem o_half {i : Nat} (h : 2 * i < 2147483648) : Int32.ofNat (2 * i) >>> ((1 : Int32) &&& 31) = Int32.ofNat i := by
  apply Int32.toInt_inj.mp
  have e := c_ishr (Int32.ofNat (2 * i)) 1 1 (by decide)
  rw [o_int h] at e
  rw [o_int (by omega), e]
  omega
theorem o_zero (N : Int32) : N >>> ((0 : Int32) &&& 31) = N := by
  apply Int32.toInt_inj.mp
  have e := c_ishr N 0 0 (by decide)
  rw [e]; simp
theorem o_i2c {c : Int32} (h1 : ¬ c < 0) (h2 : ¬ 65535 < c) : c.toUInt32.toUInt16.toUInt32.toInt32 = c := by
  apply Int32.toInt_inj.mp
  have e := c_i2c c
  rw [Int32.lt_iff_toInt_lt] at h1 h2
  have o1 : (0 : Int32).toInt = 0 := rfl
  have o2 : (65535 : Int32).toInt = 65535 := rfl
  omega
theorem o_nar {c : Int32} (h1 : ¬ c < 0) (h2 : ¬ 65535 < c) : nar .char c = c := o_i2c h1 h2
theorem o_lat {c : Int32} (h1 : ¬ c < 0) (h2 : ¬ 255 < c) : nar .char ((c.toInt8.toInt32 &&& (255 : Int32)).toUInt32.toUInt16.toUInt32.toInt32) = c := by
  have o1 : (0 : Int32).toInt = 0 := rfl
  have o2 : (255 : Int32).toInt = 255 := rfl
  have o3 : (65535 : Int32).toInt = 65535 := rfl
  rw [Int32.lt_iff_toInt_lt] at h1 h2
  have e : c.toInt8.toInt32 &&& (255 : Int32) = c := by
    apply Int32.toInt_inj.mp
    have e1 := c_mask c.toInt8.toInt32 255 8 (by decide) (by decide)
    have e2 := c_i2b c
    rw [e1]; omega
  rw [e, o_i2c, o_nar] <;> (rw [Int32.lt_iff_toInt_lt]; omega)
theorem o_u16 {c : Int32} (h1 : ¬ c < 0) (h2 : ¬ 65535 < c) : nar .char ((((c >>> ((0 : Int32) &&& 31)).toInt8.toInt32 &&& (255 : Int32)) <<< ((0 : Int32) &&& 31) ||| ((c >>> ((8 : Int32) &&& 31)).toInt8.toInt32 &&& (255 : Int32)) <<< ((8 : Int32) &&& 31)).toUInt32.toUInt16.toUInt32.toInt32) = c := by
  have o1 : (0 : Int32).toInt = 0 := rfl
  have o2 : (255 : Int32).toInt = 255 := rfl
  have o3 : (65535 : Int32).toInt = 65535 := rfl
  rw [Int32.lt_iff_toInt_lt] at h1 h2
  have a0 : c >>> ((0 : Int32) &&& 31) = c := o_zero c
  have a1 := c_ishr c 8 8 (by decide)
  rw [a0]
  generalize c >>> ((8 : Int32) &&& 31) = d at *
  have b1 := c_mask c.toInt8.toInt32 255 8 (by decide) (by decide)
  have b2 := c_i2b c
  have b3 := c_mask d.toInt8.toInt32 255 8 (by decide) (by decide)
  have b4 := c_i2b d
  generalize c.toInt8.toInt32 &&& (255 : Int32) = x at *
  generalize d.toInt8.toInt32 &&& (255 : Int32) = y at *
  have d1 := c_ishl x 0 0 (by decide)
  have d2 := c_ishl y 8 8 (by decide)
  have r1 := rng32 (x <<< ((0 : Int32) &&& 31))
  have r2 := rng32 (y <<< ((8 : Int32) &&& 31))
  generalize x <<< ((0 : Int32) &&& 31) = u at *
  generalize y <<< ((8 : Int32) &&& 31) = w at *
  have f := c_or' u w 8 (by decide) 256 rfl (by omega) (by omega) (by omega)
  have r3 := rng32 (u ||| w)
  have e : u ||| w = c := by
    apply Int32.toInt_inj.mp
    omega
  rw [e, o_i2c, o_nar] <;> (rw [Int32.lt_iff_toInt_lt]; omega)
theorem o_b8 (c : Int32) : c.toInt8.toInt32.toInt8.toInt32 = c.toInt8.toInt32 := by simp
theorem o_ltc {n : Nat} (h : n ≤ 4000) : Int32.ofNat n < (1073741823 : Int32) := by
  rw [Int32.lt_iff_toInt_lt, o_int (by omega)]; show (n : Int) < 1073741823; omega
theorem o_cfl {n : Nat} (h : 0 < n) (h2 : n ≤ 4000) : nar .byte ((((Int32.ofNat n - Int32.ofNat (2 * n)).toUInt32 >>> ((31 : Int32) &&& 31).toUInt32).toInt32).toInt8.toInt32) = 1 := by
  have e := c_isub (Int32.ofNat n) (Int32.ofNat (2 * n))
  rw [o_int (by omega), o_int (by omega)] at e
  have r := rng32 (Int32.ofNat n - Int32.ofNat (2 * n))
  have f := c_iushr (Int32.ofNat n - Int32.ofNat (2 * n)) 31 31 (by decide) (by decide)
  have g : ((Int32.ofNat n - Int32.ofNat (2 * n)).toUInt32 >>> ((31 : Int32) &&& 31).toUInt32).toInt32 = 1 := by
    apply Int32.toInt_inj.mp
    rw [f]; show _ = (1 : Int); omega
  rw [g]; rfl

def Sts (Z : State) (G1 : Int32) (G3 : Value) : Prop := Sta Z Z.heap "java/lang/String" "COMPACT_STRINGS" "Z" (.int G1) ∧ ¬ G1 = 0 ∧ Sta Z Z.heap "jdk/internal/util/Preconditions" "SIOOBE_FORMATTER" "Ljava/util/function/BiFunction;" G3 ∧ G3.isRef = true ∧ Sta Z Z.heap "java/lang/StringUTF16" "$assertionsDisabled" "Z" (.int 1) ∧ Sta Z Z.heap "java/lang/StringUTF16" "HI_BYTE_SHIFT" "I" (.int 0) ∧ Sta Z Z.heap "java/lang/StringUTF16" "LO_BYTE_SHIFT" "I" (.int 8)
theorem Sts.ref {Z : State} {G1 : Int32} {G3 : Value} (h : Sts Z G1 G3) : G3.isRef = true := h.2.2.2.1
def lo8 (c : Int32) : Value := .int c.toInt8.toInt32
def u16 (cs : List Int32) : List Value := cs.flatMap fun c => [.int (c >>> ((0 : Int32) &&& 31)).toInt8.toInt32, .int (c >>> ((8 : Int32) &&& 31)).toInt8.toInt32]
def Cod (cs : List Int32) (cd N : Int32) (vs : List Value) : Prop := (cd = 0 ∧ N = Int32.ofNat cs.length ∧ vs = cs.map lo8 ∧ ∀ c ∈ cs, ¬ (255 : Int32) < c) ∨ (cd = 1 ∧ N = Int32.ofNat (2 * cs.length) ∧ vs = u16 cs)
/-- the String x holds the chars cs; its array is t -/
def OStr (Z : State) (h : Heap) (x t : Addr) (cs : List Int32) : Prop := ∃ (kb : ClassId) (cd N : Int32) (vs : List Value), Exa Z h x "java/lang/String" ∧ Fld Z h x "java/lang/String" "value" "[B" (.ref t) ∧ Fld Z h x "java/lang/String" "coder" "B" (.int cd) ∧ Arv Z h t kb .byte N vs (.int (0 : Int32)) ∧ Cod cs cd N vs ∧ (∀ c ∈ cs, ¬ c < 0 ∧ ¬ (65535 : Int32) < c) ∧ cs.length ≤ 4000
theorem OStr.exa {Z : State} {h : Heap} {x t : Addr} {cs : List Int32} (S : OStr Z h x t cs) : Exa Z h x "java/lang/String" := by obtain ⟨_, _, _, _, E, -⟩ := S; exact E
theorem OStr.fval {Z : State} {h : Heap} {x t : Addr} {cs : List Int32} (S : OStr Z h x t cs) : Fld Z h x "java/lang/String" "value" "[B" (.ref t) := by obtain ⟨_, _, _, _, _, F, -⟩ := S; exact F
theorem OStr.lt {Z : State} {h : Heap} {x t : Addr} {cs : List Int32} (S : OStr Z h x t cs) : x < h.size := S.exa.lt
theorem OStr.ltv {Z : State} {h : Heap} {x t : Addr} {cs : List Int32} (S : OStr Z h x t cs) : t < h.size := by obtain ⟨_, _, _, _, _, _, _, V, -⟩ := S; exact V.lt
theorem OStr.keep {Z : State} {h h' : Heap} {ws : List Addr} {x t : Addr} {cs : List Int32} (S : OStr Z h x t cs) (K : Keep h h' ws) (h1 : x ∉ ws) (h2 : t ∉ ws) : OStr Z h' x t cs := by
  obtain ⟨kb, cd, N, vs, E, F, G, V, r⟩ := S; exact ⟨kb, cd, N, vs, E.keep K, F.keep K h1, G.keep K h1, V.keep K h2, r⟩
theorem own_lit {Z : State} {h : Heap} {a b : Addr} {kb : ClassId} {cs : List Int32} (E : Exa Z h a "java/lang/String") (F : Fld Z h a "java/lang/String" "value" "[B" (.ref b)) (C : Fld Z h a "java/lang/String" "coder" "B" (.int 0)) (V : Arv Z h b kb .byte (Int32.ofNat cs.length) (cs.map lo8) (.int 0)) (hb : ∀ c ∈ cs, ¬ c < 0 ∧ ¬ (255 : Int32) < c) (hl : cs.length ≤ 4000) : OStr Z h a b cs :=
  ⟨kb, 0, _, _, E, F, C, V, Or.inl ⟨rfl, rfl, rfl, fun c hc => (hb c hc).2⟩, fun c hc => ⟨(hb c hc).1, fun q => (hb c hc).2 (Int32.lt_trans (by decide) q)⟩, hl⟩
theorem Fld.inj {Z : State} {h : Heap} {a : Addr} {C n d : String} {v w : Value} (F : Fld Z h a C n d v) (G : Fld Z h a C n d w) : v = w := by
  by_cases q : v = w
  · exact q
  · exact absurd rfl (F.ne G q)
theorem lo8_inj {c d : Int32} (h1 : ¬ c < 0) (h2 : ¬ (255 : Int32) < c) (h3 : ¬ d < 0) (h4 : ¬ (255 : Int32) < d) (e : c.toInt8.toInt32 = d.toInt8.toInt32) : c = d := by
  have a := c_i2b c; have b := c_i2b d
  rw [e] at a
  simp only [Int32.lt_iff_toInt_lt, Int32.reduceToInt] at h1 h2 h3 h4
  apply Int32.toInt_inj.mp; omega
theorem own_ext {cs ds : List Int32} (hl : cs.length = ds.length) (h : ∀ i, i < cs.length → cs.getD i 0 = ds.getD i 0) : cs = ds := by
  apply List.ext_getElem hl
  intro i h1 h2
  have q := h i h1
  simpa [List.getD_eq_getElem?_getD, h1, h2] using q
theorem own_getD {cs : List Int32} {i : Nat} (f : Int32 → Value) {d : Value} (h : i < cs.length) (hn : cs.length ≤ 4000) : (cs.map f).getD (Int32.ofNat i).toNatClampNeg d = f (cs.getD i 0) := by
  rw [o_cl (by omega)]; simp [List.getD_eq_getElem?_getD, h]
theorem own_mem {cs : List Int32} {i : Nat} (h : i < cs.length) : cs.getD i 0 ∈ cs := by simp [List.getD_eq_getElem?_getD, h]
theorem own_take {cs : List Int32} {i : Nat} (f : Int32 → Value) (h : i < cs.length) : (cs.take (i + 1)).map f = (cs.take i).map f ++ [f (cs.getD i 0)] := by
  rw [List.take_add_one, List.map_append]; congr 1; simp [List.getD_eq_getElem?_getD, h]
theorem own_all {P : Int32 → Prop} {cs : List Int32} {i : Nat} {ch : Int32} (h : i < cs.length) (hch : ch = cs.getD i 0) (hall : ∀ c ∈ cs.take i, P c) (hc : P ch) : ∀ c ∈ cs.take (i + 1), P c := by
  intro c hc2
  rw [List.take_add_one] at hc2
  rcases List.mem_append.mp hc2 with hc2 | hc2
  · exact hall c hc2
  · have : c = ch := by rw [hch]; simp [List.getD_eq_getElem?_getD, h] at hc2 ⊢; exact hc2
    rw [this]; exact hc
theorem own_tl {cs : List Int32} {i : Nat} (f : Int32 → Value) (h : i ≤ cs.length) : ((cs.take i).map f).length = i := by simp; omega
theorem Cod.cd8 {cs : List Int32} {cd N : Int32} {vs : List Value} (h : Cod cs cd N vs) : nar .byte cd = cd := by rcases h with ⟨rfl, -⟩ | ⟨rfl, -⟩ <;> rfl
theorem Cod.len {cs : List Int32} {cd N : Int32} {vs : List Value} (h : Cod cs cd N vs) (hl : cs.length ≤ 4000) : N >>> (cd &&& 31) = Int32.ofNat cs.length := by 
  rcases h with ⟨rfl, rfl, -⟩ | ⟨rfl, rfl, -⟩
  · exact o_zero _
  · exact o_half (by omega)
theorem Cod.n0 {cs : List Int32} {cd N : Int32} {vs : List Value} (h : Cod cs cd N vs) (hl : cs.length ≤ 4000) : N = 0 ↔ cs.length = 0 := by
  have e : ∀ n : Nat, n < 2147483648 → (Int32.ofNat n = 0 ↔ n = 0) := fun n hn => by
    rw [← Int32.toInt_inj, o_int hn]; show ((n : Int) = 0) ↔ _; omega
  rcases h with ⟨-, rfl, -⟩ | ⟨-, rfl, -⟩
  · exact e _ (by omega)
  · rw [e _ (by omega)]; omega
theorem u16_len (cs : List Int32) : (u16 cs).length = 2 * cs.length := by
  induction cs with
  | nil => rfl
  | cons c r ih => simp only [u16, List.flatMap_cons, List.length_append] at ih ⊢; rw [ih]; simp; omega
theorem u16_get (cs : List Int32) (i : Nat) (h : i < cs.length) : (u16 cs)[2 * i]? = some (.int (cs.getD i 0 >>> ((0 : Int32) &&& 31)).toInt8.toInt32) ∧ (u16 cs)[2 * i + 1]? = some (.int (cs.getD i 0 >>> ((8 : Int32) &&& 31)).toInt8.toInt32) := by
  induction cs generalizing i with
  | nil => simp at h
  | cons c r ih =>
    cases i with
    | zero => exact ⟨rfl, rfl⟩
    | succ i =>
      have q := ih i (by simpa using h)
      simp only [u16, List.flatMap_cons] at q ⊢
      have e1 : 2 * (i + 1) = 2 * i + 2 := by omega
      have e2 : 2 * (i + 1) + 1 = 2 * i + 1 + 2 := by omega
      rw [e2, e1]
      simpa using q
theorem u16_take {cs : List Int32} {i : Nat} (h : i < cs.length) : u16 (cs.take (i + 1)) = u16 (cs.take i) ++ [.int (cs.getD i 0 >>> ((0 : Int32) &&& 31)).toInt8.toInt32, .int (cs.getD i 0 >>> ((8 : Int32) &&& 31)).toInt8.toInt32] := by
  rw [List.take_add_one]; unfold u16; rw [List.flatMap_append]; congr 1; simp [List.getD_eq_getElem?_getD, h]

theorem lit_0 : (∀ c ∈ "".toList, c.toNat < 256) ∧ "".toList.map (fun c => Value.int (Jvm.Lit.byteI c.toNat.toUInt16)) = ([] : List Int32).map lo8 := ⟨by decide +kernel, by rfl⟩
theorem d_ugc_0 : decode jdk_52_method_5_code 0 = .ok (.getstatic 44, 3) := by decide +kernel
theorem d_ugc_3 : decode jdk_52_method_5_code 3 = .ok (.ifCond .ne 25, 3) := by decide +kernel
theorem d_ugc_28 : decode jdk_52_method_5_code 28 = .ok (.iload_n 1, 1) := by decide +kernel
theorem d_ugc_29 : decode jdk_52_method_5_code 29 = .ok (.iconst 1, 1) := by decide +kernel
theorem d_ugc_30 : decode jdk_52_method_5_code 30 = .ok (.ishl, 1) := by decide +kernel
theorem d_ugc_31 : decode jdk_52_method_5_code 31 = .ok (.istore_n 1, 1) := by decide +kernel
theorem d_ugc_32 : decode jdk_52_method_5_code 32 = .ok (.aload_n 0, 1) := by decide +kernel
theorem d_ugc_33 : decode jdk_52_method_5_code 33 = .ok (.iload_n 1, 1) := by decide +kernel
theorem d_ugc_34 : decode jdk_52_method_5_code 34 = .ok (.iinc 1 1, 3) := by decide +kernel
theorem d_ugc_37 : decode jdk_52_method_5_code 37 = .ok (.baload, 1) := by decide +kernel
theorem d_ugc_38 : decode jdk_52_method_5_code 38 = .ok (.sipush 255, 3) := by decide +kernel
theorem d_ugc_41 : decode jdk_52_method_5_code 41 = .ok (.iand, 1) := by decide +kernel
theorem d_ugc_42 : decode jdk_52_method_5_code 42 = .ok (.getstatic 59, 3) := by decide +kernel
theorem d_ugc_45 : decode jdk_52_method_5_code 45 = .ok (.ishl, 1) := by decide +kernel
theorem d_ugc_46 : decode jdk_52_method_5_code 46 = .ok (.aload_n 0, 1) := by decide +kernel
theorem d_ugc_47 : decode jdk_52_method_5_code 47 = .ok (.iload_n 1, 1) := by decide +kernel
theorem d_ugc_48 : decode jdk_52_method_5_code 48 = .ok (.baload, 1) := by decide +kernel
theorem d_ugc_49 : decode jdk_52_method_5_code 49 = .ok (.sipush 255, 3) := by decide +kernel
theorem d_ugc_52 : decode jdk_52_method_5_code 52 = .ok (.iand, 1) := by decide +kernel
theorem d_ugc_53 : decode jdk_52_method_5_code 53 = .ok (.getstatic 63, 3) := by decide +kernel
theorem d_ugc_56 : decode jdk_52_method_5_code 56 = .ok (.ishl, 1) := by decide +kernel
theorem d_ugc_57 : decode jdk_52_method_5_code 57 = .ok (.ior, 1) := by decide +kernel
theorem d_ugc_58 : decode jdk_52_method_5_code 58 = .ok (.i2c, 1) := by decide +kernel
theorem d_ugc_59 : decode jdk_52_method_5_code 59 = .ok (.ireturn, 1) := by decide +kernel
abbrev rm_ugc : Room := ({ frames := 0, cells := 0, slots := 0, locals := 0 } : Room)
def Q_ugc (Z : State) (t : Addr) (kb : ClassId) (cs : List Int32) (i : Nat) (h0 : Heap) (v : Option Value) (h : Heap) : Prop := v = some (.int (cs.getD i 0)) ∧ h = h0
set_option maxRecDepth 65536 in
set_option maxHeartbeats 40000000 in
theorem ct_ugc (l : Launch) (Z : State) (a0 : Array Value) (hw : ∀ d ∈ tables_1, d.before a0 Z = true) (G1 : Int32) (G3 : Value) (OS : Sts Z G1 G3) (hEL : EW Z a0 EL) (hSA : ∀ a ∈ Bundle.stringAtoms, a.before a0 Z = true) (t : Addr) (kb : ClassId) (cs : List Int32) (i : Nat) {h0 : Heap} (O : Ext Z.heap h0) (V0 : Arv Z h0 t kb .byte (Int32.ofNat (2 * cs.length)) (u16 cs) (.int (0 : Int32))) (hi : i < cs.length) (hl : cs.length ≤ 4000) (hpc : ¬ cs.getD i 0 < 0 ∧ ¬ (65535 : Int32) < cs.getD i 0) : Ct l Z (⟨"java/lang/StringUTF16", "getChar", "([BI)C"⟩ : MethodName) jdk_52_method_5_code 2 (some .char) rm_ugc #[(.ref t), (.int (Int32.ofNat i))] h0 (Q_ugc Z t kb cs i h0) := by
  refine Ct.of_body (Ls := #[.val (.ref t), .val (.int (Int32.ofNat i))]) (by decide +kernel) O (fun m => by first | rfl | (simp [entryFrame, mkF, argsToLocals, Value.category]; done) | (rcases ref_cases (Sts.ref OS) with rfl | ⟨r, rfl⟩ <;> rfl)) ?_
  intro p e s m below meth c T0 X0 e0
  subst e0
  have hg := u16_get cs i hi
  refine E_getstatic X0 d_ugc_0 (hw _ (List.mem_of_getElem? (i := 82) rfl)) Via.refl OS.2.2.2.2.1 (pc' := 3) rfl ?_
  intro T1 X2 e3
  rw [← e3] at V0
  refine E_ifT X2 d_ugc_3 (XT.i0_ne_t (by decide)) (pc' := 28) (by decide) rfl ?_
  refine E_iloadN X2 d_ugc_28 rfl (pc' := 29) rfl ?_
  refine E_iconst X2 (v := (1 : Int32)) d_ugc_29 rfl (pc' := 30) rfl ?_
  refine E_ishl X2 (v := (Int32.ofNat (2 * i))) d_ugc_30 (o_two (by omega)) (pc' := 31) rfl ?_
  refine E_istoreN X2 d_ugc_31 (l' := #[.val (.ref t), .val (.int (Int32.ofNat (2 * i)))]) rfl (pc' := 32) rfl ?_
  refine E_aloadN X2 d_ugc_32 rfl rfl (pc' := 33) rfl ?_
  refine E_iloadN X2 d_ugc_33 rfl (pc' := 34) rfl ?_
  refine E_iinc X2 (y := (Int32.ofNat (2 * i + 1))) d_ugc_34 o_add rfl (l' := #[.val (.ref t), .val (.int (Int32.ofNat (2 * i + 1)))]) rfl (pc' := 37) rfl ?_
  refine E_baload X2 (v := (.int ((cs.getD i 0 >>> ((0 : Int32) &&& 31)).toInt8.toInt32))) d_ugc_37 V0 ⟨o_nn (by omega), o_lt (by omega) (by omega)⟩ (by rw [o_cl (by omega)]; simp only [List.getD_eq_getElem?_getD, hg.1, Option.getD_some]) (pc' := 38) rfl ?_
  refine E_sipush X2 (v := (255 : Int32)) d_ugc_38 rfl (pc' := 41) rfl ?_
  refine E_iand X2 d_ugc_41 rfl (pc' := 42) rfl ?_
  refine E_getstatic X2 d_ugc_42 (hw _ (List.mem_of_getElem? (i := 83) rfl)) Via.refl OS.2.2.2.2.2.1 (pc' := 45) rfl ?_
  intro T4 X5 e6
  rw [← e6] at V0
  refine E_ishl X5 d_ugc_45 rfl (pc' := 46) rfl ?_
  refine E_aloadN X5 d_ugc_46 rfl rfl (pc' := 47) rfl ?_
  refine E_iloadN X5 d_ugc_47 rfl (pc' := 48) rfl ?_
  refine E_baload X5 (v := (.int ((cs.getD i 0 >>> ((8 : Int32) &&& 31)).toInt8.toInt32))) d_ugc_48 V0 ⟨o_nn (by omega), o_lt (by omega) (by omega)⟩ (by rw [o_cl (by omega)]; simp only [List.getD_eq_getElem?_getD, hg.2, Option.getD_some]) (pc' := 49) rfl ?_
  refine E_sipush X5 (v := (255 : Int32)) d_ugc_49 rfl (pc' := 52) rfl ?_
  refine E_iand X5 d_ugc_52 rfl (pc' := 53) rfl ?_
  refine E_getstatic X5 d_ugc_53 (hw _ (List.mem_of_getElem? (i := 84) rfl)) Via.refl OS.2.2.2.2.2.2 (pc' := 56) rfl ?_
  intro T7 X8 e9
  rw [← e9] at V0
  refine E_ishl X8 d_ugc_56 rfl (pc' := 57) rfl ?_
  refine E_ior X8 d_ugc_57 rfl (pc' := 58) rfl ?_
  refine E_i2c X8 d_ugc_58 rfl (pc' := 59) rfl ?_
  exact E_ireturnN X8 (t := .char) d_ugc_59 rfl (by simp) (by decide) (by decide) (⟨by rw [o_u16 hpc.1 hpc.2], (e9.trans (e6.trans e3))⟩)
theorem d_cod_0 : decode jdk_42_method_152_code 0 = .ok (.getstatic 38, 3) := by decide +kernel
theorem d_cod_3 : decode jdk_42_method_152_code 3 = .ok (.ifCond .eq 10, 3) := by decide +kernel
theorem d_cod_6 : decode jdk_42_method_152_code 6 = .ok (.aload_n 0, 1) := by decide +kernel
theorem d_cod_7 : decode jdk_42_method_152_code 7 = .ok (.getfield 15, 3) := by decide +kernel
theorem d_cod_10 : decode jdk_42_method_152_code 10 = .ok (.goto 4, 3) := by decide +kernel
theorem d_cod_14 : decode jdk_42_method_152_code 14 = .ok (.ireturn, 1) := by decide +kernel
abbrev rm_cod : Room := ({ frames := 0, cells := 0, slots := 0, locals := 0 } : Room)
def Q_cod (Z : State) (x : Addr) (cd : Int32) (h0 : Heap) (v : Option Value) (h : Heap) : Prop := v = some (.int cd) ∧ h = h0
set_option maxRecDepth 65536 in
set_option maxHeartbeats 40000000 in
theorem ct_cod (l : Launch) (Z : State) (a0 : Array Value) (hw : ∀ d ∈ tables_1, d.before a0 Z = true) (G1 : Int32) (G3 : Value) (OS : Sts Z G1 G3) (hEL : EW Z a0 EL) (hSA : ∀ a ∈ Bundle.stringAtoms, a.before a0 Z = true) (x : Addr) (cd : Int32) {h0 : Heap} (O : Ext Z.heap h0) (C0 : Fld Z h0 x "java/lang/String" "coder" "B" (.int cd)) (hcd : nar .byte cd = cd) : Ct l Z (⟨"java/lang/String", "coder", "()B"⟩ : MethodName) jdk_42_method_152_code 1 (some .byte) rm_cod #[(.ref x)] h0 (Q_cod Z x cd h0) := by
  refine Ct.of_body (Ls := #[.val (.ref x)]) (by decide +kernel) O (fun m => by first | rfl | (simp [entryFrame, mkF, argsToLocals, Value.category]; done) | (rcases ref_cases (Sts.ref OS) with rfl | ⟨r, rfl⟩ <;> rfl)) ?_
  intro p e s m below meth c T0 X0 e0
  subst e0
  refine E_getstatic X0 d_cod_0 (hw _ (List.mem_of_getElem? (i := 20) rfl)) Via.refl OS.1 (pc' := 3) rfl ?_
  intro T1 X2 e3
  rw [← e3] at C0
  refine E_ifF X2 d_cod_3 (XT.i0_eq_f OS.2.1) (pc' := 6) rfl ?_
  refine E_aloadN X2 d_cod_6 rfl rfl (pc' := 7) rfl ?_
  refine E_getfield X2 d_cod_7 (hw _ (List.mem_of_getElem? (i := 32) rfl)) Via.refl C0 (pc' := 10) rfl ?_
  intro T4 X5 e6
  rw [← e6] at C0
  refine E_goto X5 d_cod_10 (pc' := 14) (by decide) rfl ?_
  exact E_ireturnN X5 (t := .byte) d_cod_14 rfl (by simp) (by decide) (by decide) (⟨by rw [hcd], (e6.trans e3)⟩)
theorem d_lat_0 : decode jdk_42_method_154_code 0 = .ok (.getstatic 38, 3) := by decide +kernel
theorem d_lat_3 : decode jdk_42_method_154_code 3 = .ok (.ifCond .eq 14, 3) := by decide +kernel
theorem d_lat_6 : decode jdk_42_method_154_code 6 = .ok (.aload_n 0, 1) := by decide +kernel
theorem d_lat_7 : decode jdk_42_method_154_code 7 = .ok (.getfield 15, 3) := by decide +kernel
theorem d_lat_10 : decode jdk_42_method_154_code 10 = .ok (.ifCond .ne 7, 3) := by decide +kernel
theorem d_lat_13 : decode jdk_42_method_154_code 13 = .ok (.iconst 1, 1) := by decide +kernel
theorem d_lat_14 : decode jdk_42_method_154_code 14 = .ok (.goto 4, 3) := by decide +kernel
theorem d_lat_17 : decode jdk_42_method_154_code 17 = .ok (.iconst 0, 1) := by decide +kernel
theorem d_lat_18 : decode jdk_42_method_154_code 18 = .ok (.ireturn, 1) := by decide +kernel
abbrev rm_lat : Room := ({ frames := 0, cells := 0, slots := 0, locals := 0 } : Room)
def Q_lat (Z : State) (x : Addr) (cd : Int32) (h0 : Heap) (v : Option Value) (h : Heap) : Prop := ∃ z, v = some (.int z) ∧ h = h0 ∧ (cd = 0 → z = 1) ∧ (¬ cd = 0 → z = 0)
set_option maxRecDepth 65536 in
set_option maxHeartbeats 40000000 in
theorem ct_lat (l : Launch) (Z : State) (a0 : Array Value) (hw : ∀ d ∈ tables_1, d.before a0 Z = true) (G1 : Int32) (G3 : Value) (OS : Sts Z G1 G3) (hEL : EW Z a0 EL) (hSA : ∀ a ∈ Bundle.stringAtoms, a.before a0 Z = true) (x : Addr) (cd : Int32) {h0 : Heap} (O : Ext Z.heap h0) (C0 : Fld Z h0 x "java/lang/String" "coder" "B" (.int cd)) : Ct l Z (⟨"java/lang/String", "isLatin1", "()Z"⟩ : MethodName) jdk_42_method_154_code 1 (some .boolean) rm_lat #[(.ref x)] h0 (Q_lat Z x cd h0) := by
  refine Ct.of_body (Ls := #[.val (.ref x)]) (by decide +kernel) O (fun m => by first | rfl | (simp [entryFrame, mkF, argsToLocals, Value.category]; done) | (rcases ref_cases (Sts.ref OS) with rfl | ⟨r, rfl⟩ <;> rfl)) ?_
  intro p e s m below meth c T0 X0 e0
  subst e0
  refine E_getstatic X0 d_lat_0 (hw _ (List.mem_of_getElem? (i := 20) rfl)) Via.refl OS.1 (pc' := 3) rfl ?_
  intro T1 X2 e3
  rw [← e3] at C0
  refine E_ifF X2 d_lat_3 (XT.i0_eq_f OS.2.1) (pc' := 6) rfl ?_
  refine E_aloadN X2 d_lat_6 rfl rfl (pc' := 7) rfl ?_
  refine E_getfield X2 d_lat_7 (hw _ (List.mem_of_getElem? (i := 32) rfl)) Via.refl C0 (pc' := 10) rfl ?_
  intro T4 X5 e6
  rw [← e6] at C0
  by_cases hc : cd = 0
  · skip
    refine E_ifF X5 d_lat_10 (XT.i0_ne_f hc) (pc' := 13) rfl ?_
    refine E_iconst X5 (v := (1 : Int32)) d_lat_13 rfl (pc' := 14) rfl ?_
    refine E_goto X5 d_lat_14 (pc' := 18) (by decide) rfl ?_
    exact E_ireturnN X5 (t := .boolean) d_lat_18 rfl (by simp) (by decide) (by decide) (⟨_, rfl, (e6.trans e3), fun _ => rfl, fun q => absurd hc q⟩)
  · skip
    refine E_ifT X5 d_lat_10 (XT.i0_ne_t hc) (pc' := 17) (by decide) rfl ?_
    refine E_iconst X5 (v := (0 : Int32)) d_lat_17 rfl (pc' := 18) rfl ?_
    exact E_ireturnN X5 (t := .boolean) d_lat_18 rfl (by simp) (by decide) (by decide) (⟨_, rfl, (e6.trans e3), fun q => absurd q hc, fun _ => rfl⟩)
theorem d_slen_0 : decode jdk_42_method_54_code 0 = .ok (.aload_n 0, 1) := by decide +kernel
theorem d_slen_1 : decode jdk_42_method_54_code 1 = .ok (.getfield 9, 3) := by decide +kernel
theorem d_slen_4 : decode jdk_42_method_54_code 4 = .ok (.arraylength, 1) := by decide +kernel
theorem d_slen_5 : decode jdk_42_method_54_code 5 = .ok (.aload_n 0, 1) := by decide +kernel
theorem d_slen_6 : decode jdk_42_method_54_code 6 = .ok (.invokevirtual 335, 3) := by decide +kernel
theorem d_slen_9 : decode jdk_42_method_54_code 9 = .ok (.ishr, 1) := by decide +kernel
theorem d_slen_10 : decode jdk_42_method_54_code 10 = .ok (.ireturn, 1) := by decide +kernel
abbrev rm_slen : Room := ({ frames := 1, cells := 0, slots := 0, locals := 13 } : Room)
def Q_slen (Z : State) (x t : Addr) (cs : List Int32) (h0 : Heap) (v : Option Value) (h : Heap) : Prop := v = some (.int (Int32.ofNat cs.length)) ∧ h = h0
set_option maxRecDepth 65536 in
set_option maxHeartbeats 40000000 in
theorem ct_slen (l : Launch) (Z : State) (a0 : Array Value) (hw : ∀ d ∈ tables_1, d.before a0 Z = true) (G1 : Int32) (G3 : Value) (OS : Sts Z G1 G3) (hEL : EW Z a0 EL) (hSA : ∀ a ∈ Bundle.stringAtoms, a.before a0 Z = true) (x t : Addr) (cs : List Int32) {h0 : Heap} (O : Ext Z.heap h0) (S0 : OStr Z h0 x t cs) : Ct l Z (⟨"java/lang/String", "length", "()I"⟩ : MethodName) jdk_42_method_54_code 1 (some .int) rm_slen #[(.ref x)] h0 (Q_slen Z x t cs h0) := by
  refine Ct.of_body (Ls := #[.val (.ref x)]) (by decide +kernel) O (fun m => by first | rfl | (simp [entryFrame, mkF, argsToLocals, Value.category]; done) | (rcases ref_cases (Sts.ref OS) with rfl | ⟨r, rfl⟩ <;> rfl)) ?_
  intro p e s m below meth c T0 X0 e0
  subst e0
  obtain ⟨kb, cd, N, vs, E0, F0, C0, V0, hcod, hpc, hlen⟩ := S0
  refine E_aloadN X0 d_slen_0 rfl rfl (pc' := 1) rfl ?_
  refine E_getfield X0 d_slen_1 (hw _ (List.mem_of_getElem? (i := 34) rfl)) Via.refl F0 (pc' := 4) rfl ?_
  intro T1 X2 e3
  rw [← e3] at E0 F0 C0 V0
  refine E_arraylength X2 d_slen_4 V0 (pc' := 5) rfl ?_
  refine E_aloadN X2 d_slen_5 rfl rfl (pc' := 6) rfl ?_
  refine E_virtual X2 (rm := rm_cod) (a := x) (D := "java/lang/String") d_slen_6 (hw _ (List.mem_of_getElem? (i := 45) rfl)) (hw _ (List.mem_of_getElem? (i := 46) rfl)) (hw _ (List.mem_of_getElem? (i := 48) rfl)) (hw _ (List.mem_of_getElem? (i := 47) rfl)) (notFace_of_selects (args := #[]) (mvT X2.hZ (hw _ (List.mem_of_getElem? (i := 48) rfl)))) (by decide) E0 (hw _ (List.mem_of_getElem? (i := 9) rfl)) (hw _ (List.mem_of_getElem? (i := 49) rfl)) (argsL := []) (st := [(.int N)]) rfl (ct_cod l Z a0 hw G1 G3 OS hEL hSA x cd X2.old C0 hcod.cd8) (lenOf (pd_0) rfl) rfl (by decide) (by decide) (by decide) (Nat.le_of_ble_eq_true rfl)  (pc' := 9) rfl ?_
  intro T4 _ X5 hQ6
  obtain ⟨rfl, e7⟩ := hQ6
  rw [← e7] at E0 F0 C0 V0
  show Ends p e below s Z _ _ _ T4 (mkF m 9 #[.val (.ref x)] [(.int cd), (.int N)])
  refine E_ishr X5 (v := (Int32.ofNat cs.length)) d_slen_9 (hcod.len hlen) (pc' := 10) rfl ?_
  exact E_ireturnI X5 d_slen_10 rfl (by decide) (by decide) (⟨rfl, (e7.trans e3)⟩)
theorem d_compress5_0 : decode jdk_52_method_21_code 0 = .ok (.iconst 0, 1) := by decide +kernel
theorem d_compress5_1 : decode jdk_52_method_21_code 1 = .ok (.istore 5, 2) := by decide +kernel
theorem d_compress5_3 : decode jdk_52_method_21_code 3 = .ok (.iload 5, 2) := by decide +kernel
theorem d_compress5_5 : decode jdk_52_method_21_code 5 = .ok (.iload 4, 2) := by decide +kernel
theorem d_compress5_7 : decode jdk_52_method_21_code 7 = .ok (.if_icmp .ge 37, 3) := by decide +kernel
theorem d_compress5_10 : decode jdk_52_method_21_code 10 = .ok (.aload_n 0, 1) := by decide +kernel
theorem d_compress5_11 : decode jdk_52_method_21_code 11 = .ok (.iload_n 1, 1) := by decide +kernel
theorem d_compress5_12 : decode jdk_52_method_21_code 12 = .ok (.caload, 1) := by decide +kernel
theorem d_compress5_13 : decode jdk_52_method_21_code 13 = .ok (.istore 6, 2) := by decide +kernel
theorem d_compress5_15 : decode jdk_52_method_21_code 15 = .ok (.iload 6, 2) := by decide +kernel
theorem d_compress5_17 : decode jdk_52_method_21_code 17 = .ok (.sipush 255, 3) := by decide +kernel
theorem d_compress5_20 : decode jdk_52_method_21_code 20 = .ok (.if_icmp .le 6, 3) := by decide +kernel
theorem d_compress5_23 : decode jdk_52_method_21_code 23 = .ok (.iload 5, 2) := by decide +kernel
theorem d_compress5_25 : decode jdk_52_method_21_code 25 = .ok (.ireturn, 1) := by decide +kernel
theorem d_compress5_26 : decode jdk_52_method_21_code 26 = .ok (.aload_n 2, 1) := by decide +kernel
theorem d_compress5_27 : decode jdk_52_method_21_code 27 = .ok (.iload_n 3, 1) := by decide +kernel
theorem d_compress5_28 : decode jdk_52_method_21_code 28 = .ok (.iload 6, 2) := by decide +kernel
theorem d_compress5_30 : decode jdk_52_method_21_code 30 = .ok (.i2b, 1) := by decide +kernel
theorem d_compress5_31 : decode jdk_52_method_21_code 31 = .ok (.bastore, 1) := by decide +kernel
theorem d_compress5_32 : decode jdk_52_method_21_code 32 = .ok (.iinc 1 1, 3) := by decide +kernel
theorem d_compress5_35 : decode jdk_52_method_21_code 35 = .ok (.iinc 3 1, 3) := by decide +kernel
theorem d_compress5_38 : decode jdk_52_method_21_code 38 = .ok (.iinc 5 1, 3) := by decide +kernel
theorem d_compress5_41 : decode jdk_52_method_21_code 41 = .ok (.goto (-38), 3) := by decide +kernel
theorem d_compress5_44 : decode jdk_52_method_21_code 44 = .ok (.iload 4, 2) := by decide +kernel
theorem d_compress5_46 : decode jdk_52_method_21_code 46 = .ok (.ireturn, 1) := by decide +kernel
abbrev rm_compress5 : Room := ({ frames := 0, cells := 0, slots := 0, locals := 0 } : Room)
def Q_compress5 (Z : State) (b t : Addr) (kC kb : ClassId) (cs : List Int32) (dv : Value) (h0 : Heap) (v : Option Value) (h : Heap) : Prop := Keep h0 h [t] ∧ ((v = some (.int (Int32.ofNat cs.length)) ∧ (∀ c ∈ cs, ¬ (255 : Int32) < c) ∧ Arv Z h t kb .byte (Int32.ofNat cs.length) (cs.map lo8) (.int (0 : Int32))) ∨ (∃ j, j < cs.length ∧ v = some (.int (Int32.ofNat j)) ∧ (255 : Int32) < cs.getD j 0))
set_option maxRecDepth 65536 in
set_option maxHeartbeats 40000000 in
theorem lp_compress5 (l : Launch) (Z : State) (a0 : Array Value) (hw : ∀ d ∈ tables_1, d.before a0 Z = true) (G1 : Int32) (G3 : Value) (OS : Sts Z G1 G3) (hEL : EW Z a0 EL) (hSA : ∀ a ∈ Bundle.stringAtoms, a.before a0 Z = true) (b t : Addr) (kC kb : ClassId) (cs : List Int32) (dv : Value) {h0 : Heap} {p : Program} {e : Env} {s : State} {m : MethodId} {below : List Frame} {meth : Method} {c : Code} (k : Nat) : ∀ {T0 : State} (i : Nat) (o : Slot), Wk l Z rm_compress5 jdk_52_method_21_code 7 (some .int) "java/lang/StringUTF16" "compress" p e s m #[(.ref b), (.int (0 : Int32)), (.ref t), (.int (0 : Int32)), (.int (Int32.ofNat cs.length))] below meth c T0 0 0 → (i + k = cs.length) → (o = .unset ∨ ∃ w, o = .val w ∧ w.category = 1) → (cs.length ≤ 4000) → (Arv Z T0.heap b kC .char (Int32.ofNat cs.length) (cs.map Value.int) dv) → (Arv Z T0.heap t kb .byte (Int32.ofNat cs.length) ((cs.take i).map lo8) (.int (0 : Int32))) → (b ≠ t) → (Z.heap.size ≤ t) → (Keep h0 T0.heap [t]) → (∀ c ∈ cs.take i, ¬ (255 : Int32) < c) → Ends p e below s Z (Q_compress5 Z b t kC kb cs dv h0) rm_compress5.cells rm_compress5.slots T0 (mkF m 3 #[.val (.ref b), .val (.int (Int32.ofNat i)), .val (.ref t), .val (.int (Int32.ofNat i)), .val (.int (Int32.ofNat cs.length)), .val (.int (Int32.ofNat i)), o] []) := by
  induction k with
  | zero =>
    intro T0 i o X0 hi hone hlen V0 D0 hbt gt K00 hall
    have hik : i = cs.length := by omega
    subst hik
    rw [List.take_length] at hall
    rw [List.take_length] at D0
    refine E_iload X0 d_compress5_3 rfl (pc' := 5) rfl ?_
    refine E_iload X0 d_compress5_5 rfl (pc' := 7) rfl ?_
    refine E_icT X0 d_compress5_7 (XT.ii_ge_t (o_nlt (Nat.le_refl _) (by omega))) (pc' := 44) (by decide) rfl ?_
    refine E_iload X0 d_compress5_44 rfl (pc' := 46) rfl ?_
    exact E_ireturnI X0 d_compress5_46 rfl (by decide) (by decide) (⟨K00, Or.inl ⟨rfl, hall, D0⟩⟩)
  | succ k ih =>
    intro T0 i o X0 hi hone hlen V0 D0 hbt gt K00 hall
    have hlt : i < cs.length := by omega
    obtain ⟨ch, hch⟩ : ∃ c, c = cs.getD i 0 := ⟨_, rfl⟩
    refine E_iload X0 d_compress5_3 rfl (pc' := 5) rfl ?_
    refine E_iload X0 d_compress5_5 rfl (pc' := 7) rfl ?_
    refine E_icF X0 d_compress5_7 (XT.ii_ge_f (o_lt hlt (by omega))) (pc' := 10) rfl ?_
    refine E_aloadN X0 d_compress5_10 rfl rfl (pc' := 11) rfl ?_
    refine E_iloadN X0 d_compress5_11 rfl (pc' := 12) rfl ?_
    refine E_caload X0 (v := (.int ch)) d_compress5_12 V0 ⟨o_nn (by omega), o_lt hlt (by omega)⟩ (by rw [own_getD Value.int hlt hlen, hch]) (pc' := 13) rfl ?_
    refine E_istore X0 d_compress5_13 (l' := #[.val (.ref b), .val (.int (Int32.ofNat i)), .val (.ref t), .val (.int (Int32.ofNat i)), .val (.int (Int32.ofNat cs.length)), .val (.int (Int32.ofNat i)), .val (.int ch)]) (XS.store1 rfl hone rfl) (pc' := 15) rfl ?_
    refine E_iload X0 d_compress5_15 rfl (pc' := 17) rfl ?_
    refine E_sipush X0 (v := (255 : Int32)) d_compress5_17 rfl (pc' := 20) rfl ?_
    by_cases hc : (255 : Int32) < ch
    · skip
      refine E_icF X0 d_compress5_20 (XT.ii_le_f hc) (pc' := 23) rfl ?_
      refine E_iload X0 d_compress5_23 rfl (pc' := 25) rfl ?_
      exact E_ireturnI X0 d_compress5_25 rfl (by decide) (by decide) (⟨K00, Or.inr ⟨i, hlt, rfl, hch ▸ hc⟩⟩)
    · skip
      refine E_icT X0 d_compress5_20 (XT.ii_le_t hc) (pc' := 26) (by decide) rfl ?_
      refine E_aloadN X0 d_compress5_26 rfl rfl (pc' := 27) rfl ?_
      refine E_iloadN X0 d_compress5_27 rfl (pc' := 28) rfl ?_
      refine E_iload X0 d_compress5_28 rfl (pc' := 30) rfl ?_
      refine E_i2b X0 d_compress5_30 rfl (pc' := 31) rfl ?_
      refine E_bastoreA X0 (y := (ch).toInt8.toInt32) d_compress5_31 (o_b8 _) D0 ⟨o_nn (by omega), o_lt hlt (by omega)⟩ (by rw [o_cl (by omega), own_tl lo8 (by omega)]) gt (pc' := 32) rfl ?_
      intro T1 X2 K3 V4
      have KK5 := K00.trans K3 (allS (Or.inl (by simp)) (fun x q => nomatch q))
      have Arv_6 := V0.keep K3 (ninS hbt nin0)
      have V7 : Arv Z T1.heap t kb .byte (Int32.ofNat cs.length) ((cs.take i).map lo8 ++ [lo8 ch]) (.int (0 : Int32)) := V4
      refine E_iinc X2 (y := (Int32.ofNat (i + 1))) d_compress5_32 o_add rfl (l' := #[.val (.ref b), .val (.int (Int32.ofNat (i + 1))), .val (.ref t), .val (.int (Int32.ofNat i)), .val (.int (Int32.ofNat cs.length)), .val (.int (Int32.ofNat i)), .val (.int ch)]) rfl (pc' := 35) rfl ?_
      refine E_iinc X2 (y := (Int32.ofNat (i + 1))) d_compress5_35 o_add rfl (l' := #[.val (.ref b), .val (.int (Int32.ofNat (i + 1))), .val (.ref t), .val (.int (Int32.ofNat (i + 1))), .val (.int (Int32.ofNat cs.length)), .val (.int (Int32.ofNat i)), .val (.int ch)]) rfl (pc' := 38) rfl ?_
      refine E_iinc X2 (y := (Int32.ofNat (i + 1))) d_compress5_38 o_add rfl (l' := #[.val (.ref b), .val (.int (Int32.ofNat (i + 1))), .val (.ref t), .val (.int (Int32.ofNat (i + 1))), .val (.int (Int32.ofNat cs.length)), .val (.int (Int32.ofNat (i + 1))), .val (.int ch)]) rfl (pc' := 41) rfl ?_
      refine E_goto X2 d_compress5_41 (pc' := 3) (by decide) rfl ?_
      have hV2 : Arv Z T1.heap t kb .byte (Int32.ofNat cs.length) ((cs.take (i + 1)).map lo8) (.int (0 : Int32)) := by rw [own_take lo8 hlt, ← hch]; exact V7
      have hall2 := own_all hlt hch hall hc
      exact ih (i + 1) (.val (.int ch)) X2 (by omega) (Or.inr ⟨_, rfl, rfl⟩) hlen Arv_6 hV2 hbt gt KK5 hall2
set_option maxRecDepth 65536 in
set_option maxHeartbeats 40000000 in
theorem ct_compress5 (l : Launch) (Z : State) (a0 : Array Value) (hw : ∀ d ∈ tables_1, d.before a0 Z = true) (G1 : Int32) (G3 : Value) (OS : Sts Z G1 G3) (hEL : EW Z a0 EL) (hSA : ∀ a ∈ Bundle.stringAtoms, a.before a0 Z = true) (b t : Addr) (kC kb : ClassId) (cs : List Int32) (dv : Value) {h0 : Heap} (O : Ext Z.heap h0) (hlen : cs.length ≤ 4000) (V0 : Arv Z h0 b kC .char (Int32.ofNat cs.length) (cs.map Value.int) dv) (D0 : Arv Z h0 t kb .byte (Int32.ofNat cs.length) ([]) (.int (0 : Int32))) (hbt : b ≠ t) (gt : Z.heap.size ≤ t) : Ct l Z (⟨"java/lang/StringUTF16", "compress", "([CI[BII)I"⟩ : MethodName) jdk_52_method_21_code 7 (some .int) rm_compress5 #[(.ref b), (.int (0 : Int32)), (.ref t), (.int (0 : Int32)), (.int (Int32.ofNat cs.length))] h0 (Q_compress5 Z b t kC kb cs dv h0) := by
  refine Ct.of_body (Ls := #[.val (.ref b), .val (.int (0 : Int32)), .val (.ref t), .val (.int (0 : Int32)), .val (.int (Int32.ofNat cs.length)), .unset, .unset]) (by decide +kernel) O (fun m => by first | rfl | (simp [entryFrame, mkF, argsToLocals, Value.category]; done) | (rcases ref_cases (Sts.ref OS) with rfl | ⟨r, rfl⟩ <;> rfl)) ?_
  intro p e s m below meth c T0 X0 e0
  subst e0
  refine E_iconst X0 (v := (0 : Int32)) d_compress5_0 rfl (pc' := 1) rfl ?_
  refine E_istore X0 d_compress5_1 (l' := #[.val (.ref b), .val (.int (0 : Int32)), .val (.ref t), .val (.int (0 : Int32)), .val (.int (Int32.ofNat cs.length)), .val (.int (0 : Int32)), .unset]) rfl (pc' := 3) rfl ?_
  exact lp_compress5 l Z a0 hw G1 G3 OS hEL hSA b t kC kb cs dv cs.length 0 .unset X0 (by omega) (Or.inl rfl) hlen V0 D0 hbt gt (Keep.refl _ _) (fun c hc => by simp at hc)
theorem d_cfl_0 : decode jdk_52_method_15_code 0 = .ok (.iload_n 1, 1) := by decide +kernel
theorem d_cfl_1 : decode jdk_52_method_15_code 1 = .ok (.aload_n 0, 1) := by decide +kernel
theorem d_cfl_2 : decode jdk_52_method_15_code 2 = .ok (.arraylength, 1) := by decide +kernel
theorem d_cfl_3 : decode jdk_52_method_15_code 3 = .ok (.isub, 1) := by decide +kernel
theorem d_cfl_4 : decode jdk_52_method_15_code 4 = .ok (.bipush 31, 2) := by decide +kernel
theorem d_cfl_6 : decode jdk_52_method_15_code 6 = .ok (.iushr, 1) := by decide +kernel
theorem d_cfl_7 : decode jdk_52_method_15_code 7 = .ok (.i2b, 1) := by decide +kernel
theorem d_cfl_8 : decode jdk_52_method_15_code 8 = .ok (.ireturn, 1) := by decide +kernel
abbrev rm_cfl : Room := ({ frames := 0, cells := 0, slots := 0, locals := 0 } : Room)
def Q_cfl (Z : State) (t : Addr) (kb : ClassId) (N n z : Int32) (vs : List Value) (h0 : Heap) (v : Option Value) (h : Heap) : Prop := v = some (.int z) ∧ h = h0
set_option maxRecDepth 65536 in
set_option maxHeartbeats 40000000 in
theorem ct_cfl (l : Launch) (Z : State) (a0 : Array Value) (hw : ∀ d ∈ tables_1, d.before a0 Z = true) (G1 : Int32) (G3 : Value) (OS : Sts Z G1 G3) (hEL : EW Z a0 EL) (hSA : ∀ a ∈ Bundle.stringAtoms, a.before a0 Z = true) (t : Addr) (kb : ClassId) (N n z : Int32) (vs : List Value) {h0 : Heap} (O : Ext Z.heap h0) (V0 : Arv Z h0 t kb .byte N vs (.int (0 : Int32))) (hz : nar .byte ((((n - N).toUInt32 >>> ((31 : Int32) &&& 31).toUInt32).toInt32).toInt8.toInt32) = z) : Ct l Z (⟨"java/lang/StringUTF16", "coderFromArrayLen", "([BI)B"⟩ : MethodName) jdk_52_method_15_code 2 (some .byte) rm_cfl #[(.ref t), (.int n)] h0 (Q_cfl Z t kb N n z vs h0) := by
  refine Ct.of_body (Ls := #[.val (.ref t), .val (.int n)]) (by decide +kernel) O (fun m => by first | rfl | (simp [entryFrame, mkF, argsToLocals, Value.category]; done) | (rcases ref_cases (Sts.ref OS) with rfl | ⟨r, rfl⟩ <;> rfl)) ?_
  intro p e s m below meth c T0 X0 e0
  subst e0
  refine E_iloadN X0 d_cfl_0 rfl (pc' := 1) rfl ?_
  refine E_aloadN X0 d_cfl_1 rfl rfl (pc' := 2) rfl ?_
  refine E_arraylength X0 d_cfl_2 V0 (pc' := 3) rfl ?_
  refine E_isub X0 d_cfl_3 rfl (pc' := 4) rfl ?_
  refine E_bipush X0 (v := (31 : Int32)) d_cfl_4 rfl (pc' := 6) rfl ?_
  refine E_iushr X0 d_cfl_6 rfl (pc' := 7) rfl ?_
  refine E_i2b X0 d_cfl_7 rfl (pc' := 8) rfl ?_
  exact E_ireturnN X0 (t := .byte) d_cfl_8 rfl (by simp) (by decide) (by decide) (⟨by rw [hz], rfl⟩)
theorem d_nbl_0 : decode jdk_52_method_3_code 0 = .ok (.iload_n 0, 1) := by decide +kernel
theorem d_nbl_1 : decode jdk_52_method_3_code 1 = .ok (.ifCond .ge 11, 3) := by decide +kernel
theorem d_nbl_12 : decode jdk_52_method_3_code 12 = .ok (.iload_n 0, 1) := by decide +kernel
theorem d_nbl_13 : decode jdk_52_method_3_code 13 = .ok (.ldc 20, 2) := by decide +kernel
theorem d_nbl_15 : decode jdk_52_method_3_code 15 = .ok (.if_icmp .lt 40, 3) := by decide +kernel
theorem d_nbl_55 : decode jdk_52_method_3_code 55 = .ok (.iload_n 0, 1) := by decide +kernel
theorem d_nbl_56 : decode jdk_52_method_3_code 56 = .ok (.iconst 1, 1) := by decide +kernel
theorem d_nbl_57 : decode jdk_52_method_3_code 57 = .ok (.ishl, 1) := by decide +kernel
theorem d_nbl_58 : decode jdk_52_method_3_code 58 = .ok (.ireturn, 1) := by decide +kernel
abbrev rm_nbl : Room := ({ frames := 0, cells := 0, slots := 0, locals := 0 } : Room)
def Q_nbl (Z : State) (n : Nat) (h0 : Heap) (v : Option Value) (h : Heap) : Prop := v = some (.int (Int32.ofNat (2 * n))) ∧ h = h0
set_option maxRecDepth 65536 in
set_option maxHeartbeats 40000000 in
theorem ct_nbl (l : Launch) (Z : State) (a0 : Array Value) (hw : ∀ d ∈ tables_1, d.before a0 Z = true) (G1 : Int32) (G3 : Value) (OS : Sts Z G1 G3) (hEL : EW Z a0 EL) (hSA : ∀ a ∈ Bundle.stringAtoms, a.before a0 Z = true) (n : Nat) {h0 : Heap} (O : Ext Z.heap h0) (hn : n ≤ 4000) : Ct l Z (⟨"java/lang/StringUTF16", "newBytesLength", "(I)I"⟩ : MethodName) jdk_52_method_3_code 1 (some .int) rm_nbl #[(.int (Int32.ofNat n))] h0 (Q_nbl Z n h0) := by
  refine Ct.of_body (Ls := #[.val (.int (Int32.ofNat n))]) (by decide +kernel) O (fun m => by first | rfl | (simp [entryFrame, mkF, argsToLocals, Value.category]; done) | (rcases ref_cases (Sts.ref OS) with rfl | ⟨r, rfl⟩ <;> rfl)) ?_
  intro p e s m below meth c T0 X0 e0
  subst e0
  refine E_iloadN X0 d_nbl_0 rfl (pc' := 1) rfl ?_
  refine E_ifT X0 d_nbl_1 (XT.i0_ge_t (o_nn (by omega))) (pc' := 12) (by decide) rfl ?_
  refine E_iloadN X0 d_nbl_12 rfl (pc' := 13) rfl ?_
  refine E_ldcI X0 (v := (1073741823 : Int32)) d_nbl_13 (hw _ (List.mem_of_getElem? (i := 78) rfl)) (pc' := 15) rfl ?_
  refine E_icT X0 d_nbl_15 (XT.ii_lt_t (o_ltc hn)) (pc' := 55) (by decide) rfl ?_
  refine E_iloadN X0 d_nbl_55 rfl (pc' := 56) rfl ?_
  refine E_iconst X0 (v := (1 : Int32)) d_nbl_56 rfl (pc' := 57) rfl ?_
  refine E_ishl X0 (v := (Int32.ofNat (2 * n))) d_nbl_57 (o_two (by omega)) (pc' := 58) rfl ?_
  exact E_ireturnI X0 d_nbl_58 rfl (by decide) (by decide) (⟨rfl, rfl⟩)
theorem d_nbf_0 : decode jdk_52_method_2_code 0 = .ok (.iload_n 0, 1) := by decide +kernel
theorem d_nbf_1 : decode jdk_52_method_2_code 1 = .ok (.invokestatic 11, 3) := by decide +kernel
theorem d_nbf_4 : decode jdk_52_method_2_code 4 = .ok (.newarray .byte, 2) := by decide +kernel
theorem d_nbf_6 : decode jdk_52_method_2_code 6 = .ok (.areturn, 1) := by decide +kernel
abbrev rm_nbf : Room := ({ frames := 1, cells := 1, slots := 6, locals := 12 } : Room)
def Q_nbf (Z : State) (n : Nat) (h0 : Heap) (v : Option Value) (h : Heap) : Prop := ∃ t kb, v = some (.ref t) ∧ Keep h0 h [] ∧ h0.size ≤ t ∧ Arv Z h t kb .byte (Int32.ofNat (2 * n)) [] (.int (0 : Int32))
set_option maxRecDepth 65536 in
set_option maxHeartbeats 40000000 in
theorem ct_nbf (l : Launch) (Z : State) (a0 : Array Value) (hw : ∀ d ∈ tables_1, d.before a0 Z = true) (G1 : Int32) (G3 : Value) (OS : Sts Z G1 G3) (hEL : EW Z a0 EL) (hSA : ∀ a ∈ Bundle.stringAtoms, a.before a0 Z = true) (n : Nat) {h0 : Heap} (O : Ext Z.heap h0) (hmx : n ≤ 3) (hn : n ≤ 4000) : Ct l Z (⟨"java/lang/StringUTF16", "newBytesFor", "(I)[B"⟩ : MethodName) jdk_52_method_2_code 1 (some (.array .byte)) rm_nbf #[(.int (Int32.ofNat n))] h0 (Q_nbf Z n h0) := by
  refine Ct.of_body (Ls := #[.val (.int (Int32.ofNat n))]) (by decide +kernel) O (fun m => by first | rfl | (simp [entryFrame, mkF, argsToLocals, Value.category]; done) | (rcases ref_cases (Sts.ref OS) with rfl | ⟨r, rfl⟩ <;> rfl)) ?_
  intro p e s m below meth c T0 X0 e0
  subst e0
  have K00 := Keep.refl T0.heap []
  refine E_iloadN X0 d_nbf_0 rfl (pc' := 1) rfl ?_
  refine E_static X0 (rm := rm_nbl) d_nbf_1 (hw _ (List.mem_of_getElem? (i := 75) rfl)) (hw _ (List.mem_of_getElem? (i := 76) rfl)) (hw _ (List.mem_of_getElem? (i := 23) rfl)) (hw _ (List.mem_of_getElem? (i := 77) rfl)) (by decide) (argsL := [(.int (Int32.ofNat n))]) (st := []) rfl (ct_nbl l Z a0 hw G1 G3 OS hEL hSA n X0.old hn) (lenOf (pd_1) rfl) rfl (by decide) (by decide) (by decide) (Nat.le_of_ble_eq_true rfl)  (pc' := 4) rfl ?_
  intro T1 _ X2 hQ3
  obtain ⟨rfl, e4⟩ := hQ3
  have KK5 := own_keq K00 e4
  show Ends p e below s Z _ _ _ T1 (mkF m 4 #[.val (.int (Int32.ofNat n))] [(.int (Int32.ofNat (2 * n)))])
  refine E_newarray X2 6 d_nbf_4 (hw _ (List.mem_of_getElem? (i := 25) rfl)) (o_nn (by omega)) (by rw [o_cl (by omega)]; omega) (by decide) (by decide) (by decide) (pc' := 6) rfl ?_
  intro T6 b8 k12 X7 hb9 K10 V11
  have sz13 : T0.heap.size ≤ b8 := Nat.le_trans KK5.1 (Nat.le_of_eq hb9.symm)
  have KK14 := KK5.trans K10 (fun x q => nomatch q)
  have g15 : Z.heap.size ≤ b8 := Nat.le_trans X2.le (Nat.le_of_eq hb9.symm)
  have V16 : Arv Z T6.heap b8 k12 .byte (Int32.ofNat (2 * n)) [] (.int (0 : Int32)) := V11
  exact E_areturn X7 (t := (.array .byte)) d_nbf_6 rfl rfl rfl rfl (by decide) (by decide) (⟨b8, k12, rfl, KK14, sz13, V16⟩)
theorem d_putc_0 : decode jdk_52_method_4_code 0 = .ok (.getstatic 44, 3) := by decide +kernel
theorem d_putc_3 : decode jdk_52_method_4_code 3 = .ok (.ifCond .ne 25, 3) := by decide +kernel
theorem d_putc_28 : decode jdk_52_method_4_code 28 = .ok (.iload_n 1, 1) := by decide +kernel
theorem d_putc_29 : decode jdk_52_method_4_code 29 = .ok (.iconst 1, 1) := by decide +kernel
theorem d_putc_30 : decode jdk_52_method_4_code 30 = .ok (.ishl, 1) := by decide +kernel
theorem d_putc_31 : decode jdk_52_method_4_code 31 = .ok (.istore_n 1, 1) := by decide +kernel
theorem d_putc_32 : decode jdk_52_method_4_code 32 = .ok (.aload_n 0, 1) := by decide +kernel
theorem d_putc_33 : decode jdk_52_method_4_code 33 = .ok (.iload_n 1, 1) := by decide +kernel
theorem d_putc_34 : decode jdk_52_method_4_code 34 = .ok (.iinc 1 1, 3) := by decide +kernel
theorem d_putc_37 : decode jdk_52_method_4_code 37 = .ok (.iload_n 2, 1) := by decide +kernel
theorem d_putc_38 : decode jdk_52_method_4_code 38 = .ok (.getstatic 59, 3) := by decide +kernel
theorem d_putc_41 : decode jdk_52_method_4_code 41 = .ok (.ishr, 1) := by decide +kernel
theorem d_putc_42 : decode jdk_52_method_4_code 42 = .ok (.i2b, 1) := by decide +kernel
theorem d_putc_43 : decode jdk_52_method_4_code 43 = .ok (.bastore, 1) := by decide +kernel
theorem d_putc_44 : decode jdk_52_method_4_code 44 = .ok (.aload_n 0, 1) := by decide +kernel
theorem d_putc_45 : decode jdk_52_method_4_code 45 = .ok (.iload_n 1, 1) := by decide +kernel
theorem d_putc_46 : decode jdk_52_method_4_code 46 = .ok (.iload_n 2, 1) := by decide +kernel
theorem d_putc_47 : decode jdk_52_method_4_code 47 = .ok (.getstatic 63, 3) := by decide +kernel
theorem d_putc_50 : decode jdk_52_method_4_code 50 = .ok (.ishr, 1) := by decide +kernel
theorem d_putc_51 : decode jdk_52_method_4_code 51 = .ok (.i2b, 1) := by decide +kernel
theorem d_putc_52 : decode jdk_52_method_4_code 52 = .ok (.bastore, 1) := by decide +kernel
theorem d_putc_53 : decode jdk_52_method_4_code 53 = .ok (.return_, 1) := by decide +kernel
abbrev rm_putc : Room := ({ frames := 0, cells := 0, slots := 0, locals := 0 } : Room)
def Q_putc (Z : State) (t : Addr) (kb : ClassId) (n i : Nat) (ch : Int32) (vs : List Value) (h0 : Heap) (v : Option Value) (h : Heap) : Prop := v = none ∧ Keep h0 h [t] ∧ Arv Z h t kb .byte (Int32.ofNat (2 * n)) (vs ++ [.int (ch >>> ((0 : Int32) &&& 31)).toInt8.toInt32, .int (ch >>> ((8 : Int32) &&& 31)).toInt8.toInt32]) (.int (0 : Int32))
set_option maxRecDepth 65536 in
set_option maxHeartbeats 40000000 in
theorem ct_putc (l : Launch) (Z : State) (a0 : Array Value) (hw : ∀ d ∈ tables_1, d.before a0 Z = true) (G1 : Int32) (G3 : Value) (OS : Sts Z G1 G3) (hEL : EW Z a0 EL) (hSA : ∀ a ∈ Bundle.stringAtoms, a.before a0 Z = true) (t : Addr) (kb : ClassId) (n i : Nat) (ch : Int32) (vs : List Value) {h0 : Heap} (O : Ext Z.heap h0) (V0 : Arv Z h0 t kb .byte (Int32.ofNat (2 * n)) vs (.int (0 : Int32))) (hn : n ≤ 4000) (hi : i < n) (hvs : vs.length = 2 * i) (gt : Z.heap.size ≤ t) : Ct l Z (⟨"java/lang/StringUTF16", "putChar", "([BII)V"⟩ : MethodName) jdk_52_method_4_code 3 none rm_putc #[(.ref t), (.int (Int32.ofNat i)), (.int ch)] h0 (Q_putc Z t kb n i ch vs h0) := by
  refine Ct.of_body (Ls := #[.val (.ref t), .val (.int (Int32.ofNat i)), .val (.int ch)]) (by decide +kernel) O (fun m => by first | rfl | (simp [entryFrame, mkF, argsToLocals, Value.category]; done) | (rcases ref_cases (Sts.ref OS) with rfl | ⟨r, rfl⟩ <;> rfl)) ?_
  intro p e s m below meth c T0 X0 e0
  subst e0
  have K00 := Keep.refl T0.heap [t]
  refine E_getstatic X0 d_putc_0 (hw _ (List.mem_of_getElem? (i := 82) rfl)) Via.refl OS.2.2.2.2.1 (pc' := 3) rfl ?_
  intro T1 X2 e3
  have KK4 := own_keq K00 e3
  rw [← e3] at V0
  refine E_ifT X2 d_putc_3 (XT.i0_ne_t (by decide)) (pc' := 28) (by decide) rfl ?_
  refine E_iloadN X2 d_putc_28 rfl (pc' := 29) rfl ?_
  refine E_iconst X2 (v := (1 : Int32)) d_putc_29 rfl (pc' := 30) rfl ?_
  refine E_ishl X2 (v := (Int32.ofNat (2 * i))) d_putc_30 (o_two (by omega)) (pc' := 31) rfl ?_
  refine E_istoreN X2 d_putc_31 (l' := #[.val (.ref t), .val (.int (Int32.ofNat (2 * i))), .val (.int ch)]) rfl (pc' := 32) rfl ?_
  refine E_aloadN X2 d_putc_32 rfl rfl (pc' := 33) rfl ?_
  refine E_iloadN X2 d_putc_33 rfl (pc' := 34) rfl ?_
  refine E_iinc X2 (y := (Int32.ofNat (2 * i + 1))) d_putc_34 o_add rfl (l' := #[.val (.ref t), .val (.int (Int32.ofNat (2 * i + 1))), .val (.int ch)]) rfl (pc' := 37) rfl ?_
  refine E_iloadN X2 d_putc_37 rfl (pc' := 38) rfl ?_
  refine E_getstatic X2 d_putc_38 (hw _ (List.mem_of_getElem? (i := 83) rfl)) Via.refl OS.2.2.2.2.2.1 (pc' := 41) rfl ?_
  intro T5 X6 e7
  have KK8 := own_keq KK4 e7
  rw [← e7] at V0
  refine E_ishr X6 d_putc_41 rfl (pc' := 42) rfl ?_
  refine E_i2b X6 d_putc_42 rfl (pc' := 43) rfl ?_
  refine E_bastoreA X6 (y := ((ch >>> ((0 : Int32) &&& 31))).toInt8.toInt32) d_putc_43 (o_b8 _) V0 ⟨o_nn (by omega), o_lt (by omega) (by omega)⟩ (by rw [o_cl (by omega), hvs]) gt (pc' := 44) rfl ?_
  intro T9 X10 K11 V12
  have KK13 := KK8.trans K11 (allS (Or.inl (by simp)) (fun x q => nomatch q))
  have V14 : Arv Z T9.heap t kb .byte (Int32.ofNat (2 * n)) (vs ++ [.int (ch >>> ((0 : Int32) &&& 31)).toInt8.toInt32]) (.int (0 : Int32)) := V12
  refine E_aloadN X10 d_putc_44 rfl rfl (pc' := 45) rfl ?_
  refine E_iloadN X10 d_putc_45 rfl (pc' := 46) rfl ?_
  refine E_iloadN X10 d_putc_46 rfl (pc' := 47) rfl ?_
  refine E_getstatic X10 d_putc_47 (hw _ (List.mem_of_getElem? (i := 84) rfl)) Via.refl OS.2.2.2.2.2.2 (pc' := 50) rfl ?_
  intro T15 X16 e17
  have KK18 := own_keq KK13 e17
  rw [← e17] at V14
  refine E_ishr X16 d_putc_50 rfl (pc' := 51) rfl ?_
  refine E_i2b X16 d_putc_51 rfl (pc' := 52) rfl ?_
  refine E_bastoreA X16 (y := ((ch >>> ((8 : Int32) &&& 31))).toInt8.toInt32) d_putc_52 (o_b8 _) V14 ⟨o_nn (by omega), o_lt (by omega) (by omega)⟩ (by rw [o_cl (by omega), List.length_append, hvs]; rfl) gt (pc' := 53) rfl ?_
  intro T19 X20 K21 V22
  have KK23 := KK18.trans K21 (allS (Or.inl (by simp)) (fun x q => nomatch q))
  have V24 : Arv Z T19.heap t kb .byte (Int32.ofNat (2 * n)) ((vs ++ [.int (ch >>> ((0 : Int32) &&& 31)).toInt8.toInt32]) ++ [.int (ch >>> ((8 : Int32) &&& 31)).toInt8.toInt32]) (.int (0 : Int32)) := V22
  exact E_return X20 d_putc_53 rfl (by decide) (by decide) (⟨rfl, KK23, by have q := V24; rw [List.append_assoc] at q; exact q⟩)
theorem d_tob_0 : decode jdk_52_method_14_code 0 = .ok (.iload_n 2, 1) := by decide +kernel
theorem d_tob_1 : decode jdk_52_method_14_code 1 = .ok (.invokestatic 107, 3) := by decide +kernel
theorem d_tob_4 : decode jdk_52_method_14_code 4 = .ok (.astore_n 3, 1) := by decide +kernel
theorem d_tob_5 : decode jdk_52_method_14_code 5 = .ok (.iconst 0, 1) := by decide +kernel
theorem d_tob_6 : decode jdk_52_method_14_code 6 = .ok (.istore 4, 2) := by decide +kernel
theorem d_tob_8 : decode jdk_52_method_14_code 8 = .ok (.iload 4, 2) := by decide +kernel
theorem d_tob_10 : decode jdk_52_method_14_code 10 = .ok (.iload_n 2, 1) := by decide +kernel
theorem d_tob_11 : decode jdk_52_method_14_code 11 = .ok (.if_icmp .ge 21, 3) := by decide +kernel
theorem d_tob_14 : decode jdk_52_method_14_code 14 = .ok (.aload_n 3, 1) := by decide +kernel
theorem d_tob_15 : decode jdk_52_method_14_code 15 = .ok (.iload 4, 2) := by decide +kernel
theorem d_tob_17 : decode jdk_52_method_14_code 17 = .ok (.aload_n 0, 1) := by decide +kernel
theorem d_tob_18 : decode jdk_52_method_14_code 18 = .ok (.iload_n 1, 1) := by decide +kernel
theorem d_tob_19 : decode jdk_52_method_14_code 19 = .ok (.caload, 1) := by decide +kernel
theorem d_tob_20 : decode jdk_52_method_14_code 20 = .ok (.invokestatic 111, 3) := by decide +kernel
theorem d_tob_23 : decode jdk_52_method_14_code 23 = .ok (.iinc 1 1, 3) := by decide +kernel
theorem d_tob_26 : decode jdk_52_method_14_code 26 = .ok (.iinc 4 1, 3) := by decide +kernel
theorem d_tob_29 : decode jdk_52_method_14_code 29 = .ok (.goto (-21), 3) := by decide +kernel
theorem d_tob_32 : decode jdk_52_method_14_code 32 = .ok (.aload_n 3, 1) := by decide +kernel
theorem d_tob_33 : decode jdk_52_method_14_code 33 = .ok (.areturn, 1) := by decide +kernel
abbrev rm_tob : Room := ({ frames := 2, cells := 1, slots := 6, locals := 24 } : Room)
def Q_tob (Z : State) (b : Addr) (kC : ClassId) (cs : List Int32) (dv : Value) (h0 : Heap) (v : Option Value) (h : Heap) : Prop := ∃ t kb, v = some (.ref t) ∧ Keep h0 h [] ∧ h0.size ≤ t ∧ Arv Z h t kb .byte (Int32.ofNat (2 * cs.length)) (u16 cs) (.int (0 : Int32))
set_option maxRecDepth 65536 in
set_option maxHeartbeats 40000000 in
theorem lp_tob (l : Launch) (Z : State) (a0 : Array Value) (hw : ∀ d ∈ tables_1, d.before a0 Z = true) (G1 : Int32) (G3 : Value) (OS : Sts Z G1 G3) (hEL : EW Z a0 EL) (hSA : ∀ a ∈ Bundle.stringAtoms, a.before a0 Z = true) (b : Addr) (kC : ClassId) (cs : List Int32) (dv : Value) {h0 : Heap} {p : Program} {e : Env} {s : State} {m : MethodId} {below : List Frame} {meth : Method} {c : Code} (k : Nat) : ∀ {T0 : State} (i : Nat) (t : Addr) (kb : ClassId), Wk l Z rm_tob jdk_52_method_14_code 5 (some (.array .byte)) "java/lang/StringUTF16" "toBytes" p e s m #[(.ref b), (.int (0 : Int32)), (.int (Int32.ofNat cs.length))] below meth c T0 1 6 → (i + k = cs.length) → (cs.length ≤ 4000) → (Arv Z T0.heap b kC .char (Int32.ofNat cs.length) (cs.map Value.int) dv) → (Arv Z T0.heap t kb .byte (Int32.ofNat (2 * cs.length)) (u16 (cs.take i)) (.int (0 : Int32))) → (b ≠ t) → (Z.heap.size ≤ t) → (h0.size ≤ t) → (Keep h0 T0.heap []) → Ends p e below s Z (Q_tob Z b kC cs dv h0) rm_tob.cells rm_tob.slots T0 (mkF m 8 #[.val (.ref b), .val (.int (Int32.ofNat i)), .val (.int (Int32.ofNat cs.length)), .val (.ref t), .val (.int (Int32.ofNat i))] []) := by
  induction k with
  | zero =>
    intro T0 i t kb X0 hi hlen V0 D0 hbt gt szt K00
    have hik : i = cs.length := by omega
    subst hik
    rw [List.take_length] at D0
    refine E_iload X0 d_tob_8 rfl (pc' := 10) rfl ?_
    refine E_iloadN X0 d_tob_10 rfl (pc' := 11) rfl ?_
    refine E_icT X0 d_tob_11 (XT.ii_ge_t (o_nlt (Nat.le_refl _) (by omega))) (pc' := 32) (by decide) rfl ?_
    refine E_aloadN X0 d_tob_32 rfl rfl (pc' := 33) rfl ?_
    exact E_areturn X0 (t := (.array .byte)) d_tob_33 rfl rfl rfl rfl (by decide) (by decide) (⟨t, kb, rfl, K00, szt, D0⟩)
  | succ k ih =>
    intro T0 i t kb X0 hi hlen V0 D0 hbt gt szt K00
    have hlt : i < cs.length := by omega
    refine E_iload X0 d_tob_8 rfl (pc' := 10) rfl ?_
    refine E_iloadN X0 d_tob_10 rfl (pc' := 11) rfl ?_
    refine E_icF X0 d_tob_11 (XT.ii_ge_f (o_lt hlt (by omega))) (pc' := 14) rfl ?_
    refine E_aloadN X0 d_tob_14 rfl rfl (pc' := 15) rfl ?_
    refine E_iload X0 d_tob_15 rfl (pc' := 17) rfl ?_
    refine E_aloadN X0 d_tob_17 rfl rfl (pc' := 18) rfl ?_
    refine E_iloadN X0 d_tob_18 rfl (pc' := 19) rfl ?_
    refine E_caload X0 (v := (.int (cs.getD i 0))) d_tob_19 V0 ⟨o_nn (by omega), o_lt hlt (by omega)⟩ (own_getD Value.int hlt hlen) (pc' := 20) rfl ?_
    refine E_static X0 (rm := rm_putc) d_tob_20 (hw _ (List.mem_of_getElem? (i := 79) rfl)) (hw _ (List.mem_of_getElem? (i := 80) rfl)) (hw _ (List.mem_of_getElem? (i := 23) rfl)) (hw _ (List.mem_of_getElem? (i := 81) rfl)) (by decide) (argsL := [(.ref t), (.int (Int32.ofNat i)), (.int (cs.getD i 0))]) (st := []) rfl (ct_putc l Z a0 hw G1 G3 OS hEL hSA t kb cs.length i (cs.getD i 0) (u16 (cs.take i)) X0.old D0 hlen hlt (by rw [u16_len, List.length_take]; omega) gt) (lenOf (pd_2) rfl) rfl (by decide) (by decide) (by decide) (Nat.le_of_ble_eq_true rfl)  (pc' := 23) rfl ?_
    intro T1 _ X2 hQ3
    obtain ⟨rfl, K4, V5⟩ := hQ3
    have KK6 := K00.trans K4 (allS (Or.inr szt) (fun x q => nomatch q))
    have Arv_7 := V0.keep K4 (ninS hbt nin0)
    rw [← u16_take hlt] at V5
    show Ends p e below s Z _ _ _ T1 (mkF m 23 #[.val (.ref b), .val (.int (Int32.ofNat i)), .val (.int (Int32.ofNat cs.length)), .val (.ref t), .val (.int (Int32.ofNat i))] [])
    refine E_iinc X2 (y := (Int32.ofNat (i + 1))) d_tob_23 o_add rfl (l' := #[.val (.ref b), .val (.int (Int32.ofNat (i + 1))), .val (.int (Int32.ofNat cs.length)), .val (.ref t), .val (.int (Int32.ofNat i))]) rfl (pc' := 26) rfl ?_
    refine E_iinc X2 (y := (Int32.ofNat (i + 1))) d_tob_26 o_add rfl (l' := #[.val (.ref b), .val (.int (Int32.ofNat (i + 1))), .val (.int (Int32.ofNat cs.length)), .val (.ref t), .val (.int (Int32.ofNat (i + 1)))]) rfl (pc' := 29) rfl ?_
    refine E_goto X2 d_tob_29 (pc' := 8) (by decide) rfl ?_
    exact ih (i + 1) t kb X2 (by omega) hlen Arv_7 V5 hbt gt szt KK6
set_option maxRecDepth 65536 in
set_option maxHeartbeats 40000000 in
theorem ct_tob (l : Launch) (Z : State) (a0 : Array Value) (hw : ∀ d ∈ tables_1, d.before a0 Z = true) (G1 : Int32) (G3 : Value) (OS : Sts Z G1 G3) (hEL : EW Z a0 EL) (hSA : ∀ a ∈ Bundle.stringAtoms, a.before a0 Z = true) (b : Addr) (kC : ClassId) (cs : List Int32) (dv : Value) {h0 : Heap} (O : Ext Z.heap h0) (hmx : cs.length ≤ 3) (hmx4 : cs.length ≤ 4000) (V0 : Arv Z h0 b kC .char (Int32.ofNat cs.length) (cs.map Value.int) dv) : Ct l Z (⟨"java/lang/StringUTF16", "toBytes", "([CII)[B"⟩ : MethodName) jdk_52_method_14_code 5 (some (.array .byte)) rm_tob #[(.ref b), (.int (0 : Int32)), (.int (Int32.ofNat cs.length))] h0 (Q_tob Z b kC cs dv h0) := by
  refine Ct.of_body (Ls := #[.val (.ref b), .val (.int (0 : Int32)), .val (.int (Int32.ofNat cs.length)), .unset, .unset]) (by decide +kernel) O (fun m => by first | rfl | (simp [entryFrame, mkF, argsToLocals, Value.category]; done) | (rcases ref_cases (Sts.ref OS) with rfl | ⟨r, rfl⟩ <;> rfl)) ?_
  intro p e s m below meth c T0 X0 e0
  subst e0
  have K00 := Keep.refl T0.heap []
  refine E_iloadN X0 d_tob_0 rfl (pc' := 1) rfl ?_
  refine E_static X0 (rm := rm_nbf) d_tob_1 (hw _ (List.mem_of_getElem? (i := 72) rfl)) (hw _ (List.mem_of_getElem? (i := 73) rfl)) (hw _ (List.mem_of_getElem? (i := 23) rfl)) (hw _ (List.mem_of_getElem? (i := 74) rfl)) (by decide) (argsL := [(.int (Int32.ofNat cs.length))]) (st := []) rfl (ct_nbf l Z a0 hw G1 G3 OS hEL hSA cs.length X0.old hmx hmx4) (lenOf (pd_3) rfl) rfl (by decide) (by decide) (by decide) (Nat.le_of_ble_eq_true rfl)  (pc' := 4) rfl ?_
  intro T1 _ X2 hQ3
  obtain ⟨t, kb, rfl, K4, szt, V5⟩ := hQ3
  have hbt : b ≠ t := Nat.ne_of_lt (Nat.lt_of_lt_of_le V0.lt szt)
  have gt : Z.heap.size ≤ t := Nat.le_trans X0.le szt
  have KK6 := K00.trans K4 (fun x q => nomatch q)
  have Arv_7 := V0.keep K4 nin0
  show Ends p e below s Z _ _ _ T1 (mkF m 4 #[.val (.ref b), .val (.int (0 : Int32)), .val (.int (Int32.ofNat cs.length)), .unset, .unset] [(.ref t)])
  refine E_astoreN X2 d_tob_4 rfl (l' := #[.val (.ref b), .val (.int (0 : Int32)), .val (.int (Int32.ofNat cs.length)), .val (.ref t), .unset]) rfl (pc' := 5) rfl ?_
  refine E_iconst X2 (v := (0 : Int32)) d_tob_5 rfl (pc' := 6) rfl ?_
  refine E_istore X2 d_tob_6 (l' := #[.val (.ref b), .val (.int (0 : Int32)), .val (.int (Int32.ofNat cs.length)), .val (.ref t), .val (.int (0 : Int32))]) rfl (pc' := 8) rfl ?_
  exact lp_tob l Z a0 hw G1 G3 OS hEL hSA b kC cs dv cs.length 0 t kb X2 (by omega) hmx4 Arv_7 V5 hbt gt szt KK6
theorem d_compress3_0 : decode jdk_52_method_16_code 0 = .ok (.iload_n 2, 1) := by decide +kernel
theorem d_compress3_1 : decode jdk_52_method_16_code 1 = .ok (.newarray .byte, 2) := by decide +kernel
theorem d_compress3_3 : decode jdk_52_method_16_code 3 = .ok (.astore_n 3, 1) := by decide +kernel
theorem d_compress3_4 : decode jdk_52_method_16_code 4 = .ok (.aload_n 0, 1) := by decide +kernel
theorem d_compress3_5 : decode jdk_52_method_16_code 5 = .ok (.iload_n 1, 1) := by decide +kernel
theorem d_compress3_6 : decode jdk_52_method_16_code 6 = .ok (.aload_n 3, 1) := by decide +kernel
theorem d_compress3_7 : decode jdk_52_method_16_code 7 = .ok (.iconst 0, 1) := by decide +kernel
theorem d_compress3_8 : decode jdk_52_method_16_code 8 = .ok (.iload_n 2, 1) := by decide +kernel
theorem d_compress3_9 : decode jdk_52_method_16_code 9 = .ok (.invokestatic 115, 3) := by decide +kernel
theorem d_compress3_12 : decode jdk_52_method_16_code 12 = .ok (.istore 4, 2) := by decide +kernel
theorem d_compress3_14 : decode jdk_52_method_16_code 14 = .ok (.iload 4, 2) := by decide +kernel
theorem d_compress3_16 : decode jdk_52_method_16_code 16 = .ok (.iload_n 2, 1) := by decide +kernel
theorem d_compress3_17 : decode jdk_52_method_16_code 17 = .ok (.if_icmp .eq 40, 3) := by decide +kernel
theorem d_compress3_20 : decode jdk_52_method_16_code 20 = .ok (.aload_n 0, 1) := by decide +kernel
theorem d_compress3_21 : decode jdk_52_method_16_code 21 = .ok (.iload_n 1, 1) := by decide +kernel
theorem d_compress3_22 : decode jdk_52_method_16_code 22 = .ok (.iload_n 2, 1) := by decide +kernel
theorem d_compress3_23 : decode jdk_52_method_16_code 23 = .ok (.invokestatic 119, 3) := by decide +kernel
theorem d_compress3_26 : decode jdk_52_method_16_code 26 = .ok (.astore 5, 2) := by decide +kernel
theorem d_compress3_28 : decode jdk_52_method_16_code 28 = .ok (.aload 5, 2) := by decide +kernel
theorem d_compress3_30 : decode jdk_52_method_16_code 30 = .ok (.iload 4, 2) := by decide +kernel
theorem d_compress3_32 : decode jdk_52_method_16_code 32 = .ok (.invokestatic 71, 3) := by decide +kernel
theorem d_compress3_35 : decode jdk_52_method_16_code 35 = .ok (.sipush 255, 3) := by decide +kernel
theorem d_compress3_38 : decode jdk_52_method_16_code 38 = .ok (.if_icmp .gt 16, 3) := by decide +kernel
theorem d_compress3_54 : decode jdk_52_method_16_code 54 = .ok (.aload 5, 2) := by decide +kernel
theorem d_compress3_56 : decode jdk_52_method_16_code 56 = .ok (.areturn, 1) := by decide +kernel
theorem d_compress3_57 : decode jdk_52_method_16_code 57 = .ok (.aload_n 3, 1) := by decide +kernel
theorem d_compress3_58 : decode jdk_52_method_16_code 58 = .ok (.areturn, 1) := by decide +kernel
abbrev rm_compress3 : Room := ({ frames := 3, cells := 2, slots := 9, locals := 40 } : Room)
def Q_compress3 (Z : State) (b : Addr) (kC : ClassId) (cs : List Int32) (dv : Value) (h0 : Heap) (v : Option Value) (h : Heap) : Prop := ∃ t kb, v = some (.ref t) ∧ Keep h0 h [] ∧ h0.size ≤ t ∧ (((∀ c ∈ cs, ¬ (255 : Int32) < c) ∧ Arv Z h t kb .byte (Int32.ofNat cs.length) (cs.map lo8) (.int (0 : Int32))) ∨ Arv Z h t kb .byte (Int32.ofNat (2 * cs.length)) (u16 cs) (.int (0 : Int32)))
set_option maxRecDepth 65536 in
set_option maxHeartbeats 40000000 in
theorem ct_compress3 (l : Launch) (Z : State) (a0 : Array Value) (hw : ∀ d ∈ tables_1, d.before a0 Z = true) (G1 : Int32) (G3 : Value) (OS : Sts Z G1 G3) (hEL : EW Z a0 EL) (hSA : ∀ a ∈ Bundle.stringAtoms, a.before a0 Z = true) (b : Addr) (kC : ClassId) (cs : List Int32) (dv : Value) {h0 : Heap} (O : Ext Z.heap h0) (hmx : cs.length ≤ 3) (hmx4 : cs.length ≤ 4000) (hp : ∀ c ∈ cs, ¬ c < 0 ∧ ¬ (65535 : Int32) < c) (V0 : Arv Z h0 b kC .char (Int32.ofNat cs.length) (cs.map Value.int) dv) : Ct l Z (⟨"java/lang/StringUTF16", "compress", "([CII)[B"⟩ : MethodName) jdk_52_method_16_code 6 (some (.array .byte)) rm_compress3 #[(.ref b), (.int (0 : Int32)), (.int (Int32.ofNat cs.length))] h0 (Q_compress3 Z b kC cs dv h0) := by
  refine Ct.of_body (Ls := #[.val (.ref b), .val (.int (0 : Int32)), .val (.int (Int32.ofNat cs.length)), .unset, .unset, .unset]) (by decide +kernel) O (fun m => by first | rfl | (simp [entryFrame, mkF, argsToLocals, Value.category]; done) | (rcases ref_cases (Sts.ref OS) with rfl | ⟨r, rfl⟩ <;> rfl)) ?_
  intro p e s m below meth c T0 X0 e0
  subst e0
  have K00 := Keep.refl T0.heap []
  refine E_iloadN X0 d_compress3_0 rfl (pc' := 1) rfl ?_
  refine E_newarray X0 3 d_compress3_1 (hw _ (List.mem_of_getElem? (i := 25) rfl)) (o_nn (by omega)) (by rw [o_cl (by omega)]; exact hmx) (by decide) (by decide) (by decide) (pc' := 3) rfl ?_
  intro T1 b3 k7 X2 hb4 K5 V6
  have sz8 : T0.heap.size ≤ b3 := Nat.le_trans K00.1 (Nat.le_of_eq hb4.symm)
  have ne9 : b ≠ b3 := Nat.ne_of_lt (Nat.lt_of_lt_of_eq V0.lt hb4.symm)
  have KK10 := K00.trans K5 (fun x q => nomatch q)
  have Arv_11 := V0.keep K5 nin0
  have g12 : Z.heap.size ≤ b3 := Nat.le_trans X0.le (Nat.le_of_eq hb4.symm)
  have V13 : Arv Z T1.heap b3 k7 .byte (Int32.ofNat cs.length) [] (.int (0 : Int32)) := V6
  refine E_astoreN X2 d_compress3_3 rfl (l' := #[.val (.ref b), .val (.int (0 : Int32)), .val (.int (Int32.ofNat cs.length)), .val (.ref b3), .unset, .unset]) rfl (pc' := 4) rfl ?_
  refine E_aloadN X2 d_compress3_4 rfl rfl (pc' := 5) rfl ?_
  refine E_iloadN X2 d_compress3_5 rfl (pc' := 6) rfl ?_
  refine E_aloadN X2 d_compress3_6 rfl rfl (pc' := 7) rfl ?_
  refine E_iconst X2 (v := (0 : Int32)) d_compress3_7 rfl (pc' := 8) rfl ?_
  refine E_iloadN X2 d_compress3_8 rfl (pc' := 9) rfl ?_
  refine E_static X2 (rm := rm_compress5) d_compress3_9 (hw _ (List.mem_of_getElem? (i := 26) rfl)) (hw _ (List.mem_of_getElem? (i := 27) rfl)) (hw _ (List.mem_of_getElem? (i := 23) rfl)) (hw _ (List.mem_of_getElem? (i := 28) rfl)) (by decide) (argsL := [(.ref b), (.int (0 : Int32)), (.ref b3), (.int (0 : Int32)), (.int (Int32.ofNat cs.length))]) (st := []) rfl (ct_compress5 l Z a0 hw G1 G3 OS hEL hSA b b3 kC k7 cs dv X2.old hmx4 Arv_11 V13 ne9 g12) (lenOf (pd_4) rfl) rfl (by decide) (by decide) (by decide) (Nat.le_of_ble_eq_true rfl)  (pc' := 12) rfl ?_
  intro T14 _ X15 hQ16
  obtain ⟨K17, hor⟩ := hQ16
  have KK18 := KK10.trans K17 (allS (Or.inr sz8) (fun x q => nomatch q))
  have Arv_19 := Arv_11.keep K17 (ninS ne9 nin0)
  rcases hor with ⟨rfl, hall, VB⟩ | ⟨j, hj, rfl, hbig⟩
  · skip
    show Ends p e below s Z _ _ _ T14 (mkF m 12 #[.val (.ref b), .val (.int (0 : Int32)), .val (.int (Int32.ofNat cs.length)), .val (.ref b3), .unset, .unset] [(.int (Int32.ofNat cs.length))])
    refine E_istore X15 d_compress3_12 (l' := #[.val (.ref b), .val (.int (0 : Int32)), .val (.int (Int32.ofNat cs.length)), .val (.ref b3), .val (.int (Int32.ofNat cs.length)), .unset]) rfl (pc' := 14) rfl ?_
    refine E_iload X15 d_compress3_14 rfl (pc' := 16) rfl ?_
    refine E_iloadN X15 d_compress3_16 rfl (pc' := 17) rfl ?_
    refine E_icT X15 d_compress3_17 (XT.ii_eq_t rfl) (pc' := 57) (by decide) rfl ?_
    refine E_aloadN X15 d_compress3_57 rfl rfl (pc' := 58) rfl ?_
    exact E_areturn X15 (t := (.array .byte)) d_compress3_58 rfl rfl rfl rfl (by decide) (by decide) (⟨b3, k7, rfl, KK18, sz8, Or.inl ⟨hall, VB⟩⟩)
  · skip
    show Ends p e below s Z _ _ _ T14 (mkF m 12 #[.val (.ref b), .val (.int (0 : Int32)), .val (.int (Int32.ofNat cs.length)), .val (.ref b3), .unset, .unset] [(.int (Int32.ofNat j))])
    refine E_istore X15 d_compress3_12 (l' := #[.val (.ref b), .val (.int (0 : Int32)), .val (.int (Int32.ofNat cs.length)), .val (.ref b3), .val (.int (Int32.ofNat j)), .unset]) rfl (pc' := 14) rfl ?_
    refine E_iload X15 d_compress3_14 rfl (pc' := 16) rfl ?_
    refine E_iloadN X15 d_compress3_16 rfl (pc' := 17) rfl ?_
    refine E_icF X15 d_compress3_17 (XT.ii_eq_f (fun q => by have q2 := congrArg Int32.toInt q; rw [o_int (by omega), o_int (by omega)] at q2; omega)) (pc' := 20) rfl ?_
    refine E_aloadN X15 d_compress3_20 rfl rfl (pc' := 21) rfl ?_
    refine E_iloadN X15 d_compress3_21 rfl (pc' := 22) rfl ?_
    refine E_iloadN X15 d_compress3_22 rfl (pc' := 23) rfl ?_
    refine E_static X15 (rm := rm_tob) d_compress3_23 (hw _ (List.mem_of_getElem? (i := 69) rfl)) (hw _ (List.mem_of_getElem? (i := 70) rfl)) (hw _ (List.mem_of_getElem? (i := 23) rfl)) (hw _ (List.mem_of_getElem? (i := 71) rfl)) (by decide) (argsL := [(.ref b), (.int (0 : Int32)), (.int (Int32.ofNat cs.length))]) (st := []) rfl (ct_tob l Z a0 hw G1 G3 OS hEL hSA b kC cs dv X15.old hmx hmx4 Arv_19) (lenOf (pd_5) rfl) rfl (by decide) (by decide) (by decide) (Nat.le_of_ble_eq_true rfl)  (pc' := 26) rfl ?_
    intro T20 _ X21 hQ22
    obtain ⟨tt, kt, rfl, K23, s24, VT25⟩ := hQ22
    have KK26 := KK18.trans K23 (fun x q => nomatch q)
    have Arv_27 := Arv_19.keep K23 nin0
    have szt : T0.heap.size ≤ tt := Nat.le_trans KK18.1 s24
    show Ends p e below s Z _ _ _ T20 (mkF m 26 #[.val (.ref b), .val (.int (0 : Int32)), .val (.int (Int32.ofNat cs.length)), .val (.ref b3), .val (.int (Int32.ofNat j)), .unset] [(.ref tt)])
    refine E_astore X21 d_compress3_26 rfl (l' := #[.val (.ref b), .val (.int (0 : Int32)), .val (.int (Int32.ofNat cs.length)), .val (.ref b3), .val (.int (Int32.ofNat j)), .val (.ref tt)]) rfl (pc' := 28) rfl ?_
    refine E_aload X21 d_compress3_28 rfl rfl (pc' := 30) rfl ?_
    refine E_iload X21 d_compress3_30 rfl (pc' := 32) rfl ?_
    refine E_static X21 (rm := rm_ugc) d_compress3_32 (hw _ (List.mem_of_getElem? (i := 85) rfl)) (hw _ (List.mem_of_getElem? (i := 86) rfl)) (hw _ (List.mem_of_getElem? (i := 23) rfl)) (hw _ (List.mem_of_getElem? (i := 87) rfl)) (by decide) (argsL := [(.ref tt), (.int (Int32.ofNat j))]) (st := []) rfl (ct_ugc l Z a0 hw G1 G3 OS hEL hSA tt kt cs j X21.old VT25 hj hmx4 (hp _ (own_mem hj))) (lenOf (pd_6) rfl) rfl (by decide) (by decide) (by decide) (Nat.le_of_ble_eq_true rfl)  (pc' := 35) rfl ?_
    intro T28 _ X29 hQ30
    obtain ⟨rfl, e31⟩ := hQ30
    have KK32 := own_keq KK26 e31
    rw [← e31] at Arv_27 VT25
    show Ends p e below s Z _ _ _ T28 (mkF m 35 #[.val (.ref b), .val (.int (0 : Int32)), .val (.int (Int32.ofNat cs.length)), .val (.ref b3), .val (.int (Int32.ofNat j)), .val (.ref tt)] [(.int (cs.getD j 0))])
    refine E_sipush X29 (v := (255 : Int32)) d_compress3_35 rfl (pc' := 38) rfl ?_
    refine E_icT X29 d_compress3_38 (XT.ii_gt_t hbig) (pc' := 54) (by decide) rfl ?_
    refine E_aload X29 d_compress3_54 rfl rfl (pc' := 56) rfl ?_
    exact E_areturn X29 (t := (.array .byte)) d_compress3_56 rfl rfl rfl rfl (by decide) (by decide) (⟨tt, kt, rfl, KK32, szt, Or.inr VT25⟩)
theorem d_init4_0 : decode jdk_42_method_149_code 0 = .ok (.aload_n 0, 1) := by decide +kernel
theorem d_init4_1 : decode jdk_42_method_149_code 1 = .ok (.invokespecial 1, 3) := by decide +kernel
theorem d_init4_4 : decode jdk_42_method_149_code 4 = .ok (.iload_n 3, 1) := by decide +kernel
theorem d_init4_5 : decode jdk_42_method_149_code 5 = .ok (.ifCond .ne 22, 3) := by decide +kernel
theorem d_init4_27 : decode jdk_42_method_149_code 27 = .ok (.getstatic 38, 3) := by decide +kernel
theorem d_init4_30 : decode jdk_42_method_149_code 30 = .ok (.ifCond .eq 28, 3) := by decide +kernel
theorem d_init4_33 : decode jdk_42_method_149_code 33 = .ok (.aload_n 1, 1) := by decide +kernel
theorem d_init4_34 : decode jdk_42_method_149_code 34 = .ok (.iload_n 2, 1) := by decide +kernel
theorem d_init4_35 : decode jdk_42_method_149_code 35 = .ok (.iload_n 3, 1) := by decide +kernel
theorem d_init4_36 : decode jdk_42_method_149_code 36 = .ok (.invokestatic 177, 3) := by decide +kernel
theorem d_init4_39 : decode jdk_42_method_149_code 39 = .ok (.astore 5, 2) := by decide +kernel
theorem d_init4_41 : decode jdk_42_method_149_code 41 = .ok (.aload_n 0, 1) := by decide +kernel
theorem d_init4_42 : decode jdk_42_method_149_code 42 = .ok (.aload 5, 2) := by decide +kernel
theorem d_init4_44 : decode jdk_42_method_149_code 44 = .ok (.iload_n 3, 1) := by decide +kernel
theorem d_init4_45 : decode jdk_42_method_149_code 45 = .ok (.invokestatic 47, 3) := by decide +kernel
theorem d_init4_48 : decode jdk_42_method_149_code 48 = .ok (.putfield 15, 3) := by decide +kernel
theorem d_init4_51 : decode jdk_42_method_149_code 51 = .ok (.aload_n 0, 1) := by decide +kernel
theorem d_init4_52 : decode jdk_42_method_149_code 52 = .ok (.aload 5, 2) := by decide +kernel
theorem d_init4_54 : decode jdk_42_method_149_code 54 = .ok (.putfield 9, 3) := by decide +kernel
theorem d_init4_57 : decode jdk_42_method_149_code 57 = .ok (.return_, 1) := by decide +kernel
abbrev rm_init4 : Room := ({ frames := 4, cells := 2, slots := 9, locals := 57 } : Room)
def Q_init4 (Z : State) (x b : Addr) (kC : ClassId) (cs : List Int32) (dv v0 c0 : Value) (h0 : Heap) (v : Option Value) (h : Heap) : Prop := v = none ∧ Keep h0 h [x] ∧ ∃ t, h0.size ≤ t ∧ OStr Z h x t cs
set_option maxRecDepth 65536 in
set_option maxHeartbeats 40000000 in
theorem ct_init4 (l : Launch) (Z : State) (a0 : Array Value) (hw : ∀ d ∈ tables_1, d.before a0 Z = true) (G1 : Int32) (G3 : Value) (OS : Sts Z G1 G3) (hEL : EW Z a0 EL) (hSA : ∀ a ∈ Bundle.stringAtoms, a.before a0 Z = true) (x b : Addr) (kC : ClassId) (cs : List Int32) (dv v0 c0 : Value) {h0 : Heap} (O : Ext Z.heap h0) (h0l : 0 < cs.length) (hmx : cs.length ≤ 3) (hp : ∀ c ∈ cs, ¬ c < 0 ∧ ¬ (65535 : Int32) < c) (E0 : Exa Z h0 x "java/lang/String") (F0 : Fld Z h0 x "java/lang/String" "value" "[B" v0) (C0 : Fld Z h0 x "java/lang/String" "coder" "B" c0) (gx : Z.heap.size ≤ x) (V0 : Arv Z h0 b kC .char (Int32.ofNat cs.length) (cs.map Value.int) dv) : Ct l Z (⟨"java/lang/String", "<init>", "([CIILjava/lang/Void;)V"⟩ : MethodName) jdk_42_method_149_code 6 none rm_init4 #[(.ref x), (.ref b), (.int (0 : Int32)), (.int (Int32.ofNat cs.length)), .null] h0 (Q_init4 Z x b kC cs dv v0 c0 h0) := by
  refine Ct.of_body (Ls := #[.val (.ref x), .val (.ref b), .val (.int (0 : Int32)), .val (.int (Int32.ofNat cs.length)), .val .null, .unset]) (by decide +kernel) O (fun m => by first | rfl | (simp [entryFrame, mkF, argsToLocals, Value.category]; done) | (rcases ref_cases (Sts.ref OS) with rfl | ⟨r, rfl⟩ <;> rfl)) ?_
  intro p e s m below meth c T0 X0 e0
  subst e0
  have hmx4 : cs.length ≤ 4000 := by omega
  have hxb : b ≠ x := fun q => by subst q; exact absurd rfl (ne_arr E0 (hw _ (List.mem_of_getElem? (i := 8) rfl)) (V0.choose_spec.1))
  have K00 := Keep.refl T0.heap [x]
  refine E_aloadN X0 d_init4_0 rfl rfl (pc' := 1) rfl ?_
  refine E_initO X0 d_init4_1 (hw _ (List.mem_of_getElem? (i := 17) rfl)) (hw _ (List.mem_of_getElem? (i := 18) rfl)) (hw _ (List.mem_of_getElem? (i := 19) rfl)) rfl (by decide) (Nat.le_of_ble_eq_true rfl) (pc' := 4) rfl ?_
  intro T1 X2 e3
  have KK4 := own_keq K00 e3
  rw [← e3] at E0 F0 C0 V0
  refine E_iloadN X2 d_init4_4 rfl (pc' := 5) rfl ?_
  refine E_ifT X2 d_init4_5 (XT.i0_ne_t (fun q => by have q2 := congrArg Int32.toInt q; rw [o_int (by omega)] at q2; have o1 : (0 : Int32).toInt = 0 := rfl; omega)) (pc' := 27) (by decide) rfl ?_
  refine E_getstatic X2 d_init4_27 (hw _ (List.mem_of_getElem? (i := 20) rfl)) Via.refl OS.1 (pc' := 30) rfl ?_
  intro T5 X6 e7
  have KK8 := own_keq KK4 e7
  rw [← e7] at E0 F0 C0 V0
  refine E_ifF X6 d_init4_30 (XT.i0_eq_f OS.2.1) (pc' := 33) rfl ?_
  refine E_aloadN X6 d_init4_33 rfl rfl (pc' := 34) rfl ?_
  refine E_iloadN X6 d_init4_34 rfl (pc' := 35) rfl ?_
  refine E_iloadN X6 d_init4_35 rfl (pc' := 36) rfl ?_
  refine E_static X6 (rm := rm_compress3) d_init4_36 (hw _ (List.mem_of_getElem? (i := 21) rfl)) (hw _ (List.mem_of_getElem? (i := 22) rfl)) (hw _ (List.mem_of_getElem? (i := 23) rfl)) (hw _ (List.mem_of_getElem? (i := 24) rfl)) (by decide) (argsL := [(.ref b), (.int (0 : Int32)), (.int (Int32.ofNat cs.length))]) (st := []) rfl (ct_compress3 l Z a0 hw G1 G3 OS hEL hSA b kC cs dv X6.old hmx hmx4 hp V0) (lenOf (pd_5) rfl) rfl (by decide) (by decide) (by decide) (Nat.le_of_ble_eq_true rfl)  (pc' := 39) rfl ?_
  intro T9 _ X10 hQ11
  obtain ⟨t, kb, rfl, K12, szt0, hVT⟩ := hQ11
  have hxt : t ≠ x := Ne.symm (Nat.ne_of_lt (Nat.lt_of_lt_of_le E0.lt szt0))
  have KK13 := KK8.trans K12 (fun x q => nomatch q)
  have Exa_14 := E0.keep K12
  have Fld_15 := F0.keep K12 nin0
  have Fld_16 := C0.keep K12 nin0
  have Arv_17 := V0.keep K12 nin0
  have szt : T0.heap.size ≤ t := Nat.le_trans KK8.1 szt0
  rcases hVT with ⟨hall, VT⟩ | VT
  · skip
    show Ends p e below s Z _ _ _ T9 (mkF m 39 #[.val (.ref x), .val (.ref b), .val (.int (0 : Int32)), .val (.int (Int32.ofNat cs.length)), .val .null, .unset] [(.ref t)])
    refine E_astore X10 d_init4_39 rfl (l' := #[.val (.ref x), .val (.ref b), .val (.int (0 : Int32)), .val (.int (Int32.ofNat cs.length)), .val .null, .val (.ref t)]) rfl (pc' := 41) rfl ?_
    refine E_aloadN X10 d_init4_41 rfl rfl (pc' := 42) rfl ?_
    refine E_aload X10 d_init4_42 rfl rfl (pc' := 44) rfl ?_
    refine E_iloadN X10 d_init4_44 rfl (pc' := 45) rfl ?_
    refine E_static X10 (rm := rm_cfl) d_init4_45 (hw _ (List.mem_of_getElem? (i := 29) rfl)) (hw _ (List.mem_of_getElem? (i := 30) rfl)) (hw _ (List.mem_of_getElem? (i := 23) rfl)) (hw _ (List.mem_of_getElem? (i := 31) rfl)) (by decide) (argsL := [(.ref t), (.int (Int32.ofNat cs.length))]) (st := [(.ref x)]) rfl (ct_cfl l Z a0 hw G1 G3 OS hEL hSA t kb (Int32.ofNat cs.length) (Int32.ofNat cs.length) 0 (cs.map lo8) X10.old VT (by rw [Int32.sub_self]; rfl)) (lenOf (pd_7) rfl) rfl (by decide) (by decide) (by decide) (Nat.le_of_ble_eq_true rfl)  (pc' := 48) rfl ?_
    intro T18 _ X19 hQ20
    obtain ⟨rfl, e21⟩ := hQ20
    have KK22 := own_keq KK13 e21
    rw [← e21] at Exa_14 Fld_15 Fld_16 Arv_17 VT
    show Ends p e below s Z _ _ _ T18 (mkF m 48 #[.val (.ref x), .val (.ref b), .val (.int (0 : Int32)), .val (.int (Int32.ofNat cs.length)), .val .null, .val (.ref t)] [(.int (0 : Int32)), (.ref x)])
    refine E_putfield X19 (ty := .byte) d_init4_48 (hw _ (List.mem_of_getElem? (i := 32) rfl)) Via.refl Fld_16 Exa_14 (Or.inr ⟨(hw _ (List.mem_of_getElem? (i := 33) rfl)), rfl, rfl⟩) (hw _ (List.mem_of_getElem? (i := 8) rfl)) (by decide) rfl rfl gx  (pc' := 51) rfl ?_
    intro T23 X24 W25
    have K26 := Keep.of_wr W25
    have KK27 := KK22.trans K26 (allS (Or.inl (by simp)) (fun x q => nomatch q))
    have Exa_28 := Exa_14.keep K26
    have Arv_29 := Arv_17.keep K26 (ninS hxb nin0)
    have Arv_30 := VT.keep K26 (ninS hxt nin0)
    have F31 := Fld_16.same W25
    have F32 := Fld_15.other W25 (Or.inr (slot_ne (Or.inr (hw _ (List.mem_of_getElem? (i := 35) rfl))) (Or.inr (hw _ (List.mem_of_getElem? (i := 33) rfl))) (by decide) (t := (.array .byte)) (t' := .byte) (by decide) (by decide)))
    refine E_aloadN X24 d_init4_51 rfl rfl (pc' := 52) rfl ?_
    refine E_aload X24 d_init4_52 rfl rfl (pc' := 54) rfl ?_
    refine E_putfield X24 (ty := (.array .byte)) d_init4_54 (hw _ (List.mem_of_getElem? (i := 34) rfl)) Via.refl F32 Exa_28 (Or.inr ⟨(hw _ (List.mem_of_getElem? (i := 35) rfl)), rfl, rfl⟩) (hw _ (List.mem_of_getElem? (i := 8) rfl)) (by decide) rfl rfl gx  (pc' := 57) rfl ?_
    intro T33 X34 W35
    have K36 := Keep.of_wr W35
    have KK37 := KK27.trans K36 (allS (Or.inl (by simp)) (fun x q => nomatch q))
    have Exa_38 := Exa_28.keep K36
    have Arv_39 := Arv_29.keep K36 (ninS hxb nin0)
    have Arv_40 := Arv_30.keep K36 (ninS hxt nin0)
    have F41 := F32.same W35
    have F42 := F31.other W35 (Or.inr (slot_ne (Or.inr (hw _ (List.mem_of_getElem? (i := 33) rfl))) (Or.inr (hw _ (List.mem_of_getElem? (i := 35) rfl))) (by decide) (t := .byte) (t' := (.array .byte)) (by decide) (by decide)))
    exact E_return X34 d_init4_57 rfl (by decide) (by decide) (⟨rfl, KK37, t, szt, kb, _, _, _, Exa_38, F41, F42, Arv_40, Or.inl ⟨rfl, rfl, rfl, hall⟩, hp, hmx4⟩)
  · skip
    show Ends p e below s Z _ _ _ T9 (mkF m 39 #[.val (.ref x), .val (.ref b), .val (.int (0 : Int32)), .val (.int (Int32.ofNat cs.length)), .val .null, .unset] [(.ref t)])
    refine E_astore X10 d_init4_39 rfl (l' := #[.val (.ref x), .val (.ref b), .val (.int (0 : Int32)), .val (.int (Int32.ofNat cs.length)), .val .null, .val (.ref t)]) rfl (pc' := 41) rfl ?_
    refine E_aloadN X10 d_init4_41 rfl rfl (pc' := 42) rfl ?_
    refine E_aload X10 d_init4_42 rfl rfl (pc' := 44) rfl ?_
    refine E_iloadN X10 d_init4_44 rfl (pc' := 45) rfl ?_
    refine E_static X10 (rm := rm_cfl) d_init4_45 (hw _ (List.mem_of_getElem? (i := 29) rfl)) (hw _ (List.mem_of_getElem? (i := 30) rfl)) (hw _ (List.mem_of_getElem? (i := 23) rfl)) (hw _ (List.mem_of_getElem? (i := 31) rfl)) (by decide) (argsL := [(.ref t), (.int (Int32.ofNat cs.length))]) (st := [(.ref x)]) rfl (ct_cfl l Z a0 hw G1 G3 OS hEL hSA t kb (Int32.ofNat (2 * cs.length)) (Int32.ofNat cs.length) 1 (u16 cs) X10.old VT (o_cfl (by omega) (by omega))) (lenOf (pd_7) rfl) rfl (by decide) (by decide) (by decide) (Nat.le_of_ble_eq_true rfl)  (pc' := 48) rfl ?_
    intro T43 _ X44 hQ45
    obtain ⟨rfl, e46⟩ := hQ45
    have KK47 := own_keq KK13 e46
    rw [← e46] at Exa_14 Fld_15 Fld_16 Arv_17 VT
    show Ends p e below s Z _ _ _ T43 (mkF m 48 #[.val (.ref x), .val (.ref b), .val (.int (0 : Int32)), .val (.int (Int32.ofNat cs.length)), .val .null, .val (.ref t)] [(.int (1 : Int32)), (.ref x)])
    refine E_putfield X44 (ty := .byte) d_init4_48 (hw _ (List.mem_of_getElem? (i := 32) rfl)) Via.refl Fld_16 Exa_14 (Or.inr ⟨(hw _ (List.mem_of_getElem? (i := 33) rfl)), rfl, rfl⟩) (hw _ (List.mem_of_getElem? (i := 8) rfl)) (by decide) rfl rfl gx  (pc' := 51) rfl ?_
    intro T48 X49 W50
    have K51 := Keep.of_wr W50
    have KK52 := KK47.trans K51 (allS (Or.inl (by simp)) (fun x q => nomatch q))
    have Exa_53 := Exa_14.keep K51
    have Arv_54 := Arv_17.keep K51 (ninS hxb nin0)
    have Arv_55 := VT.keep K51 (ninS hxt nin0)
    have F56 := Fld_16.same W50
    have F57 := Fld_15.other W50 (Or.inr (slot_ne (Or.inr (hw _ (List.mem_of_getElem? (i := 35) rfl))) (Or.inr (hw _ (List.mem_of_getElem? (i := 33) rfl))) (by decide) (t := (.array .byte)) (t' := .byte) (by decide) (by decide)))
    refine E_aloadN X49 d_init4_51 rfl rfl (pc' := 52) rfl ?_
    refine E_aload X49 d_init4_52 rfl rfl (pc' := 54) rfl ?_
    refine E_putfield X49 (ty := (.array .byte)) d_init4_54 (hw _ (List.mem_of_getElem? (i := 34) rfl)) Via.refl F57 Exa_53 (Or.inr ⟨(hw _ (List.mem_of_getElem? (i := 35) rfl)), rfl, rfl⟩) (hw _ (List.mem_of_getElem? (i := 8) rfl)) (by decide) rfl rfl gx  (pc' := 57) rfl ?_
    intro T58 X59 W60
    have K61 := Keep.of_wr W60
    have KK62 := KK52.trans K61 (allS (Or.inl (by simp)) (fun x q => nomatch q))
    have Exa_63 := Exa_53.keep K61
    have Arv_64 := Arv_54.keep K61 (ninS hxb nin0)
    have Arv_65 := Arv_55.keep K61 (ninS hxt nin0)
    have F66 := F57.same W60
    have F67 := F56.other W60 (Or.inr (slot_ne (Or.inr (hw _ (List.mem_of_getElem? (i := 33) rfl))) (Or.inr (hw _ (List.mem_of_getElem? (i := 35) rfl))) (by decide) (t := .byte) (t' := (.array .byte)) (by decide) (by decide)))
    exact E_return X59 d_init4_57 rfl (by decide) (by decide) (⟨rfl, KK62, t, szt, kb, _, _, _, Exa_63, F66, F67, Arv_65, Or.inr ⟨rfl, rfl, rfl⟩, hp, hmx4⟩)
theorem d_sinit_0 : decode jdk_42_method_3_code 0 = .ok (.aload_n 0, 1) := by decide +kernel
theorem d_sinit_1 : decode jdk_42_method_3_code 1 = .ok (.aload_n 1, 1) := by decide +kernel
theorem d_sinit_2 : decode jdk_42_method_3_code 2 = .ok (.iconst 0, 1) := by decide +kernel
theorem d_sinit_3 : decode jdk_42_method_3_code 3 = .ok (.aload_n 1, 1) := by decide +kernel
theorem d_sinit_4 : decode jdk_42_method_3_code 4 = .ok (.arraylength, 1) := by decide +kernel
theorem d_sinit_5 : decode jdk_42_method_3_code 5 = .ok (.aconst_null, 1) := by decide +kernel
theorem d_sinit_6 : decode jdk_42_method_3_code 6 = .ok (.invokespecial 27, 3) := by decide +kernel
theorem d_sinit_9 : decode jdk_42_method_3_code 9 = .ok (.return_, 1) := by decide +kernel
abbrev rm_sinit : Room := ({ frames := 5, cells := 2, slots := 9, locals := 74 } : Room)
def Q_sinit (Z : State) (x b : Addr) (kC : ClassId) (cs : List Int32) (dv v0 c0 : Value) (h0 : Heap) (v : Option Value) (h : Heap) : Prop := v = none ∧ Keep h0 h [x] ∧ ∃ t, h0.size ≤ t ∧ OStr Z h x t cs
set_option maxRecDepth 65536 in
set_option maxHeartbeats 40000000 in
theorem ct_sinit (l : Launch) (Z : State) (a0 : Array Value) (hw : ∀ d ∈ tables_1, d.before a0 Z = true) (G1 : Int32) (G3 : Value) (OS : Sts Z G1 G3) (hEL : EW Z a0 EL) (hSA : ∀ a ∈ Bundle.stringAtoms, a.before a0 Z = true) (x b : Addr) (kC : ClassId) (cs : List Int32) (dv v0 c0 : Value) {h0 : Heap} (O : Ext Z.heap h0) (h0l : 0 < cs.length) (hmx : cs.length ≤ 3) (hp : ∀ c ∈ cs, ¬ c < 0 ∧ ¬ (65535 : Int32) < c) (E0 : Exa Z h0 x "java/lang/String") (F0 : Fld Z h0 x "java/lang/String" "value" "[B" v0) (C0 : Fld Z h0 x "java/lang/String" "coder" "B" c0) (gx : Z.heap.size ≤ x) (V0 : Arv Z h0 b kC .char (Int32.ofNat cs.length) (cs.map Value.int) dv) : Ct l Z (⟨"java/lang/String", "<init>", "([C)V"⟩ : MethodName) jdk_42_method_3_code 2 none rm_sinit #[(.ref x), (.ref b)] h0 (Q_sinit Z x b kC cs dv v0 c0 h0) := by
  refine Ct.of_body (Ls := #[.val (.ref x), .val (.ref b)]) (by decide +kernel) O (fun m => by first | rfl | (simp [entryFrame, mkF, argsToLocals, Value.category]; done) | (rcases ref_cases (Sts.ref OS) with rfl | ⟨r, rfl⟩ <;> rfl)) ?_
  intro p e s m below meth c T0 X0 e0
  subst e0
  refine E_aloadN X0 d_sinit_0 rfl rfl (pc' := 1) rfl ?_
  refine E_aloadN X0 d_sinit_1 rfl rfl (pc' := 2) rfl ?_
  refine E_iconst X0 (v := (0 : Int32)) d_sinit_2 rfl (pc' := 3) rfl ?_
  refine E_aloadN X0 d_sinit_3 rfl rfl (pc' := 4) rfl ?_
  refine E_arraylength X0 d_sinit_4 V0 (pc' := 5) rfl ?_
  refine E_aconstNull X0 d_sinit_5 (pc' := 6) rfl ?_
  refine E_special X0 (rm := rm_init4) (a := x) d_sinit_6 rfl rfl (hw _ (List.mem_of_getElem? (i := 13) rfl)) (hw _ (List.mem_of_getElem? (i := 14) rfl)) (hw _ (List.mem_of_getElem? (i := 16) rfl)) (by decide) (hw _ (List.mem_of_getElem? (i := 9) rfl)) (argsL := [(.ref b), (.int (0 : Int32)), (.int (Int32.ofNat cs.length)), .null]) (st := []) rfl (ct_init4 l Z a0 hw G1 G3 OS hEL hSA x b kC cs dv v0 c0 X0.old h0l hmx hp E0 F0 C0 gx V0) (lenOf (pd_8) rfl) rfl (by decide) (by decide) (by decide) (Nat.le_of_ble_eq_true rfl)  (pc' := 9) rfl ?_
  intro T1 _ X2 hQ3
  obtain ⟨rfl, KF, t, szt, SF⟩ := hQ3
  show Ends p e below s Z _ _ _ T1 (mkF m 9 #[.val (.ref x), .val (.ref b)] [])
  exact E_return X2 d_sinit_9 rfl (by decide) (by decide) (⟨rfl, KF, t, szt, SF⟩)
theorem own_fin {Z : State} {h0 h : Heap} {x a b : Addr} (K : Keep h0 h [x]) (S : OStr Z h a b []) (E : Exa Z h x "java/lang/String") (F : Fld Z h x "java/lang/String" "value" "[B" (.ref b)) (C : Fld Z h x "java/lang/String" "coder" "B" (.int 0)) : (none : Option Value) = none ∧ Keep h0 h [x] ∧ ∃ t, OStr Z h x t [] := by
  obtain ⟨kb, cd, N, vs, E1, F1, C1, V1, hc, r⟩ := S
  exact ⟨rfl, K, b, kb, 0, N, vs, E, F, C, V1, hc.elim (fun h => Or.inl ⟨rfl, h.2⟩) (fun h => Or.inl ⟨rfl, h.2.1, h.2.2, fun c hc => nomatch hc⟩), r⟩
theorem d_init40_0 : decode jdk_42_method_149_code 0 = .ok (.aload_n 0, 1) := by decide +kernel
theorem d_init40_1 : decode jdk_42_method_149_code 1 = .ok (.invokespecial 1, 3) := by decide +kernel
theorem d_init40_4 : decode jdk_42_method_149_code 4 = .ok (.iload_n 3, 1) := by decide +kernel
theorem d_init40_5 : decode jdk_42_method_149_code 5 = .ok (.ifCond .ne 22, 3) := by decide +kernel
theorem d_init40_8 : decode jdk_42_method_149_code 8 = .ok (.aload_n 0, 1) := by decide +kernel
theorem d_init40_9 : decode jdk_42_method_149_code 9 = .ok (.ldc 7, 2) := by decide +kernel
theorem d_init40_11 : decode jdk_42_method_149_code 11 = .ok (.getfield 9, 3) := by decide +kernel
theorem d_init40_14 : decode jdk_42_method_149_code 14 = .ok (.putfield 9, 3) := by decide +kernel
theorem d_init40_17 : decode jdk_42_method_149_code 17 = .ok (.aload_n 0, 1) := by decide +kernel
theorem d_init40_18 : decode jdk_42_method_149_code 18 = .ok (.ldc 7, 2) := by decide +kernel
theorem d_init40_20 : decode jdk_42_method_149_code 20 = .ok (.getfield 15, 3) := by decide +kernel
theorem d_init40_23 : decode jdk_42_method_149_code 23 = .ok (.putfield 15, 3) := by decide +kernel
theorem d_init40_26 : decode jdk_42_method_149_code 26 = .ok (.return_, 1) := by decide +kernel
abbrev rm_init40 : Room := ({ frames := 1, cells := 4, slots := 8, locals := 12 } : Room)
def Q_init40 (Z : State) (x b : Addr) (kC : ClassId) (dv : Value) (h0 : Heap) (v : Option Value) (h : Heap) : Prop := v = none ∧ Keep h0 h [x] ∧ ∃ t, OStr Z h x t []
set_option maxRecDepth 65536 in
set_option maxHeartbeats 40000000 in
theorem ct_init40 (l : Launch) (Z : State) (a0 : Array Value) (hw : ∀ d ∈ tables_1, d.before a0 Z = true) (G1 : Int32) (G3 : Value) (OS : Sts Z G1 G3) (hEL : EW Z a0 EL) (hSA : ∀ a ∈ Bundle.stringAtoms, a.before a0 Z = true) (x b : Addr) (kC : ClassId) (dv : Value) {h0 : Heap} (O : Ext Z.heap h0) (E0 : Exa Z h0 x "java/lang/String") (F0 : Fld Z h0 x "java/lang/String" "value" "[B" .null) (C0 : Fld Z h0 x "java/lang/String" "coder" "B" (.int (0 : Int32))) (gx : Z.heap.size ≤ x) (V0 : Arv Z h0 b kC .char (0 : Int32) [] dv) : CtW l Z (⟨"java/lang/String", "<init>", "([CIILjava/lang/Void;)V"⟩ : MethodName) jdk_42_method_149_code 6 none rm_init40 #[(.ref x), (.ref b), (.int (0 : Int32)), (.int (0 : Int32)), .null] h0 (Q_init40 Z x b kC dv h0) := by
  refine CtW.of_body (Ls := #[.val (.ref x), .val (.ref b), .val (.int (0 : Int32)), .val (.int (0 : Int32)), .val .null, .unset]) (by decide +kernel) O hEL (fun m => by first | rfl | (simp [entryFrame, mkF, argsToLocals, Value.category]; done) | (rcases ref_cases (Sts.ref OS) with rfl | ⟨r, rfl⟩ <;> rfl)) ?_
  intro p e s m below meth c T0 X0 e0
  subst e0
  have K00 := Keep.refl T0.heap [x]
  refine F_aloadN X0 d_init40_0 rfl rfl (pc' := 1) rfl ?_
  refine F_initO X0 d_init40_1 (hw _ (List.mem_of_getElem? (i := 17) rfl)) (hw _ (List.mem_of_getElem? (i := 18) rfl)) (hw _ (List.mem_of_getElem? (i := 19) rfl)) rfl (by decide) (Nat.le_of_ble_eq_true rfl) (pc' := 4) rfl ?_
  intro T1 X2 e3
  have KK4 := own_keq K00 e3
  rw [← e3] at E0 F0 C0
  refine F_iloadN X2 d_init40_4 rfl (pc' := 5) rfl ?_
  refine F_ifF X2 d_init40_5 (XT.i0_ne_f (by decide)) (pc' := 8) rfl ?_
  refine F_aloadN X2 d_init40_8 rfl rfl (pc' := 9) rfl ?_
  have Sf0 := (own_safe X2.al E0 F0 (hw _ (List.mem_of_getElem? (i := 8) rfl)))
  refine F_ldcS X2 (n := 0) (z := Int32.ofNat ([] : List Int32).length) (vs := ([] : List Int32).map lo8) d_init40_9 (hw _ (List.mem_of_getElem? (i := 105) rfl)) hSA hEL (by simp [EL, consts_1]) lit_0 (by decide) rfl (by decide) (by decide) (by decide) (by decide) (pc' := 11) rfl ?_
  intro T5 la7 lb8 k9 X6 K10 E11 C12 F13 V14 hs15
  obtain ⟨Sf16, ne17, ne18⟩ := hs15 x E0.lt Sf0
  have KK19 := KK4.trans K10 (fun x q => nomatch q)
  have Exa_20 := E0.keep K10
  have Fld_21 := F0.keep K10 nin0
  have Fld_22 := C0.keep K10 nin0
  have S24 : OStr Z T5.heap la7 lb8 [] := own_lit E11 F13 C12 V14 (by decide) (by decide)
  have F25 := OStr.fval S24
  refine F_getfield X6 d_init40_11 (hw _ (List.mem_of_getElem? (i := 34) rfl)) Via.refl F25 (pc' := 14) rfl ?_
  intro T26 X27 e28
  have KK29 := own_keq KK19 e28
  rw [← e28] at Exa_20 Fld_21 Fld_22 Sf16 S24 C12 F25
  refine F_putfield X27 (ty := (.array .byte)) d_init40_14 (hw _ (List.mem_of_getElem? (i := 34) rfl)) Via.refl Fld_21 Exa_20 (Or.inr ⟨(hw _ (List.mem_of_getElem? (i := 35) rfl)), rfl, rfl⟩) (hw _ (List.mem_of_getElem? (i := 8) rfl)) (by decide) rfl rfl gx Sf16 (pc' := 17) rfl ?_
  intro T30 X31 W32
  have K33 := Keep.of_wr W32
  have KK34 := KK29.trans K33 (allS (Or.inl (by simp)) (fun x q => nomatch q))
  have Exa_35 := Exa_20.keep K33
  have Str_36 := OStr.keep S24 K33 (ninS (Ne.symm ne17) nin0) (ninS (Ne.symm ne18) nin0)
  have Fld_37 := C12.keep K33 (ninS (Ne.symm ne17) nin0)
  have Fld_38 := F25.keep K33 (ninS (Ne.symm ne17) nin0)
  have F39 := Fld_21.same W32
  have Sf40 := Safe.wr W32 Sf16 X27.ch Sf16
  have F41 := Fld_22.other W32 (Or.inr (slot_ne (Or.inr (hw _ (List.mem_of_getElem? (i := 33) rfl))) (Or.inr (hw _ (List.mem_of_getElem? (i := 35) rfl))) (by decide) (t := .byte) (t' := (.array .byte)) (by decide) (by decide)))
  refine F_aloadN X31 d_init40_17 rfl rfl (pc' := 18) rfl ?_
  refine F_ldcS X31 (n := 0) (z := Int32.ofNat ([] : List Int32).length) (vs := ([] : List Int32).map lo8) d_init40_18 (hw _ (List.mem_of_getElem? (i := 105) rfl)) hSA hEL (by simp [EL, consts_1]) lit_0 (by decide) rfl (by decide) (by decide) (by decide) (by decide) (pc' := 20) rfl ?_
  intro T42 la44 lb45 k46 X43 K47 E48 C49 F50 V51 hs52
  obtain ⟨Sf53, ne54, ne55⟩ := hs52 x Exa_35.lt Sf40
  have KK56 := KK34.trans K47 (fun x q => nomatch q)
  have Exa_57 := Exa_35.keep K47
  have Str_58 := OStr.keep Str_36 K47 nin0 nin0
  have Fld_59 := Fld_37.keep K47 nin0
  have Fld_60 := Fld_38.keep K47 nin0
  have Fld_61 := F39.keep K47 nin0
  have Fld_63 := F41.keep K47 nin0
  have S64 : OStr Z T42.heap la44 lb45 [] := own_lit E48 F50 C49 V51 (by decide) (by decide)
  refine F_getfield X43 d_init40_20 (hw _ (List.mem_of_getElem? (i := 32) rfl)) Via.refl C49 (pc' := 23) rfl ?_
  intro T65 X66 e67
  have KK68 := own_keq KK56 e67
  rw [← e67] at Exa_57 Str_58 Fld_59 Fld_60 Fld_61 Sf53 Fld_63 S64 C49
  refine F_putfield X66 (ty := .byte) d_init40_23 (hw _ (List.mem_of_getElem? (i := 32) rfl)) Via.refl Fld_63 Exa_57 (Or.inr ⟨(hw _ (List.mem_of_getElem? (i := 33) rfl)), rfl, rfl⟩) (hw _ (List.mem_of_getElem? (i := 8) rfl)) (by decide) rfl rfl gx Sf53 (pc' := 26) rfl ?_
  intro T69 X70 W71
  have K72 := Keep.of_wr W71
  have KK73 := KK68.trans K72 (allS (Or.inl (by simp)) (fun x q => nomatch q))
  have Exa_74 := Exa_57.keep K72
  have Str_75 := OStr.keep Str_58 K72 (ninS (Ne.symm ne17) nin0) (ninS (Ne.symm ne18) nin0)
  have Fld_76 := Fld_59.keep K72 (ninS (Ne.symm ne17) nin0)
  have Fld_77 := Fld_60.keep K72 (ninS (Ne.symm ne17) nin0)
  have Str_78 := OStr.keep S64 K72 (ninS (Ne.symm ne54) nin0) (ninS (Ne.symm ne55) nin0)
  have Fld_79 := C49.keep K72 (ninS (Ne.symm ne54) nin0)
  have F80 := Fld_63.same W71
  have Sf81 := Safe.wr W71 Sf53 X66.ch Sf53
  have F82 := Fld_61.other W71 (Or.inr (slot_ne (Or.inr (hw _ (List.mem_of_getElem? (i := 35) rfl))) (Or.inr (hw _ (List.mem_of_getElem? (i := 33) rfl))) (by decide) (t := (.array .byte)) (t' := .byte) (by decide) (by decide)))
  exact F_return X70 d_init40_26 rfl (by decide) (by decide) (own_fin KK73 Str_75 Exa_74 F82 F80)
theorem d_sinit0_0 : decode jdk_42_method_3_code 0 = .ok (.aload_n 0, 1) := by decide +kernel
theorem d_sinit0_1 : decode jdk_42_method_3_code 1 = .ok (.aload_n 1, 1) := by decide +kernel
theorem d_sinit0_2 : decode jdk_42_method_3_code 2 = .ok (.iconst 0, 1) := by decide +kernel
theorem d_sinit0_3 : decode jdk_42_method_3_code 3 = .ok (.aload_n 1, 1) := by decide +kernel
theorem d_sinit0_4 : decode jdk_42_method_3_code 4 = .ok (.arraylength, 1) := by decide +kernel
theorem d_sinit0_5 : decode jdk_42_method_3_code 5 = .ok (.aconst_null, 1) := by decide +kernel
theorem d_sinit0_6 : decode jdk_42_method_3_code 6 = .ok (.invokespecial 27, 3) := by decide +kernel
theorem d_sinit0_9 : decode jdk_42_method_3_code 9 = .ok (.return_, 1) := by decide +kernel
abbrev rm_sinit0 : Room := ({ frames := 2, cells := 4, slots := 8, locals := 29 } : Room)
def Q_sinit0 (Z : State) (x b : Addr) (kC : ClassId) (dv : Value) (h0 : Heap) (v : Option Value) (h : Heap) : Prop := v = none ∧ Keep h0 h [x] ∧ ∃ t, OStr Z h x t []
set_option maxRecDepth 65536 in
set_option maxHeartbeats 40000000 in
theorem ct_sinit0 (l : Launch) (Z : State) (a0 : Array Value) (hw : ∀ d ∈ tables_1, d.before a0 Z = true) (G1 : Int32) (G3 : Value) (OS : Sts Z G1 G3) (hEL : EW Z a0 EL) (hSA : ∀ a ∈ Bundle.stringAtoms, a.before a0 Z = true) (x b : Addr) (kC : ClassId) (dv : Value) {h0 : Heap} (O : Ext Z.heap h0) (E0 : Exa Z h0 x "java/lang/String") (F0 : Fld Z h0 x "java/lang/String" "value" "[B" .null) (C0 : Fld Z h0 x "java/lang/String" "coder" "B" (.int (0 : Int32))) (gx : Z.heap.size ≤ x) (V0 : Arv Z h0 b kC .char (0 : Int32) [] dv) : CtW l Z (⟨"java/lang/String", "<init>", "([C)V"⟩ : MethodName) jdk_42_method_3_code 2 none rm_sinit0 #[(.ref x), (.ref b)] h0 (Q_sinit0 Z x b kC dv h0) := by
  refine CtW.of_body (Ls := #[.val (.ref x), .val (.ref b)]) (by decide +kernel) O hEL (fun m => by first | rfl | (simp [entryFrame, mkF, argsToLocals, Value.category]; done) | (rcases ref_cases (Sts.ref OS) with rfl | ⟨r, rfl⟩ <;> rfl)) ?_
  intro p e s m below meth c T0 X0 e0
  subst e0
  refine F_aloadN X0 d_sinit0_0 rfl rfl (pc' := 1) rfl ?_
  refine F_aloadN X0 d_sinit0_1 rfl rfl (pc' := 2) rfl ?_
  refine F_iconst X0 (v := (0 : Int32)) d_sinit0_2 rfl (pc' := 3) rfl ?_
  refine F_aloadN X0 d_sinit0_3 rfl rfl (pc' := 4) rfl ?_
  refine F_arraylength X0 d_sinit0_4 V0 (pc' := 5) rfl ?_
  refine F_aconstNull X0 d_sinit0_5 (pc' := 6) rfl ?_
  refine G_special X0 (rm := rm_init40) (a := x) d_sinit0_6 rfl rfl (hw _ (List.mem_of_getElem? (i := 13) rfl)) (hw _ (List.mem_of_getElem? (i := 14) rfl)) (hw _ (List.mem_of_getElem? (i := 16) rfl)) (by decide) (hw _ (List.mem_of_getElem? (i := 9) rfl)) (argsL := [(.ref b), (.int (0 : Int32)), (.int (0 : Int32)), .null]) (st := []) rfl (ct_init40 l Z a0 hw G1 G3 OS hEL hSA x b kC dv X0.old E0 F0 C0 gx V0) (lenOf (pd_8) rfl) rfl (by decide) (by decide) (by decide) (Nat.le_of_ble_eq_true rfl)  (pc' := 9) rfl ?_
  intro T1 _ X2 hQ3 hsf4
  obtain ⟨rfl, KF, SF⟩ := hQ3
  show EndW p e below s Z _ _ _ T1 (mkF m 9 #[.val (.ref x), .val (.ref b)] [])
  exact F_return X2 d_sinit0_9 rfl (by decide) (by decide) (⟨rfl, KF, SF⟩)
abbrev hiS (c : Int32) : Prop := ¬ c < 55296 ∧ c < 56320
abbrev loS (c : Int32) : Prop := ¬ c < 56320 ∧ c < 57344
theorem lo_hi {c : Int32} (h : loS c) : ¬ hiS c := fun q => h.1 q.2
/-- the count a, one less for each pair in the list -/
def cpw (a : Int32) : List Int32 → Int32
  | c :: d :: r => if hiS c ∧ loS d then cpw (a + (-1 : Int32)) r else cpw a (d :: r)
  | _ => a
theorem cpw_two {a c d : Int32} {r : List Int32} : cpw a (c :: d :: r) = if hiS c ∧ loS d then cpw (a + (-1 : Int32)) r else cpw a (d :: r) := by rw [cpw]
theorem cpw_end {a : Int32} {cs : List Int32} {i : Nat} (h : cs.length ≤ i + 1) : cpw a (cs.drop i) = a := by
  have q : (cs.drop i).length ≤ 1 := by simp; omega
  match cs.drop i, q with
  | [], _ => rfl
  | [c], _ => rfl
theorem own_dr {cs : List Int32} {i : Nat} (h : i < cs.length) : cs.drop i = cs.getD i 0 :: cs.drop (i + 1) := by
  rw [List.drop_eq_getElem_cons h]; congr 1; simp [List.getD_eq_getElem?_getD, h]
theorem cpw_no {a : Int32} {cs : List Int32} {i : Nat} (h : i + 1 < cs.length) (q : ¬ (hiS (cs.getD i 0) ∧ loS (cs.getD (i + 1) 0))) : cpw a (cs.drop i) = cpw a (cs.drop (i + 1)) := by
  rw [own_dr (by omega : i < cs.length), own_dr h, cpw_two, if_neg q]
theorem cpw_yes {a : Int32} {cs : List Int32} {i : Nat} (h : i + 1 < cs.length) (q : hiS (cs.getD i 0) ∧ loS (cs.getD (i + 1) 0)) : cpw a (cs.drop i) = cpw (a + (-1 : Int32)) (cs.drop (i + 2)) := by
  rw [own_dr (by omega : i < cs.length), own_dr h, cpw_two, if_pos q]
theorem cpw_lat {a : Int32} (cs : List Int32) (h : ∀ c ∈ cs, ¬ (255 : Int32) < c) : cpw a cs = a := by
  induction cs with
  | nil => rfl
  | cons c r ih =>
    cases r with
    | nil => rfl
    | cons d r =>
      rw [cpw_two, if_neg (fun q => h c (List.mem_cons_self ..) (by
        have q1 := q.1.1
        simp only [Int32.lt_iff_toInt_lt, Int32.reduceToInt] at q1 ⊢; omega))]
      exact ih (fun x hx => h x (List.mem_cons_of_mem _ hx))
theorem cpw3 {a c0 c1 c2 : Int32} : cpw a [c0, c1, c2] = if hiS c0 ∧ loS c1 then a + (-1 : Int32) else if hiS c1 ∧ loS c2 then a + (-1 : Int32) else a := by
  rw [cpw_two, cpw_two]; rfl
theorem cpw2 {a c0 c1 : Int32} : cpw a [c0, c1] = if hiS c0 ∧ loS c1 then a + (-1 : Int32) else a := by
  rw [cpw_two]; rfl
theorem o_em {i n : Nat} (hi : i < 1000000) (hn : n < 1000000) : Int32.ofNat i < Int32.ofNat n - 1 ↔ i + 1 < n := by
  have e := c_isub (Int32.ofNat n) 1
  have r := rng32 (Int32.ofNat n - 1)
  rw [Int32.lt_iff_toInt_lt]
  rw [o_int (by omega), show (1 : Int32).toInt = 1 from rfl] at e
  rw [o_int (by omega)]; omega
theorem i2c_ok (x : Int32) : ¬ x.toUInt32.toUInt16.toUInt32.toInt32 < 0 ∧ ¬ (65535 : Int32) < x.toUInt32.toUInt16.toUInt32.toInt32 := by
  have e := c_i2c x
  simp only [Int32.lt_iff_toInt_lt, Int32.reduceToInt]; omega
theorem and3 (x : Int32) : x &&& (3 : Int32) = 0 ∨ x &&& (3 : Int32) = 1 ∨ x &&& (3 : Int32) = 2 ∨ x &&& (3 : Int32) = 3 := by
  have e := c_mask x 3 2 (by decide) (by decide)
  simp only [← Int32.toInt_inj, Int32.reduceToInt]; omega
theorem allN {P : Int32 → Prop} : ∀ c ∈ ([] : List Int32), P c := fun _ q => nomatch q
theorem allC {P : Int32 → Prop} {a : Int32} {r : List Int32} (h : P a) (t : ∀ c ∈ r, P c) : ∀ c ∈ a :: r, P c := fun c q => (List.mem_cons.mp q).elim (fun u => u ▸ h) (t c)
theorem d_draw_0 : decode method_2_code 0 = .ok (.iload_n 0, 1) := by decide +kernel
theorem d_draw_1 : decode method_2_code 1 = .ok (.iconst 3, 1) := by decide +kernel
theorem d_draw_2 : decode method_2_code 2 = .ok (.iand, 1) := by decide +kernel
theorem d_draw_3 : decode method_2_code 3 = .ok (.istore_n 1, 1) := by decide +kernel
theorem d_draw_4 : decode method_2_code 4 = .ok (.iload_n 0, 1) := by decide +kernel
theorem d_draw_5 : decode method_2_code 5 = .ok (.iconst 2, 1) := by decide +kernel
theorem d_draw_6 : decode method_2_code 6 = .ok (.iushr, 1) := by decide +kernel
theorem d_draw_7 : decode method_2_code 7 = .ok (.istore_n 2, 1) := by decide +kernel
theorem d_draw_8 : decode method_2_code 8 = .ok (.iload_n 1, 1) := by decide +kernel
theorem d_draw_9 : decode method_2_code 9 = .ok (.ifCond .ne 10, 3) := by decide +kernel
theorem d_draw_12 : decode method_2_code 12 = .ok (.iload_n 2, 1) := by decide +kernel
theorem d_draw_13 : decode method_2_code 13 = .ok (.sipush 255, 3) := by decide +kernel
theorem d_draw_16 : decode method_2_code 16 = .ok (.iand, 1) := by decide +kernel
theorem d_draw_17 : decode method_2_code 17 = .ok (.i2c, 1) := by decide +kernel
theorem d_draw_18 : decode method_2_code 18 = .ok (.ireturn, 1) := by decide +kernel
theorem d_draw_19 : decode method_2_code 19 = .ok (.iload_n 1, 1) := by decide +kernel
theorem d_draw_20 : decode method_2_code 20 = .ok (.iconst 1, 1) := by decide +kernel
theorem d_draw_21 : decode method_2_code 21 = .ok (.if_icmp .ne 13, 3) := by decide +kernel
theorem d_draw_24 : decode method_2_code 24 = .ok (.ldc 7, 2) := by decide +kernel
theorem d_draw_26 : decode method_2_code 26 = .ok (.iload_n 2, 1) := by decide +kernel
theorem d_draw_27 : decode method_2_code 27 = .ok (.sipush 1023, 3) := by decide +kernel
theorem d_draw_30 : decode method_2_code 30 = .ok (.iand, 1) := by decide +kernel
theorem d_draw_31 : decode method_2_code 31 = .ok (.iadd, 1) := by decide +kernel
theorem d_draw_32 : decode method_2_code 32 = .ok (.i2c, 1) := by decide +kernel
theorem d_draw_33 : decode method_2_code 33 = .ok (.ireturn, 1) := by decide +kernel
theorem d_draw_34 : decode method_2_code 34 = .ok (.iload_n 1, 1) := by decide +kernel
theorem d_draw_35 : decode method_2_code 35 = .ok (.iconst 2, 1) := by decide +kernel
theorem d_draw_36 : decode method_2_code 36 = .ok (.if_icmp .ne 13, 3) := by decide +kernel
theorem d_draw_39 : decode method_2_code 39 = .ok (.ldc 8, 2) := by decide +kernel
theorem d_draw_41 : decode method_2_code 41 = .ok (.iload_n 2, 1) := by decide +kernel
theorem d_draw_42 : decode method_2_code 42 = .ok (.sipush 1023, 3) := by decide +kernel
theorem d_draw_45 : decode method_2_code 45 = .ok (.iand, 1) := by decide +kernel
theorem d_draw_46 : decode method_2_code 46 = .ok (.iadd, 1) := by decide +kernel
theorem d_draw_47 : decode method_2_code 47 = .ok (.i2c, 1) := by decide +kernel
theorem d_draw_48 : decode method_2_code 48 = .ok (.ireturn, 1) := by decide +kernel
theorem d_draw_49 : decode method_2_code 49 = .ok (.iload_n 2, 1) := by decide +kernel
theorem d_draw_50 : decode method_2_code 50 = .ok (.ldc 9, 2) := by decide +kernel
theorem d_draw_52 : decode method_2_code 52 = .ok (.iand, 1) := by decide +kernel
theorem d_draw_53 : decode method_2_code 53 = .ok (.i2c, 1) := by decide +kernel
theorem d_draw_54 : decode method_2_code 54 = .ok (.ireturn, 1) := by decide +kernel
abbrev rm_draw : Room := ({ frames := 0, cells := 0, slots := 0, locals := 0 } : Room)
def Q_draw (Z : State) (x : Int32) (h0 : Heap) (v : Option Value) (h : Heap) : Prop := ∃ z, v = some (.int z) ∧ h = h0 ∧ ¬ z < 0 ∧ ¬ (65535 : Int32) < z
set_option maxRecDepth 65536 in
set_option maxHeartbeats 40000000 in
theorem ct_draw (l : Launch) (Z : State) (a0 : Array Value) (hw : ∀ d ∈ tables_1, d.before a0 Z = true) (G1 : Int32) (G3 : Value) (OS : Sts Z G1 G3) (hEL : EW Z a0 EL) (hSA : ∀ a ∈ Bundle.stringAtoms, a.before a0 Z = true) (x : Int32) {h0 : Heap} (O : Ext Z.heap h0)  : Ct l Z (⟨"com/example/panoptes/panoptes/TextHasLengthPinLaw", "draw", "(I)C"⟩ : MethodName) method_2_code 3 (some .char) rm_draw #[(.int x)] h0 (Q_draw Z x h0) := by
  refine Ct.of_body (Ls := #[.val (.int x), .unset, .unset]) (by decide +kernel) O (fun m => by first | rfl | (simp [entryFrame, mkF, argsToLocals, Value.category]; done) | (rcases ref_cases (Sts.ref OS) with rfl | ⟨r, rfl⟩ <;> rfl)) ?_
  intro p e s m below meth c T0 X0 e0
  subst e0
  refine E_iloadN X0 d_draw_0 rfl (pc' := 1) rfl ?_
  refine E_iconst X0 (v := (3 : Int32)) d_draw_1 rfl (pc' := 2) rfl ?_
  refine E_iand X0 d_draw_2 rfl (pc' := 3) rfl ?_
  refine E_istoreN X0 d_draw_3 (l' := #[.val (.int x), .val (.int (x &&& (3 : Int32))), .unset]) rfl (pc' := 4) rfl ?_
  refine E_iloadN X0 d_draw_4 rfl (pc' := 5) rfl ?_
  refine E_iconst X0 (v := (2 : Int32)) d_draw_5 rfl (pc' := 6) rfl ?_
  refine E_iushr X0 d_draw_6 rfl (pc' := 7) rfl ?_
  refine E_istoreN X0 d_draw_7 (l' := #[.val (.int x), .val (.int (x &&& (3 : Int32))), .val (.int ((x).toUInt32 >>> ((2 : Int32) &&& 31).toUInt32).toInt32)]) rfl (pc' := 8) rfl ?_
  refine E_iloadN X0 d_draw_8 rfl (pc' := 9) rfl ?_
  by_cases hc9 : (x &&& (3 : Int32)) = 0
  · skip
    refine E_ifF X0 d_draw_9 (XT.i0_ne_f hc9) (pc' := 12) rfl ?_
    refine E_iloadN X0 d_draw_12 rfl (pc' := 13) rfl ?_
    refine E_sipush X0 (v := (255 : Int32)) d_draw_13 rfl (pc' := 16) rfl ?_
    refine E_iand X0 d_draw_16 rfl (pc' := 17) rfl ?_
    refine E_i2c X0 d_draw_17 rfl (pc' := 18) rfl ?_
    exact E_ireturnN X0 (t := .char) d_draw_18 rfl (by simp) (by decide) (by decide) (⟨_, rfl, rfl, i2c_ok _⟩)
  · skip
    refine E_ifT X0 d_draw_9 (XT.i0_ne_t hc9) (pc' := 19) (by decide) rfl ?_
    refine E_iloadN X0 d_draw_19 rfl (pc' := 20) rfl ?_
    refine E_iconst X0 (v := (1 : Int32)) d_draw_20 rfl (pc' := 21) rfl ?_
    by_cases hc21 : (x &&& (3 : Int32)) = (1 : Int32)
    · skip
      refine E_icF X0 d_draw_21 (XT.ii_ne_f hc21) (pc' := 24) rfl ?_
      refine E_ldcI X0 (v := (55296 : Int32)) d_draw_24 (hw _ (List.mem_of_getElem? (i := 91) rfl)) (pc' := 26) rfl ?_
      refine E_iloadN X0 d_draw_26 rfl (pc' := 27) rfl ?_
      refine E_sipush X0 (v := (1023 : Int32)) d_draw_27 rfl (pc' := 30) rfl ?_
      refine E_iand X0 d_draw_30 rfl (pc' := 31) rfl ?_
      refine E_iadd X0 d_draw_31 rfl (pc' := 32) rfl ?_
      refine E_i2c X0 d_draw_32 rfl (pc' := 33) rfl ?_
      exact E_ireturnN X0 (t := .char) d_draw_33 rfl (by simp) (by decide) (by decide) (⟨_, rfl, rfl, i2c_ok _⟩)
    · skip
      refine E_icT X0 d_draw_21 (XT.ii_ne_t hc21) (pc' := 34) (by decide) rfl ?_
      refine E_iloadN X0 d_draw_34 rfl (pc' := 35) rfl ?_
      refine E_iconst X0 (v := (2 : Int32)) d_draw_35 rfl (pc' := 36) rfl ?_
      by_cases hc36 : (x &&& (3 : Int32)) = (2 : Int32)
      · skip
        refine E_icF X0 d_draw_36 (XT.ii_ne_f hc36) (pc' := 39) rfl ?_
        refine E_ldcI X0 (v := (56320 : Int32)) d_draw_39 (hw _ (List.mem_of_getElem? (i := 5) rfl)) (pc' := 41) rfl ?_
        refine E_iloadN X0 d_draw_41 rfl (pc' := 42) rfl ?_
        refine E_sipush X0 (v := (1023 : Int32)) d_draw_42 rfl (pc' := 45) rfl ?_
        refine E_iand X0 d_draw_45 rfl (pc' := 46) rfl ?_
        refine E_iadd X0 d_draw_46 rfl (pc' := 47) rfl ?_
        refine E_i2c X0 d_draw_47 rfl (pc' := 48) rfl ?_
        exact E_ireturnN X0 (t := .char) d_draw_48 rfl (by simp) (by decide) (by decide) (⟨_, rfl, rfl, i2c_ok _⟩)
      · skip
        refine E_icT X0 d_draw_36 (XT.ii_ne_t hc36) (pc' := 49) (by decide) rfl ?_
        refine E_iloadN X0 d_draw_49 rfl (pc' := 50) rfl ?_
        refine E_ldcI X0 (v := (65535 : Int32)) d_draw_50 (hw _ (List.mem_of_getElem? (i := 4) rfl)) (pc' := 52) rfl ?_
        refine E_iand X0 d_draw_52 rfl (pc' := 53) rfl ?_
        refine E_i2c X0 d_draw_53 rfl (pc' := 54) rfl ?_
        exact E_ireturnN X0 (t := .char) d_draw_54 rfl (by simp) (by decide) (by decide) (⟨_, rfl, rfl, i2c_ok _⟩)
theorem d_ishi_0 : decode method_3_code 0 = .ok (.iload_n 0, 1) := by decide +kernel
theorem d_ishi_1 : decode method_3_code 1 = .ok (.ldc 7, 2) := by decide +kernel
theorem d_ishi_3 : decode method_3_code 3 = .ok (.if_icmp .lt 13, 3) := by decide +kernel
theorem d_ishi_6 : decode method_3_code 6 = .ok (.iload_n 0, 1) := by decide +kernel
theorem d_ishi_7 : decode method_3_code 7 = .ok (.ldc 10, 2) := by decide +kernel
theorem d_ishi_9 : decode method_3_code 9 = .ok (.if_icmp .gt 7, 3) := by decide +kernel
theorem d_ishi_12 : decode method_3_code 12 = .ok (.iconst 1, 1) := by decide +kernel
theorem d_ishi_13 : decode method_3_code 13 = .ok (.goto 4, 3) := by decide +kernel
theorem d_ishi_16 : decode method_3_code 16 = .ok (.iconst 0, 1) := by decide +kernel
theorem d_ishi_17 : decode method_3_code 17 = .ok (.ireturn, 1) := by decide +kernel
abbrev rm_ishi : Room := ({ frames := 0, cells := 0, slots := 0, locals := 0 } : Room)
def Q_ishi (Z : State) (ch : Int32) (h0 : Heap) (v : Option Value) (h : Heap) : Prop := ∃ z, v = some (.int z) ∧ h = h0 ∧ (hiS ch → z = 1) ∧ (¬ hiS ch → z = 0)
set_option maxRecDepth 65536 in
set_option maxHeartbeats 40000000 in
theorem ct_ishi (l : Launch) (Z : State) (a0 : Array Value) (hw : ∀ d ∈ tables_1, d.before a0 Z = true) (G1 : Int32) (G3 : Value) (OS : Sts Z G1 G3) (hEL : EW Z a0 EL) (hSA : ∀ a ∈ Bundle.stringAtoms, a.before a0 Z = true) (ch : Int32) {h0 : Heap} (O : Ext Z.heap h0)  : Ct l Z (⟨"com/example/panoptes/panoptes/TextHasLengthPinLaw", "isHigh", "(C)Z"⟩ : MethodName) method_3_code 1 (some .boolean) rm_ishi #[(.int ch)] h0 (Q_ishi Z ch h0) := by
  refine Ct.of_body (Ls := #[.val (.int ch)]) (by decide +kernel) O (fun m => by first | rfl | (simp [entryFrame, mkF, argsToLocals, Value.category]; done) | (rcases ref_cases (Sts.ref OS) with rfl | ⟨r, rfl⟩ <;> rfl)) ?_
  intro p e s m below meth c T0 X0 e0
  subst e0
  refine E_iloadN X0 d_ishi_0 rfl (pc' := 1) rfl ?_
  refine E_ldcI X0 (v := (55296 : Int32)) d_ishi_1 (hw _ (List.mem_of_getElem? (i := 91) rfl)) (pc' := 3) rfl ?_
  by_cases q3 : ch < (55296 : Int32)
  · skip
    refine E_icT X0 d_ishi_3 (XT.ii_lt_t q3) (pc' := 16) (by decide) rfl ?_
    refine E_iconst X0 (v := (0 : Int32)) d_ishi_16 rfl (pc' := 17) rfl ?_
    exact E_ireturnN X0 (t := .boolean) d_ishi_17 rfl (by simp) (by decide) (by decide) (⟨_, rfl, rfl, fun q => absurd q (by unfold hiS; simp only [Int32.lt_iff_toInt_lt, Int32.reduceToInt] at q3 ⊢; omega), fun _ => rfl⟩)
  · skip
    refine E_icF X0 d_ishi_3 (XT.ii_lt_f q3) (pc' := 6) rfl ?_
    refine E_iloadN X0 d_ishi_6 rfl (pc' := 7) rfl ?_
    refine E_ldcI X0 (v := (56319 : Int32)) d_ishi_7 (hw _ (List.mem_of_getElem? (i := 92) rfl)) (pc' := 9) rfl ?_
    by_cases q9 : (56319 : Int32) < ch
    · skip
      refine E_icT X0 d_ishi_9 (XT.ii_gt_t q9) (pc' := 16) (by decide) rfl ?_
      refine E_iconst X0 (v := (0 : Int32)) d_ishi_16 rfl (pc' := 17) rfl ?_
      exact E_ireturnN X0 (t := .boolean) d_ishi_17 rfl (by simp) (by decide) (by decide) (⟨_, rfl, rfl, fun q => absurd q (by unfold hiS; simp only [Int32.lt_iff_toInt_lt, Int32.reduceToInt] at q3 q9 ⊢; omega), fun _ => rfl⟩)
    · skip
      refine E_icF X0 d_ishi_9 (XT.ii_gt_f q9) (pc' := 12) rfl ?_
      refine E_iconst X0 (v := (1 : Int32)) d_ishi_12 rfl (pc' := 13) rfl ?_
      refine E_goto X0 d_ishi_13 (pc' := 17) (by decide) rfl ?_
      exact E_ireturnN X0 (t := .boolean) d_ishi_17 rfl (by simp) (by decide) (by decide) (⟨_, rfl, rfl, fun _ => rfl, fun q => absurd (by unfold hiS; simp only [Int32.lt_iff_toInt_lt, Int32.reduceToInt] at q3 q9 ⊢; omega) q⟩)
theorem d_islo_0 : decode method_4_code 0 = .ok (.iload_n 0, 1) := by decide +kernel
theorem d_islo_1 : decode method_4_code 1 = .ok (.ldc 8, 2) := by decide +kernel
theorem d_islo_3 : decode method_4_code 3 = .ok (.if_icmp .lt 13, 3) := by decide +kernel
theorem d_islo_6 : decode method_4_code 6 = .ok (.iload_n 0, 1) := by decide +kernel
theorem d_islo_7 : decode method_4_code 7 = .ok (.ldc 11, 2) := by decide +kernel
theorem d_islo_9 : decode method_4_code 9 = .ok (.if_icmp .gt 7, 3) := by decide +kernel
theorem d_islo_12 : decode method_4_code 12 = .ok (.iconst 1, 1) := by decide +kernel
theorem d_islo_13 : decode method_4_code 13 = .ok (.goto 4, 3) := by decide +kernel
theorem d_islo_16 : decode method_4_code 16 = .ok (.iconst 0, 1) := by decide +kernel
theorem d_islo_17 : decode method_4_code 17 = .ok (.ireturn, 1) := by decide +kernel
abbrev rm_islo : Room := ({ frames := 0, cells := 0, slots := 0, locals := 0 } : Room)
def Q_islo (Z : State) (ch : Int32) (h0 : Heap) (v : Option Value) (h : Heap) : Prop := ∃ z, v = some (.int z) ∧ h = h0 ∧ (loS ch → z = 1) ∧ (¬ loS ch → z = 0)
set_option maxRecDepth 65536 in
set_option maxHeartbeats 40000000 in
theorem ct_islo (l : Launch) (Z : State) (a0 : Array Value) (hw : ∀ d ∈ tables_1, d.before a0 Z = true) (G1 : Int32) (G3 : Value) (OS : Sts Z G1 G3) (hEL : EW Z a0 EL) (hSA : ∀ a ∈ Bundle.stringAtoms, a.before a0 Z = true) (ch : Int32) {h0 : Heap} (O : Ext Z.heap h0)  : Ct l Z (⟨"com/example/panoptes/panoptes/TextHasLengthPinLaw", "isLow", "(C)Z"⟩ : MethodName) method_4_code 1 (some .boolean) rm_islo #[(.int ch)] h0 (Q_islo Z ch h0) := by
  refine Ct.of_body (Ls := #[.val (.int ch)]) (by decide +kernel) O (fun m => by first | rfl | (simp [entryFrame, mkF, argsToLocals, Value.category]; done) | (rcases ref_cases (Sts.ref OS) with rfl | ⟨r, rfl⟩ <;> rfl)) ?_
  intro p e s m below meth c T0 X0 e0
  subst e0
  refine E_iloadN X0 d_islo_0 rfl (pc' := 1) rfl ?_
  refine E_ldcI X0 (v := (56320 : Int32)) d_islo_1 (hw _ (List.mem_of_getElem? (i := 5) rfl)) (pc' := 3) rfl ?_
  by_cases q3 : ch < (56320 : Int32)
  · skip
    refine E_icT X0 d_islo_3 (XT.ii_lt_t q3) (pc' := 16) (by decide) rfl ?_
    refine E_iconst X0 (v := (0 : Int32)) d_islo_16 rfl (pc' := 17) rfl ?_
    exact E_ireturnN X0 (t := .boolean) d_islo_17 rfl (by simp) (by decide) (by decide) (⟨_, rfl, rfl, fun q => absurd q (by unfold loS; simp only [Int32.lt_iff_toInt_lt, Int32.reduceToInt] at q3 ⊢; omega), fun _ => rfl⟩)
  · skip
    refine E_icF X0 d_islo_3 (XT.ii_lt_f q3) (pc' := 6) rfl ?_
    refine E_iloadN X0 d_islo_6 rfl (pc' := 7) rfl ?_
    refine E_ldcI X0 (v := (57343 : Int32)) d_islo_7 (hw _ (List.mem_of_getElem? (i := 114) rfl)) (pc' := 9) rfl ?_
    by_cases q9 : (57343 : Int32) < ch
    · skip
      refine E_icT X0 d_islo_9 (XT.ii_gt_t q9) (pc' := 16) (by decide) rfl ?_
      refine E_iconst X0 (v := (0 : Int32)) d_islo_16 rfl (pc' := 17) rfl ?_
      exact E_ireturnN X0 (t := .boolean) d_islo_17 rfl (by simp) (by decide) (by decide) (⟨_, rfl, rfl, fun q => absurd q (by unfold loS; simp only [Int32.lt_iff_toInt_lt, Int32.reduceToInt] at q3 q9 ⊢; omega), fun _ => rfl⟩)
    · skip
      refine E_icF X0 d_islo_9 (XT.ii_gt_f q9) (pc' := 12) rfl ?_
      refine E_iconst X0 (v := (1 : Int32)) d_islo_12 rfl (pc' := 13) rfl ?_
      refine E_goto X0 d_islo_13 (pc' := 17) (by decide) rfl ?_
      exact E_ireturnN X0 (t := .boolean) d_islo_17 rfl (by simp) (by decide) (by decide) (⟨_, rfl, rfl, fun _ => rfl, fun q => absurd (by unfold loS; simp only [Int32.lt_iff_toInt_lt, Int32.reduceToInt] at q3 q9 ⊢; omega) q⟩)
theorem d_chi_0 : decode jdk_89_method_14_code 0 = .ok (.iload_n 0, 1) := by decide +kernel
theorem d_chi_1 : decode jdk_89_method_14_code 1 = .ok (.ldc 75, 2) := by decide +kernel
theorem d_chi_3 : decode jdk_89_method_14_code 3 = .ok (.if_icmp .lt 13, 3) := by decide +kernel
theorem d_chi_6 : decode jdk_89_method_14_code 6 = .ok (.iload_n 0, 1) := by decide +kernel
theorem d_chi_7 : decode jdk_89_method_14_code 7 = .ok (.ldc 76, 2) := by decide +kernel
theorem d_chi_9 : decode jdk_89_method_14_code 9 = .ok (.if_icmp .ge 7, 3) := by decide +kernel
theorem d_chi_12 : decode jdk_89_method_14_code 12 = .ok (.iconst 1, 1) := by decide +kernel
theorem d_chi_13 : decode jdk_89_method_14_code 13 = .ok (.goto 4, 3) := by decide +kernel
theorem d_chi_16 : decode jdk_89_method_14_code 16 = .ok (.iconst 0, 1) := by decide +kernel
theorem d_chi_17 : decode jdk_89_method_14_code 17 = .ok (.ireturn, 1) := by decide +kernel
abbrev rm_chi : Room := ({ frames := 0, cells := 0, slots := 0, locals := 0 } : Room)
def Q_chi (Z : State) (ch : Int32) (h0 : Heap) (v : Option Value) (h : Heap) : Prop := ∃ z, v = some (.int z) ∧ h = h0 ∧ (hiS ch → z = 1) ∧ (¬ hiS ch → z = 0)
set_option maxRecDepth 65536 in
set_option maxHeartbeats 40000000 in
theorem ct_chi (l : Launch) (Z : State) (a0 : Array Value) (hw : ∀ d ∈ tables_1, d.before a0 Z = true) (G1 : Int32) (G3 : Value) (OS : Sts Z G1 G3) (hEL : EW Z a0 EL) (hSA : ∀ a ∈ Bundle.stringAtoms, a.before a0 Z = true) (ch : Int32) {h0 : Heap} (O : Ext Z.heap h0)  : Ct l Z (⟨"java/lang/Character", "isHighSurrogate", "(C)Z"⟩ : MethodName) jdk_89_method_14_code 1 (some .boolean) rm_chi #[(.int ch)] h0 (Q_chi Z ch h0) := by
  refine Ct.of_body (Ls := #[.val (.int ch)]) (by decide +kernel) O (fun m => by first | rfl | (simp [entryFrame, mkF, argsToLocals, Value.category]; done) | (rcases ref_cases (Sts.ref OS) with rfl | ⟨r, rfl⟩ <;> rfl)) ?_
  intro p e s m below meth c T0 X0 e0
  subst e0
  refine E_iloadN X0 d_chi_0 rfl (pc' := 1) rfl ?_
  refine E_ldcI X0 (v := (55296 : Int32)) d_chi_1 (hw _ (List.mem_of_getElem? (i := 103) rfl)) (pc' := 3) rfl ?_
  by_cases q3 : ch < (55296 : Int32)
  · skip
    refine E_icT X0 d_chi_3 (XT.ii_lt_t q3) (pc' := 16) (by decide) rfl ?_
    refine E_iconst X0 (v := (0 : Int32)) d_chi_16 rfl (pc' := 17) rfl ?_
    exact E_ireturnN X0 (t := .boolean) d_chi_17 rfl (by simp) (by decide) (by decide) (⟨_, rfl, rfl, fun q => absurd q (by unfold hiS; simp only [Int32.lt_iff_toInt_lt, Int32.reduceToInt] at q3 ⊢; omega), fun _ => rfl⟩)
  · skip
    refine E_icF X0 d_chi_3 (XT.ii_lt_f q3) (pc' := 6) rfl ?_
    refine E_iloadN X0 d_chi_6 rfl (pc' := 7) rfl ?_
    refine E_ldcI X0 (v := (56320 : Int32)) d_chi_7 (hw _ (List.mem_of_getElem? (i := 104) rfl)) (pc' := 9) rfl ?_
    by_cases q9 : ch < (56320 : Int32)
    · skip
      refine E_icF X0 d_chi_9 (XT.ii_ge_f q9) (pc' := 12) rfl ?_
      refine E_iconst X0 (v := (1 : Int32)) d_chi_12 rfl (pc' := 13) rfl ?_
      refine E_goto X0 d_chi_13 (pc' := 17) (by decide) rfl ?_
      exact E_ireturnN X0 (t := .boolean) d_chi_17 rfl (by simp) (by decide) (by decide) (⟨_, rfl, rfl, fun _ => rfl, fun q => absurd (by unfold hiS; simp only [Int32.lt_iff_toInt_lt, Int32.reduceToInt] at q3 q9 ⊢; omega) q⟩)
    · skip
      refine E_icT X0 d_chi_9 (XT.ii_ge_t q9) (pc' := 16) (by decide) rfl ?_
      refine E_iconst X0 (v := (0 : Int32)) d_chi_16 rfl (pc' := 17) rfl ?_
      exact E_ireturnN X0 (t := .boolean) d_chi_17 rfl (by simp) (by decide) (by decide) (⟨_, rfl, rfl, fun q => absurd q (by unfold hiS; simp only [Int32.lt_iff_toInt_lt, Int32.reduceToInt] at q3 q9 ⊢; omega), fun _ => rfl⟩)
theorem d_clo_0 : decode jdk_89_method_15_code 0 = .ok (.iload_n 0, 1) := by decide +kernel
theorem d_clo_1 : decode jdk_89_method_15_code 1 = .ok (.ldc 76, 2) := by decide +kernel
theorem d_clo_3 : decode jdk_89_method_15_code 3 = .ok (.if_icmp .lt 13, 3) := by decide +kernel
theorem d_clo_6 : decode jdk_89_method_15_code 6 = .ok (.iload_n 0, 1) := by decide +kernel
theorem d_clo_7 : decode jdk_89_method_15_code 7 = .ok (.ldc 77, 2) := by decide +kernel
theorem d_clo_9 : decode jdk_89_method_15_code 9 = .ok (.if_icmp .ge 7, 3) := by decide +kernel
theorem d_clo_12 : decode jdk_89_method_15_code 12 = .ok (.iconst 1, 1) := by decide +kernel
theorem d_clo_13 : decode jdk_89_method_15_code 13 = .ok (.goto 4, 3) := by decide +kernel
theorem d_clo_16 : decode jdk_89_method_15_code 16 = .ok (.iconst 0, 1) := by decide +kernel
theorem d_clo_17 : decode jdk_89_method_15_code 17 = .ok (.ireturn, 1) := by decide +kernel
abbrev rm_clo : Room := ({ frames := 0, cells := 0, slots := 0, locals := 0 } : Room)
def Q_clo (Z : State) (ch : Int32) (h0 : Heap) (v : Option Value) (h : Heap) : Prop := ∃ z, v = some (.int z) ∧ h = h0 ∧ (loS ch → z = 1) ∧ (¬ loS ch → z = 0)
set_option maxRecDepth 65536 in
set_option maxHeartbeats 40000000 in
theorem ct_clo (l : Launch) (Z : State) (a0 : Array Value) (hw : ∀ d ∈ tables_1, d.before a0 Z = true) (G1 : Int32) (G3 : Value) (OS : Sts Z G1 G3) (hEL : EW Z a0 EL) (hSA : ∀ a ∈ Bundle.stringAtoms, a.before a0 Z = true) (ch : Int32) {h0 : Heap} (O : Ext Z.heap h0)  : Ct l Z (⟨"java/lang/Character", "isLowSurrogate", "(C)Z"⟩ : MethodName) jdk_89_method_15_code 1 (some .boolean) rm_clo #[(.int ch)] h0 (Q_clo Z ch h0) := by
  refine Ct.of_body (Ls := #[.val (.int ch)]) (by decide +kernel) O (fun m => by first | rfl | (simp [entryFrame, mkF, argsToLocals, Value.category]; done) | (rcases ref_cases (Sts.ref OS) with rfl | ⟨r, rfl⟩ <;> rfl)) ?_
  intro p e s m below meth c T0 X0 e0
  subst e0
  refine E_iloadN X0 d_clo_0 rfl (pc' := 1) rfl ?_
  refine E_ldcI X0 (v := (56320 : Int32)) d_clo_1 (hw _ (List.mem_of_getElem? (i := 104) rfl)) (pc' := 3) rfl ?_
  by_cases q3 : ch < (56320 : Int32)
  · skip
    refine E_icT X0 d_clo_3 (XT.ii_lt_t q3) (pc' := 16) (by decide) rfl ?_
    refine E_iconst X0 (v := (0 : Int32)) d_clo_16 rfl (pc' := 17) rfl ?_
    exact E_ireturnN X0 (t := .boolean) d_clo_17 rfl (by simp) (by decide) (by decide) (⟨_, rfl, rfl, fun q => absurd q (by unfold loS; simp only [Int32.lt_iff_toInt_lt, Int32.reduceToInt] at q3 ⊢; omega), fun _ => rfl⟩)
  · skip
    refine E_icF X0 d_clo_3 (XT.ii_lt_f q3) (pc' := 6) rfl ?_
    refine E_iloadN X0 d_clo_6 rfl (pc' := 7) rfl ?_
    refine E_ldcI X0 (v := (57344 : Int32)) d_clo_7 (hw _ (List.mem_of_getElem? (i := 115) rfl)) (pc' := 9) rfl ?_
    by_cases q9 : ch < (57344 : Int32)
    · skip
      refine E_icF X0 d_clo_9 (XT.ii_ge_f q9) (pc' := 12) rfl ?_
      refine E_iconst X0 (v := (1 : Int32)) d_clo_12 rfl (pc' := 13) rfl ?_
      refine E_goto X0 d_clo_13 (pc' := 17) (by decide) rfl ?_
      exact E_ireturnN X0 (t := .boolean) d_clo_17 rfl (by simp) (by decide) (by decide) (⟨_, rfl, rfl, fun _ => rfl, fun q => absurd (by unfold loS; simp only [Int32.lt_iff_toInt_lt, Int32.reduceToInt] at q3 q9 ⊢; omega) q⟩)
    · skip
      refine E_icT X0 d_clo_9 (XT.ii_ge_t q9) (pc' := 16) (by decide) rfl ?_
      refine E_iconst X0 (v := (0 : Int32)) d_clo_16 rfl (pc' := 17) rfl ?_
      exact E_ireturnN X0 (t := .boolean) d_clo_17 rfl (by simp) (by decide) (by decide) (⟨_, rfl, rfl, fun q => absurd q (by unfold loS; simp only [Int32.lt_iff_toInt_lt, Int32.reduceToInt] at q3 q9 ⊢; omega), fun _ => rfl⟩)
theorem d_pcf_0 : decode jdk_41_method_12_code 0 = .ok (.iload_n 0, 1) := by decide +kernel
theorem d_pcf_1 : decode jdk_41_method_12_code 1 = .ok (.ifCond .lt 13, 3) := by decide +kernel
theorem d_pcf_4 : decode jdk_41_method_12_code 4 = .ok (.iload_n 0, 1) := by decide +kernel
theorem d_pcf_5 : decode jdk_41_method_12_code 5 = .ok (.iload_n 1, 1) := by decide +kernel
theorem d_pcf_6 : decode jdk_41_method_12_code 6 = .ok (.if_icmp .gt 8, 3) := by decide +kernel
theorem d_pcf_9 : decode jdk_41_method_12_code 9 = .ok (.iload_n 1, 1) := by decide +kernel
theorem d_pcf_10 : decode jdk_41_method_12_code 10 = .ok (.iload_n 2, 1) := by decide +kernel
theorem d_pcf_11 : decode jdk_41_method_12_code 11 = .ok (.if_icmp .le 11, 3) := by decide +kernel
theorem d_pcf_22 : decode jdk_41_method_12_code 22 = .ok (.iload_n 0, 1) := by decide +kernel
theorem d_pcf_23 : decode jdk_41_method_12_code 23 = .ok (.ireturn, 1) := by decide +kernel
abbrev rm_pcf : Room := ({ frames := 0, cells := 0, slots := 0, locals := 0 } : Room)
def Q_pcf (Z : State) (n : Int32) (h0 : Heap) (v : Option Value) (h : Heap) : Prop := v = some (.int 0) ∧ h = h0
set_option maxRecDepth 65536 in
set_option maxHeartbeats 40000000 in
theorem ct_pcf (l : Launch) (Z : State) (a0 : Array Value) (hw : ∀ d ∈ tables_1, d.before a0 Z = true) (G1 : Int32) (G3 : Value) (OS : Sts Z G1 G3) (hEL : EW Z a0 EL) (hSA : ∀ a ∈ Bundle.stringAtoms, a.before a0 Z = true) (n : Int32) {h0 : Heap} (O : Ext Z.heap h0) (h1 : ¬ n < 0) : Ct l Z (⟨"jdk/internal/util/Preconditions", "checkFromToIndex", "(IIILjava/util/function/BiFunction;)I"⟩ : MethodName) jdk_41_method_12_code 4 (some .int) rm_pcf #[(.int (0 : Int32)), (.int n), (.int n), .null] h0 (Q_pcf Z n h0) := by
  refine Ct.of_body (Ls := #[.val (.int (0 : Int32)), .val (.int n), .val (.int n), .val .null]) (by decide +kernel) O (fun m => by first | rfl | (simp [entryFrame, mkF, argsToLocals, Value.category]; done) | (rcases ref_cases (Sts.ref OS) with rfl | ⟨r, rfl⟩ <;> rfl)) ?_
  intro p e s m below meth c T0 X0 e0
  subst e0
  refine E_iloadN X0 d_pcf_0 rfl (pc' := 1) rfl ?_
  refine E_ifF X0 d_pcf_1 (XT.i0_lt_f (by decide)) (pc' := 4) rfl ?_
  refine E_iloadN X0 d_pcf_4 rfl (pc' := 5) rfl ?_
  refine E_iloadN X0 d_pcf_5 rfl (pc' := 6) rfl ?_
  refine E_icF X0 d_pcf_6 (XT.ii_gt_f h1) (pc' := 9) rfl ?_
  refine E_iloadN X0 d_pcf_9 rfl (pc' := 10) rfl ?_
  refine E_iloadN X0 d_pcf_10 rfl (pc' := 11) rfl ?_
  refine E_icT X0 d_pcf_11 (XT.ii_le_t Int32.lt_irrefl) (pc' := 22) (by decide) rfl ?_
  refine E_iloadN X0 d_pcf_22 rfl (pc' := 23) rfl ?_
  exact E_ireturnI X0 d_pcf_23 rfl (by decide) (by decide) (⟨rfl, rfl⟩)
theorem d_ocf_0 : decode jdk_31_method_18_code 0 = .ok (.iload_n 0, 1) := by decide +kernel
theorem d_ocf_1 : decode jdk_31_method_18_code 1 = .ok (.iload_n 1, 1) := by decide +kernel
theorem d_ocf_2 : decode jdk_31_method_18_code 2 = .ok (.iload_n 2, 1) := by decide +kernel
theorem d_ocf_3 : decode jdk_31_method_18_code 3 = .ok (.aconst_null, 1) := by decide +kernel
theorem d_ocf_4 : decode jdk_31_method_18_code 4 = .ok (.invokestatic 111, 3) := by decide +kernel
theorem d_ocf_7 : decode jdk_31_method_18_code 7 = .ok (.ireturn, 1) := by decide +kernel
abbrev rm_ocf : Room := ({ frames := 1, cells := 0, slots := 0, locals := 15 } : Room)
def Q_ocf (Z : State) (n : Int32) (h0 : Heap) (v : Option Value) (h : Heap) : Prop := v = some (.int 0) ∧ h = h0
set_option maxRecDepth 65536 in
set_option maxHeartbeats 40000000 in
theorem ct_ocf (l : Launch) (Z : State) (a0 : Array Value) (hw : ∀ d ∈ tables_1, d.before a0 Z = true) (G1 : Int32) (G3 : Value) (OS : Sts Z G1 G3) (hEL : EW Z a0 EL) (hSA : ∀ a ∈ Bundle.stringAtoms, a.before a0 Z = true) (n : Int32) {h0 : Heap} (O : Ext Z.heap h0) (h1 : ¬ n < 0) : Ct l Z (⟨"java/util/Objects", "checkFromToIndex", "(III)I"⟩ : MethodName) jdk_31_method_18_code 3 (some .int) rm_ocf #[(.int (0 : Int32)), (.int n), (.int n)] h0 (Q_ocf Z n h0) := by
  refine Ct.of_body (Ls := #[.val (.int (0 : Int32)), .val (.int n), .val (.int n)]) (by decide +kernel) O (fun m => by first | rfl | (simp [entryFrame, mkF, argsToLocals, Value.category]; done) | (rcases ref_cases (Sts.ref OS) with rfl | ⟨r, rfl⟩ <;> rfl)) ?_
  intro p e s m below meth c T0 X0 e0
  subst e0
  refine E_iloadN X0 d_ocf_0 rfl (pc' := 1) rfl ?_
  refine E_iloadN X0 d_ocf_1 rfl (pc' := 2) rfl ?_
  refine E_iloadN X0 d_ocf_2 rfl (pc' := 3) rfl ?_
  refine E_aconstNull X0 d_ocf_3 (pc' := 4) rfl ?_
  refine E_static X0 (rm := rm_pcf) d_ocf_4 (hw _ (List.mem_of_getElem? (i := 60) rfl)) (hw _ (List.mem_of_getElem? (i := 61) rfl)) (hw _ (List.mem_of_getElem? (i := 62) rfl)) (hw _ (List.mem_of_getElem? (i := 63) rfl)) (by decide) (argsL := [(.int (0 : Int32)), (.int n), (.int n), .null]) (st := []) rfl (ct_pcf l Z a0 hw G1 G3 OS hEL hSA n X0.old h1) (lenOf (pd_9) rfl) rfl (by decide) (by decide) (by decide) (Nat.le_of_ble_eq_true rfl)  (pc' := 7) rfl ?_
  intro T1 _ X2 hQ3
  obtain ⟨rfl, e4⟩ := hQ3
  show Ends p e below s Z _ _ _ T1 (mkF m 7 #[.val (.int (0 : Int32)), .val (.int n), .val (.int n)] [(.int (0 : Int32))])
  exact E_ireturnI X2 d_ocf_7 rfl (by decide) (by decide) (⟨rfl, e4⟩)
theorem d_ucp4_0 : decode jdk_52_method_11_code 0 = .ok (.getstatic 44, 3) := by decide +kernel
theorem d_ucp4_3 : decode jdk_52_method_11_code 3 = .ok (.ifCond .ne 16, 3) := by decide +kernel
theorem d_ucp4_19 : decode jdk_52_method_11_code 19 = .ok (.iload_n 2, 1) := by decide +kernel
theorem d_ucp4_20 : decode jdk_52_method_11_code 20 = .ok (.iload_n 1, 1) := by decide +kernel
theorem d_ucp4_21 : decode jdk_52_method_11_code 21 = .ok (.isub, 1) := by decide +kernel
theorem d_ucp4_22 : decode jdk_52_method_11_code 22 = .ok (.istore 4, 2) := by decide +kernel
theorem d_ucp4_24 : decode jdk_52_method_11_code 24 = .ok (.iload_n 1, 1) := by decide +kernel
theorem d_ucp4_25 : decode jdk_52_method_11_code 25 = .ok (.istore 5, 2) := by decide +kernel
theorem d_ucp4_27 : decode jdk_52_method_11_code 27 = .ok (.iload_n 3, 1) := by decide +kernel
theorem d_ucp4_28 : decode jdk_52_method_11_code 28 = .ok (.ifCond .eq 16, 3) := by decide +kernel
theorem d_ucp4_44 : decode jdk_52_method_11_code 44 = .ok (.iload 5, 2) := by decide +kernel
theorem d_ucp4_46 : decode jdk_52_method_11_code 46 = .ok (.iload_n 2, 1) := by decide +kernel
theorem d_ucp4_47 : decode jdk_52_method_11_code 47 = .ok (.iconst 1, 1) := by decide +kernel
theorem d_ucp4_48 : decode jdk_52_method_11_code 48 = .ok (.isub, 1) := by decide +kernel
theorem d_ucp4_49 : decode jdk_52_method_11_code 49 = .ok (.if_icmp .ge 39, 3) := by decide +kernel
theorem d_ucp4_52 : decode jdk_52_method_11_code 52 = .ok (.aload_n 0, 1) := by decide +kernel
theorem d_ucp4_53 : decode jdk_52_method_11_code 53 = .ok (.iload 5, 2) := by decide +kernel
theorem d_ucp4_55 : decode jdk_52_method_11_code 55 = .ok (.iinc 5 1, 3) := by decide +kernel
theorem d_ucp4_58 : decode jdk_52_method_11_code 58 = .ok (.invokestatic 71, 3) := by decide +kernel
theorem d_ucp4_61 : decode jdk_52_method_11_code 61 = .ok (.invokestatic 75, 3) := by decide +kernel
theorem d_ucp4_64 : decode jdk_52_method_11_code 64 = .ok (.ifCond .eq (-20), 3) := by decide +kernel
theorem d_ucp4_67 : decode jdk_52_method_11_code 67 = .ok (.aload_n 0, 1) := by decide +kernel
theorem d_ucp4_68 : decode jdk_52_method_11_code 68 = .ok (.iload 5, 2) := by decide +kernel
theorem d_ucp4_70 : decode jdk_52_method_11_code 70 = .ok (.invokestatic 71, 3) := by decide +kernel
theorem d_ucp4_73 : decode jdk_52_method_11_code 73 = .ok (.invokestatic 81, 3) := by decide +kernel
theorem d_ucp4_76 : decode jdk_52_method_11_code 76 = .ok (.ifCond .eq (-32), 3) := by decide +kernel
theorem d_ucp4_79 : decode jdk_52_method_11_code 79 = .ok (.iinc 4 (-1), 3) := by decide +kernel
theorem d_ucp4_82 : decode jdk_52_method_11_code 82 = .ok (.iinc 5 1, 3) := by decide +kernel
theorem d_ucp4_85 : decode jdk_52_method_11_code 85 = .ok (.goto (-41), 3) := by decide +kernel
theorem d_ucp4_88 : decode jdk_52_method_11_code 88 = .ok (.iload 4, 2) := by decide +kernel
theorem d_ucp4_90 : decode jdk_52_method_11_code 90 = .ok (.ireturn, 1) := by decide +kernel
abbrev rm_ucp4 : Room := ({ frames := 1, cells := 0, slots := 0, locals := 13 } : Room)
def Q_ucp4 (Z : State) (t : Addr) (kb : ClassId) (cs : List Int32) (h0 : Heap) (v : Option Value) (h : Heap) : Prop := v = some (.int (cpw (Int32.ofNat cs.length) cs)) ∧ h = h0
set_option maxRecDepth 65536 in
set_option maxHeartbeats 40000000 in
theorem lp_ucp4 (l : Launch) (Z : State) (a0 : Array Value) (hw : ∀ d ∈ tables_1, d.before a0 Z = true) (G1 : Int32) (G3 : Value) (OS : Sts Z G1 G3) (hEL : EW Z a0 EL) (hSA : ∀ a ∈ Bundle.stringAtoms, a.before a0 Z = true) (t : Addr) (kb : ClassId) (cs : List Int32) {h0 : Heap} {p : Program} {e : Env} {s : State} {m : MethodId} {below : List Frame} {meth : Method} {c : Code} (k : Nat) : ∀ {T0 : State} (a : Int32) (i : Nat), Wk l Z rm_ucp4 jdk_52_method_11_code 6 (some .int) "java/lang/StringUTF16" "codePointCount" p e s m #[(.ref t), (.int (0 : Int32)), (.int (Int32.ofNat cs.length)), (.int (0 : Int32))] below meth c T0 0 0 → (cs.length ≤ i + k) → (i ≤ 4004) → (cs.length ≤ 4000) → (∀ c ∈ cs, ¬ c < 0 ∧ ¬ (65535 : Int32) < c) → (T0.heap = h0) → (Arv Z T0.heap t kb .byte (Int32.ofNat (2 * cs.length)) (u16 cs) (.int (0 : Int32))) → (cpw a (cs.drop i) = cpw (Int32.ofNat cs.length) cs) → Ends p e below s Z (Q_ucp4 Z t kb cs h0) rm_ucp4.cells rm_ucp4.slots T0 (mkF m 44 #[.val (.ref t), .val (.int (0 : Int32)), .val (.int (Int32.ofNat cs.length)), .val (.int (0 : Int32)), .val (.int a), .val (.int (Int32.ofNat i))] []) := by
  induction k with
  | zero =>
    intro T0 a i X0 hi hi4 hl hp eh V0 hcp
    refine E_iload X0 d_ucp4_44 rfl (pc' := 46) rfl ?_
    refine E_iloadN X0 d_ucp4_46 rfl (pc' := 47) rfl ?_
    refine E_iconst X0 (v := (1 : Int32)) d_ucp4_47 rfl (pc' := 48) rfl ?_
    refine E_isub X0 d_ucp4_48 rfl (pc' := 49) rfl ?_
    refine E_icT X0 d_ucp4_49 (XT.ii_ge_t (fun q => by have q2 := (o_em (by omega) (by omega)).mp q; omega)) (pc' := 88) (by decide) rfl ?_
    refine E_iload X0 d_ucp4_88 rfl (pc' := 90) rfl ?_
    exact E_ireturnI X0 d_ucp4_90 rfl (by decide) (by decide) (⟨by rw [← hcp, cpw_end (by omega)], eh⟩)
  | succ k ih =>
    intro T0 a i X0 hi hi4 hl hp eh V0 hcp
    refine E_iload X0 d_ucp4_44 rfl (pc' := 46) rfl ?_
    refine E_iloadN X0 d_ucp4_46 rfl (pc' := 47) rfl ?_
    refine E_iconst X0 (v := (1 : Int32)) d_ucp4_47 rfl (pc' := 48) rfl ?_
    refine E_isub X0 d_ucp4_48 rfl (pc' := 49) rfl ?_
    by_cases h49 : (Int32.ofNat i) < ((Int32.ofNat cs.length) - (1 : Int32))
    · skip
      refine E_icF X0 d_ucp4_49 (XT.ii_ge_f h49) (pc' := 52) rfl ?_
      have hlt := (o_em (by omega) (by omega)).mp h49
      refine E_aloadN X0 d_ucp4_52 rfl rfl (pc' := 53) rfl ?_
      refine E_iload X0 d_ucp4_53 rfl (pc' := 55) rfl ?_
      refine E_iinc X0 (y := (Int32.ofNat (i + 1))) d_ucp4_55 o_add rfl (l' := #[.val (.ref t), .val (.int (0 : Int32)), .val (.int (Int32.ofNat cs.length)), .val (.int (0 : Int32)), .val (.int a), .val (.int (Int32.ofNat (i + 1)))]) rfl (pc' := 58) rfl ?_
      refine E_static X0 (rm := rm_ugc) d_ucp4_58 (hw _ (List.mem_of_getElem? (i := 85) rfl)) (hw _ (List.mem_of_getElem? (i := 86) rfl)) (hw _ (List.mem_of_getElem? (i := 23) rfl)) (hw _ (List.mem_of_getElem? (i := 87) rfl)) (by decide) (argsL := [(.ref t), (.int (Int32.ofNat i))]) (st := []) rfl (ct_ugc l Z a0 hw G1 G3 OS hEL hSA t kb cs i X0.old V0 (by omega) hl (hp _ (own_mem (by omega)))) (lenOf (pd_6) rfl) rfl (by decide) (by decide) (by decide) (Nat.le_of_ble_eq_true rfl)  (pc' := 61) rfl ?_
      intro T1 _ X2 hQ3
      obtain ⟨rfl, e4⟩ := hQ3
      rw [← e4] at V0
      show Ends p e below s Z _ _ _ T1 (mkF m 61 #[.val (.ref t), .val (.int (0 : Int32)), .val (.int (Int32.ofNat cs.length)), .val (.int (0 : Int32)), .val (.int a), .val (.int (Int32.ofNat (i + 1)))] [(.int (cs.getD i 0))])
      refine E_static X2 (rm := rm_chi) d_ucp4_61 (hw _ (List.mem_of_getElem? (i := 99) rfl)) (hw _ (List.mem_of_getElem? (i := 100) rfl)) (hw _ (List.mem_of_getElem? (i := 101) rfl)) (hw _ (List.mem_of_getElem? (i := 102) rfl)) (by decide) (argsL := [(.int (cs.getD i 0))]) (st := []) rfl (ct_chi l Z a0 hw G1 G3 OS hEL hSA (cs.getD i 0) X2.old) (lenOf (pd_10) rfl) rfl (by decide) (by decide) (by decide) (Nat.le_of_ble_eq_true rfl)  (pc' := 64) rfl ?_
      intro T6 _ X7 hQ8
      obtain ⟨z5, rfl, e9, yz5, nz5⟩ := hQ8
      rw [← e9] at V0
      by_cases hH : hiS (cs.getD i 0)
      · skip
        obtain rfl := yz5 hH
        show Ends p e below s Z _ _ _ T6 (mkF m 64 #[.val (.ref t), .val (.int (0 : Int32)), .val (.int (Int32.ofNat cs.length)), .val (.int (0 : Int32)), .val (.int a), .val (.int (Int32.ofNat (i + 1)))] [(.int (1 : Int32))])
        refine E_ifF X7 d_ucp4_64 (XT.i0_eq_f (by decide)) (pc' := 67) rfl ?_
        refine E_aloadN X7 d_ucp4_67 rfl rfl (pc' := 68) rfl ?_
        refine E_iload X7 d_ucp4_68 rfl (pc' := 70) rfl ?_
        refine E_static X7 (rm := rm_ugc) d_ucp4_70 (hw _ (List.mem_of_getElem? (i := 85) rfl)) (hw _ (List.mem_of_getElem? (i := 86) rfl)) (hw _ (List.mem_of_getElem? (i := 23) rfl)) (hw _ (List.mem_of_getElem? (i := 87) rfl)) (by decide) (argsL := [(.ref t), (.int (Int32.ofNat (i + 1)))]) (st := []) rfl (ct_ugc l Z a0 hw G1 G3 OS hEL hSA t kb cs (i + 1) X7.old V0 (by omega) hl (hp _ (own_mem (by omega)))) (lenOf (pd_6) rfl) rfl (by decide) (by decide) (by decide) (Nat.le_of_ble_eq_true rfl)  (pc' := 73) rfl ?_
        intro T10 _ X11 hQ12
        obtain ⟨rfl, e13⟩ := hQ12
        rw [← e13] at V0
        show Ends p e below s Z _ _ _ T10 (mkF m 73 #[.val (.ref t), .val (.int (0 : Int32)), .val (.int (Int32.ofNat cs.length)), .val (.int (0 : Int32)), .val (.int a), .val (.int (Int32.ofNat (i + 1)))] [(.int (cs.getD (i + 1) 0))])
        refine E_static X11 (rm := rm_clo) d_ucp4_73 (hw _ (List.mem_of_getElem? (i := 111) rfl)) (hw _ (List.mem_of_getElem? (i := 112) rfl)) (hw _ (List.mem_of_getElem? (i := 101) rfl)) (hw _ (List.mem_of_getElem? (i := 113) rfl)) (by decide) (argsL := [(.int (cs.getD (i + 1) 0))]) (st := []) rfl (ct_clo l Z a0 hw G1 G3 OS hEL hSA (cs.getD (i + 1) 0) X11.old) (lenOf (pd_10) rfl) rfl (by decide) (by decide) (by decide) (Nat.le_of_ble_eq_true rfl)  (pc' := 76) rfl ?_
        intro T15 _ X16 hQ17
        obtain ⟨z14, rfl, e18, yz14, nz14⟩ := hQ17
        rw [← e18] at V0
        by_cases hL : loS (cs.getD (i + 1) 0)
        · skip
          obtain rfl := yz14 hL
          show Ends p e below s Z _ _ _ T15 (mkF m 76 #[.val (.ref t), .val (.int (0 : Int32)), .val (.int (Int32.ofNat cs.length)), .val (.int (0 : Int32)), .val (.int a), .val (.int (Int32.ofNat (i + 1)))] [(.int (1 : Int32))])
          refine E_ifF X16 d_ucp4_76 (XT.i0_eq_f (by decide)) (pc' := 79) rfl ?_
          refine E_iinc X16 (y := (a + (-1 : Int32))) d_ucp4_79 rfl rfl (l' := #[.val (.ref t), .val (.int (0 : Int32)), .val (.int (Int32.ofNat cs.length)), .val (.int (0 : Int32)), .val (.int (a + (-1 : Int32))), .val (.int (Int32.ofNat (i + 1)))]) rfl (pc' := 82) rfl ?_
          refine E_iinc X16 (y := (Int32.ofNat (i + 2))) d_ucp4_82 o_add rfl (l' := #[.val (.ref t), .val (.int (0 : Int32)), .val (.int (Int32.ofNat cs.length)), .val (.int (0 : Int32)), .val (.int (a + (-1 : Int32))), .val (.int (Int32.ofNat (i + 2)))]) rfl (pc' := 85) rfl ?_
          refine E_goto X16 d_ucp4_85 (pc' := 44) (by decide) rfl ?_
          exact ih (a + (-1 : Int32)) (i + 2) X16 (by omega) (by omega) hl hp (e18.trans (e13.trans (e9.trans (e4.trans eh)))) V0 ((cpw_yes hlt ⟨hH, hL⟩).symm.trans hcp)
        · skip
          obtain rfl := nz14 hL
          show Ends p e below s Z _ _ _ T15 (mkF m 76 #[.val (.ref t), .val (.int (0 : Int32)), .val (.int (Int32.ofNat cs.length)), .val (.int (0 : Int32)), .val (.int a), .val (.int (Int32.ofNat (i + 1)))] [(.int (0 : Int32))])
          refine E_ifT X16 d_ucp4_76 (XT.i0_eq_t (by decide)) (pc' := 44) (by decide) rfl ?_
          exact ih a (i + 1) X16 (by omega) (by omega) hl hp (e18.trans (e13.trans (e9.trans (e4.trans eh)))) V0 ((cpw_no hlt (fun q => hL q.2)).symm.trans hcp)
      · skip
        obtain rfl := nz5 hH
        show Ends p e below s Z _ _ _ T6 (mkF m 64 #[.val (.ref t), .val (.int (0 : Int32)), .val (.int (Int32.ofNat cs.length)), .val (.int (0 : Int32)), .val (.int a), .val (.int (Int32.ofNat (i + 1)))] [(.int (0 : Int32))])
        refine E_ifT X7 d_ucp4_64 (XT.i0_eq_t (by decide)) (pc' := 44) (by decide) rfl ?_
        exact ih a (i + 1) X7 (by omega) (by omega) hl hp (e9.trans (e4.trans eh)) V0 ((cpw_no hlt (fun q => hH q.1)).symm.trans hcp)
    · skip
      refine E_icT X0 d_ucp4_49 (XT.ii_ge_t h49) (pc' := 88) (by decide) rfl ?_
      have hlt : ¬ i + 1 < cs.length := fun q => h49 ((o_em (by omega) (by omega)).mpr q)
      refine E_iload X0 d_ucp4_88 rfl (pc' := 90) rfl ?_
      exact E_ireturnI X0 d_ucp4_90 rfl (by decide) (by decide) (⟨by rw [← hcp, cpw_end (by omega)], eh⟩)
set_option maxRecDepth 65536 in
set_option maxHeartbeats 40000000 in
theorem ct_ucp4 (l : Launch) (Z : State) (a0 : Array Value) (hw : ∀ d ∈ tables_1, d.before a0 Z = true) (G1 : Int32) (G3 : Value) (OS : Sts Z G1 G3) (hEL : EW Z a0 EL) (hSA : ∀ a ∈ Bundle.stringAtoms, a.before a0 Z = true) (t : Addr) (kb : ClassId) (cs : List Int32) {h0 : Heap} (O : Ext Z.heap h0) (V0 : Arv Z h0 t kb .byte (Int32.ofNat (2 * cs.length)) (u16 cs) (.int (0 : Int32))) (hl : cs.length ≤ 4000) (hp : ∀ c ∈ cs, ¬ c < 0 ∧ ¬ (65535 : Int32) < c) : Ct l Z (⟨"java/lang/StringUTF16", "codePointCount", "([BIIZ)I"⟩ : MethodName) jdk_52_method_11_code 6 (some .int) rm_ucp4 #[(.ref t), (.int (0 : Int32)), (.int (Int32.ofNat cs.length)), (.int (0 : Int32))] h0 (Q_ucp4 Z t kb cs h0) := by
  refine Ct.of_body (Ls := #[.val (.ref t), .val (.int (0 : Int32)), .val (.int (Int32.ofNat cs.length)), .val (.int (0 : Int32)), .unset, .unset]) (by decide +kernel) O (fun m => by first | rfl | (simp [entryFrame, mkF, argsToLocals, Value.category]; done) | (rcases ref_cases (Sts.ref OS) with rfl | ⟨r, rfl⟩ <;> rfl)) ?_
  intro p e s m below meth c T0 X0 e0
  subst e0
  refine E_getstatic X0 d_ucp4_0 (hw _ (List.mem_of_getElem? (i := 82) rfl)) Via.refl OS.2.2.2.2.1 (pc' := 3) rfl ?_
  intro T1 X2 e3
  rw [← e3] at V0
  refine E_ifT X2 d_ucp4_3 (XT.i0_ne_t (by decide)) (pc' := 19) (by decide) rfl ?_
  refine E_iloadN X2 d_ucp4_19 rfl (pc' := 20) rfl ?_
  refine E_iloadN X2 d_ucp4_20 rfl (pc' := 21) rfl ?_
  refine E_isub X2 (v := (Int32.ofNat cs.length)) d_ucp4_21 (by simp) (pc' := 22) rfl ?_
  refine E_istore X2 d_ucp4_22 (l' := #[.val (.ref t), .val (.int (0 : Int32)), .val (.int (Int32.ofNat cs.length)), .val (.int (0 : Int32)), .val (.int (Int32.ofNat cs.length)), .unset]) rfl (pc' := 24) rfl ?_
  refine E_iloadN X2 d_ucp4_24 rfl (pc' := 25) rfl ?_
  refine E_istore X2 d_ucp4_25 (l' := #[.val (.ref t), .val (.int (0 : Int32)), .val (.int (Int32.ofNat cs.length)), .val (.int (0 : Int32)), .val (.int (Int32.ofNat cs.length)), .val (.int (0 : Int32))]) rfl (pc' := 27) rfl ?_
  refine E_iloadN X2 d_ucp4_27 rfl (pc' := 28) rfl ?_
  refine E_ifT X2 d_ucp4_28 (XT.i0_eq_t (by decide)) (pc' := 44) (by decide) rfl ?_
  exact lp_ucp4 l Z a0 hw G1 G3 OS hEL hSA t kb cs cs.length (Int32.ofNat cs.length) 0 X2 (by omega) (by omega) hl hp e3 V0 rfl
theorem d_ucp3_0 : decode jdk_52_method_12_code 0 = .ok (.aload_n 0, 1) := by decide +kernel
theorem d_ucp3_1 : decode jdk_52_method_12_code 1 = .ok (.iload_n 1, 1) := by decide +kernel
theorem d_ucp3_2 : decode jdk_52_method_12_code 2 = .ok (.iload_n 2, 1) := by decide +kernel
theorem d_ucp3_3 : decode jdk_52_method_12_code 3 = .ok (.iconst 0, 1) := by decide +kernel
theorem d_ucp3_4 : decode jdk_52_method_12_code 4 = .ok (.invokestatic 100, 3) := by decide +kernel
theorem d_ucp3_7 : decode jdk_52_method_12_code 7 = .ok (.ireturn, 1) := by decide +kernel
abbrev rm_ucp3 : Room := ({ frames := 2, cells := 0, slots := 0, locals := 30 } : Room)
def Q_ucp3 (Z : State) (t : Addr) (kb : ClassId) (cs : List Int32) (h0 : Heap) (v : Option Value) (h : Heap) : Prop := v = some (.int (cpw (Int32.ofNat cs.length) cs)) ∧ h = h0
set_option maxRecDepth 65536 in
set_option maxHeartbeats 40000000 in
theorem ct_ucp3 (l : Launch) (Z : State) (a0 : Array Value) (hw : ∀ d ∈ tables_1, d.before a0 Z = true) (G1 : Int32) (G3 : Value) (OS : Sts Z G1 G3) (hEL : EW Z a0 EL) (hSA : ∀ a ∈ Bundle.stringAtoms, a.before a0 Z = true) (t : Addr) (kb : ClassId) (cs : List Int32) {h0 : Heap} (O : Ext Z.heap h0) (V0 : Arv Z h0 t kb .byte (Int32.ofNat (2 * cs.length)) (u16 cs) (.int (0 : Int32))) (hl : cs.length ≤ 4000) (hp : ∀ c ∈ cs, ¬ c < 0 ∧ ¬ (65535 : Int32) < c) : Ct l Z (⟨"java/lang/StringUTF16", "codePointCount", "([BII)I"⟩ : MethodName) jdk_52_method_12_code 3 (some .int) rm_ucp3 #[(.ref t), (.int (0 : Int32)), (.int (Int32.ofNat cs.length))] h0 (Q_ucp3 Z t kb cs h0) := by
  refine Ct.of_body (Ls := #[.val (.ref t), .val (.int (0 : Int32)), .val (.int (Int32.ofNat cs.length))]) (by decide +kernel) O (fun m => by first | rfl | (simp [entryFrame, mkF, argsToLocals, Value.category]; done) | (rcases ref_cases (Sts.ref OS) with rfl | ⟨r, rfl⟩ <;> rfl)) ?_
  intro p e s m below meth c T0 X0 e0
  subst e0
  refine E_aloadN X0 d_ucp3_0 rfl rfl (pc' := 1) rfl ?_
  refine E_iloadN X0 d_ucp3_1 rfl (pc' := 2) rfl ?_
  refine E_iloadN X0 d_ucp3_2 rfl (pc' := 3) rfl ?_
  refine E_iconst X0 (v := (0 : Int32)) d_ucp3_3 rfl (pc' := 4) rfl ?_
  refine E_static X0 (rm := rm_ucp4) d_ucp3_4 (hw _ (List.mem_of_getElem? (i := 96) rfl)) (hw _ (List.mem_of_getElem? (i := 97) rfl)) (hw _ (List.mem_of_getElem? (i := 23) rfl)) (hw _ (List.mem_of_getElem? (i := 98) rfl)) (by decide) (argsL := [(.ref t), (.int (0 : Int32)), (.int (Int32.ofNat cs.length)), (.int (0 : Int32))]) (st := []) rfl (ct_ucp4 l Z a0 hw G1 G3 OS hEL hSA t kb cs X0.old V0 hl hp) (lenOf (pd_11) rfl) rfl (by decide) (by decide) (by decide) (Nat.le_of_ble_eq_true rfl)  (pc' := 7) rfl ?_
  intro T1 _ X2 hQ3
  obtain ⟨rfl, e4⟩ := hQ3
  rw [← e4] at V0
  show Ends p e below s Z _ _ _ T1 (mkF m 7 #[.val (.ref t), .val (.int (0 : Int32)), .val (.int (Int32.ofNat cs.length))] [(.int (cpw (Int32.ofNat cs.length) cs))])
  exact E_ireturnI X2 d_ucp3_7 rfl (by decide) (by decide) (⟨rfl, e4⟩)
theorem d_scpc_0 : decode jdk_42_method_59_code 0 = .ok (.iload_n 1, 1) := by decide +kernel
theorem d_scpc_1 : decode jdk_42_method_59_code 1 = .ok (.iload_n 2, 1) := by decide +kernel
theorem d_scpc_2 : decode jdk_42_method_59_code 2 = .ok (.aload_n 0, 1) := by decide +kernel
theorem d_scpc_3 : decode jdk_42_method_59_code 3 = .ok (.invokevirtual 505, 3) := by decide +kernel
theorem d_scpc_6 : decode jdk_42_method_59_code 6 = .ok (.invokestatic 511, 3) := by decide +kernel
theorem d_scpc_9 : decode jdk_42_method_59_code 9 = .ok (.pop, 1) := by decide +kernel
theorem d_scpc_10 : decode jdk_42_method_59_code 10 = .ok (.aload_n 0, 1) := by decide +kernel
theorem d_scpc_11 : decode jdk_42_method_59_code 11 = .ok (.invokevirtual 492, 3) := by decide +kernel
theorem d_scpc_14 : decode jdk_42_method_59_code 14 = .ok (.ifCond .eq 7, 3) := by decide +kernel
theorem d_scpc_17 : decode jdk_42_method_59_code 17 = .ok (.iload_n 2, 1) := by decide +kernel
theorem d_scpc_18 : decode jdk_42_method_59_code 18 = .ok (.iload_n 1, 1) := by decide +kernel
theorem d_scpc_19 : decode jdk_42_method_59_code 19 = .ok (.isub, 1) := by decide +kernel
theorem d_scpc_20 : decode jdk_42_method_59_code 20 = .ok (.ireturn, 1) := by decide +kernel
theorem d_scpc_21 : decode jdk_42_method_59_code 21 = .ok (.aload_n 0, 1) := by decide +kernel
theorem d_scpc_22 : decode jdk_42_method_59_code 22 = .ok (.getfield 9, 3) := by decide +kernel
theorem d_scpc_25 : decode jdk_42_method_59_code 25 = .ok (.iload_n 1, 1) := by decide +kernel
theorem d_scpc_26 : decode jdk_42_method_59_code 26 = .ok (.iload_n 2, 1) := by decide +kernel
theorem d_scpc_27 : decode jdk_42_method_59_code 27 = .ok (.invokestatic 514, 3) := by decide +kernel
theorem d_scpc_30 : decode jdk_42_method_59_code 30 = .ok (.ireturn, 1) := by decide +kernel
abbrev rm_scpc : Room := ({ frames := 3, cells := 0, slots := 0, locals := 44 } : Room)
def Q_scpc (Z : State) (x t : Addr) (cs : List Int32) (h0 : Heap) (v : Option Value) (h : Heap) : Prop := v = some (.int (cpw (Int32.ofNat cs.length) cs)) ∧ h = h0
set_option maxRecDepth 65536 in
set_option maxHeartbeats 40000000 in
theorem ct_scpc (l : Launch) (Z : State) (a0 : Array Value) (hw : ∀ d ∈ tables_1, d.before a0 Z = true) (G1 : Int32) (G3 : Value) (OS : Sts Z G1 G3) (hEL : EW Z a0 EL) (hSA : ∀ a ∈ Bundle.stringAtoms, a.before a0 Z = true) (x t : Addr) (cs : List Int32) {h0 : Heap} (O : Ext Z.heap h0) (S0 : OStr Z h0 x t cs) (hl4 : cs.length ≤ 4000) : Ct l Z (⟨"java/lang/String", "codePointCount", "(II)I"⟩ : MethodName) jdk_42_method_59_code 3 (some .int) rm_scpc #[(.ref x), (.int (0 : Int32)), (.int (Int32.ofNat cs.length))] h0 (Q_scpc Z x t cs h0) := by
  refine Ct.of_body (Ls := #[.val (.ref x), .val (.int (0 : Int32)), .val (.int (Int32.ofNat cs.length))]) (by decide +kernel) O (fun m => by first | rfl | (simp [entryFrame, mkF, argsToLocals, Value.category]; done) | (rcases ref_cases (Sts.ref OS) with rfl | ⟨r, rfl⟩ <;> rfl)) ?_
  intro p e s m below meth c T0 X0 e0
  subst e0
  have hlen0 := S0
  refine E_iloadN X0 d_scpc_0 rfl (pc' := 1) rfl ?_
  refine E_iloadN X0 d_scpc_1 rfl (pc' := 2) rfl ?_
  refine E_aloadN X0 d_scpc_2 rfl rfl (pc' := 3) rfl ?_
  refine E_virtual X0 (rm := rm_slen) (a := x) (D := "java/lang/String") d_scpc_3 (hw _ (List.mem_of_getElem? (i := 55) rfl)) (hw _ (List.mem_of_getElem? (i := 41) rfl)) (hw _ (List.mem_of_getElem? (i := 43) rfl)) (hw _ (List.mem_of_getElem? (i := 42) rfl)) (notFace_of_selects (args := #[]) (mvT X0.hZ (hw _ (List.mem_of_getElem? (i := 43) rfl)))) (by decide) (OStr.exa S0) (hw _ (List.mem_of_getElem? (i := 9) rfl)) (hw _ (List.mem_of_getElem? (i := 44) rfl)) (argsL := []) (st := [(.int (Int32.ofNat cs.length)), (.int (0 : Int32))]) rfl (ct_slen l Z a0 hw G1 G3 OS hEL hSA x t cs X0.old S0) (lenOf (pd_12) rfl) rfl (by decide) (by decide) (by decide) (Nat.le_of_ble_eq_true rfl)  (pc' := 6) rfl ?_
  intro T1 _ X2 hQ3
  obtain ⟨rfl, e4⟩ := hQ3
  rw [← e4] at S0
  show Ends p e below s Z _ _ _ T1 (mkF m 6 #[.val (.ref x), .val (.int (0 : Int32)), .val (.int (Int32.ofNat cs.length))] [(.int (Int32.ofNat cs.length)), (.int (Int32.ofNat cs.length)), (.int (0 : Int32))])
  refine E_static X2 (rm := rm_ocf) d_scpc_6 (hw _ (List.mem_of_getElem? (i := 56) rfl)) (hw _ (List.mem_of_getElem? (i := 57) rfl)) (hw _ (List.mem_of_getElem? (i := 58) rfl)) (hw _ (List.mem_of_getElem? (i := 59) rfl)) (by decide) (argsL := [(.int (0 : Int32)), (.int (Int32.ofNat cs.length)), (.int (Int32.ofNat cs.length))]) (st := []) rfl (ct_ocf l Z a0 hw G1 G3 OS hEL hSA (Int32.ofNat cs.length) X2.old (o_nn (by omega))) (lenOf (pd_13) rfl) rfl (by decide) (by decide) (by decide) (Nat.le_of_ble_eq_true rfl)  (pc' := 9) rfl ?_
  intro T5 _ X6 hQ7
  obtain ⟨rfl, e8⟩ := hQ7
  rw [← e8] at S0
  show Ends p e below s Z _ _ _ T5 (mkF m 9 #[.val (.ref x), .val (.int (0 : Int32)), .val (.int (Int32.ofNat cs.length))] [(.int (0 : Int32))])
  refine E_pop X6 d_scpc_9 rfl (pc' := 10) rfl ?_
  obtain ⟨kb, cd, N, vs, E0, F0, C0, V0, hcod, hpc, hlen⟩ := S0
  rcases hcod with ⟨rfl, rfl, rfl, hl8⟩ | ⟨rfl, rfl, rfl⟩
  · skip
    refine E_aloadN X6 d_scpc_10 rfl rfl (pc' := 11) rfl ?_
    refine E_virtual X6 (rm := rm_lat) (a := x) (D := "java/lang/String") d_scpc_11 (hw _ (List.mem_of_getElem? (i := 64) rfl)) (hw _ (List.mem_of_getElem? (i := 65) rfl)) (hw _ (List.mem_of_getElem? (i := 67) rfl)) (hw _ (List.mem_of_getElem? (i := 66) rfl)) (notFace_of_selects (args := #[]) (mvT X6.hZ (hw _ (List.mem_of_getElem? (i := 67) rfl)))) (by decide) E0 (hw _ (List.mem_of_getElem? (i := 9) rfl)) (hw _ (List.mem_of_getElem? (i := 68) rfl)) (argsL := []) (st := []) rfl (ct_lat l Z a0 hw G1 G3 OS hEL hSA x 0 X6.old C0) (lenOf (pd_14) rfl) rfl (by decide) (by decide) (by decide) (Nat.le_of_ble_eq_true rfl)  (pc' := 14) rfl ?_
    intro T10 _ X11 hQ12
    obtain ⟨z9, rfl, e13, yz9, nz9⟩ := hQ12
    rw [← e13] at E0 F0 C0 V0
    obtain rfl := (yz9 rfl)
    show Ends p e below s Z _ _ _ T10 (mkF m 14 #[.val (.ref x), .val (.int (0 : Int32)), .val (.int (Int32.ofNat cs.length))] [(.int (1 : Int32))])
    refine E_ifF X11 d_scpc_14 (XT.i0_eq_f (by decide)) (pc' := 17) rfl ?_
    refine E_iloadN X11 d_scpc_17 rfl (pc' := 18) rfl ?_
    refine E_iloadN X11 d_scpc_18 rfl (pc' := 19) rfl ?_
    refine E_isub X11 (v := (Int32.ofNat cs.length)) d_scpc_19 (by simp) (pc' := 20) rfl ?_
    exact E_ireturnI X11 d_scpc_20 rfl (by decide) (by decide) (⟨by rw [cpw_lat cs hl8], (e13.trans (e8.trans e4))⟩)
  · skip
    refine E_aloadN X6 d_scpc_10 rfl rfl (pc' := 11) rfl ?_
    refine E_virtual X6 (rm := rm_lat) (a := x) (D := "java/lang/String") d_scpc_11 (hw _ (List.mem_of_getElem? (i := 64) rfl)) (hw _ (List.mem_of_getElem? (i := 65) rfl)) (hw _ (List.mem_of_getElem? (i := 67) rfl)) (hw _ (List.mem_of_getElem? (i := 66) rfl)) (notFace_of_selects (args := #[]) (mvT X6.hZ (hw _ (List.mem_of_getElem? (i := 67) rfl)))) (by decide) E0 (hw _ (List.mem_of_getElem? (i := 9) rfl)) (hw _ (List.mem_of_getElem? (i := 68) rfl)) (argsL := []) (st := []) rfl (ct_lat l Z a0 hw G1 G3 OS hEL hSA x 1 X6.old C0) (lenOf (pd_14) rfl) rfl (by decide) (by decide) (by decide) (Nat.le_of_ble_eq_true rfl)  (pc' := 14) rfl ?_
    intro T15 _ X16 hQ17
    obtain ⟨z14, rfl, e18, yz14, nz14⟩ := hQ17
    rw [← e18] at E0 F0 C0 V0
    obtain rfl := (nz14 (by decide))
    show Ends p e below s Z _ _ _ T15 (mkF m 14 #[.val (.ref x), .val (.int (0 : Int32)), .val (.int (Int32.ofNat cs.length))] [(.int (0 : Int32))])
    refine E_ifT X16 d_scpc_14 (XT.i0_eq_t (by decide)) (pc' := 21) (by decide) rfl ?_
    refine E_aloadN X16 d_scpc_21 rfl rfl (pc' := 22) rfl ?_
    refine E_getfield X16 d_scpc_22 (hw _ (List.mem_of_getElem? (i := 34) rfl)) Via.refl F0 (pc' := 25) rfl ?_
    intro T19 X20 e21
    rw [← e21] at E0 F0 C0 V0
    refine E_iloadN X20 d_scpc_25 rfl (pc' := 26) rfl ?_
    refine E_iloadN X20 d_scpc_26 rfl (pc' := 27) rfl ?_
    refine E_static X20 (rm := rm_ucp3) d_scpc_27 (hw _ (List.mem_of_getElem? (i := 93) rfl)) (hw _ (List.mem_of_getElem? (i := 94) rfl)) (hw _ (List.mem_of_getElem? (i := 23) rfl)) (hw _ (List.mem_of_getElem? (i := 95) rfl)) (by decide) (argsL := [(.ref t), (.int (0 : Int32)), (.int (Int32.ofNat cs.length))]) (st := []) rfl (ct_ucp3 l Z a0 hw G1 G3 OS hEL hSA t kb cs X20.old V0 hlen hpc) (lenOf (pd_15) rfl) rfl (by decide) (by decide) (by decide) (Nat.le_of_ble_eq_true rfl)  (pc' := 30) rfl ?_
    intro T22 _ X23 hQ24
    obtain ⟨rfl, e25⟩ := hQ24
    rw [← e25] at E0 F0 C0 V0
    show Ends p e below s Z _ _ _ T22 (mkF m 30 #[.val (.ref x), .val (.int (0 : Int32)), .val (.int (Int32.ofNat cs.length))] [(.int (cpw (Int32.ofNat cs.length) cs))])
    exact E_ireturnI X23 d_scpc_30 rfl (by decide) (by decide) (⟨rfl, (e25.trans (e21.trans (e18.trans (e8.trans e4))))⟩)
theorem d_hasl_0 : decode prog_17_method_3_code 0 = .ok (.aload_n 0, 1) := by decide +kernel
theorem d_hasl_1 : decode prog_17_method_3_code 1 = .ok (.iconst 0, 1) := by decide +kernel
theorem d_hasl_2 : decode prog_17_method_3_code 2 = .ok (.aload_n 0, 1) := by decide +kernel
theorem d_hasl_3 : decode prog_17_method_3_code 3 = .ok (.invokevirtual 50, 3) := by decide +kernel
theorem d_hasl_6 : decode prog_17_method_3_code 6 = .ok (.invokevirtual 56, 3) := by decide +kernel
theorem d_hasl_9 : decode prog_17_method_3_code 9 = .ok (.istore_n 3, 1) := by decide +kernel
theorem d_hasl_10 : decode prog_17_method_3_code 10 = .ok (.iload_n 3, 1) := by decide +kernel
theorem d_hasl_11 : decode prog_17_method_3_code 11 = .ok (.iload_n 1, 1) := by decide +kernel
theorem d_hasl_12 : decode prog_17_method_3_code 12 = .ok (.if_icmp .lt 12, 3) := by decide +kernel
theorem d_hasl_15 : decode prog_17_method_3_code 15 = .ok (.iload_n 3, 1) := by decide +kernel
theorem d_hasl_16 : decode prog_17_method_3_code 16 = .ok (.iload_n 2, 1) := by decide +kernel
theorem d_hasl_17 : decode prog_17_method_3_code 17 = .ok (.if_icmp .gt 7, 3) := by decide +kernel
theorem d_hasl_20 : decode prog_17_method_3_code 20 = .ok (.iconst 1, 1) := by decide +kernel
theorem d_hasl_21 : decode prog_17_method_3_code 21 = .ok (.goto 4, 3) := by decide +kernel
theorem d_hasl_24 : decode prog_17_method_3_code 24 = .ok (.iconst 0, 1) := by decide +kernel
theorem d_hasl_25 : decode prog_17_method_3_code 25 = .ok (.ireturn, 1) := by decide +kernel
abbrev rm_hasl : Room := ({ frames := 4, cells := 0, slots := 0, locals := 58 } : Room)
def Q_hasl (Z : State) (x t : Addr) (cs : List Int32) (mn mx : Int32) (h0 : Heap) (v : Option Value) (h : Heap) : Prop := ∃ z, v = some (.int z) ∧ h = h0 ∧ ((cpw (Int32.ofNat cs.length) cs) < mn → z = 0) ∧ (¬ (cpw (Int32.ofNat cs.length) cs) < mn → mx < (cpw (Int32.ofNat cs.length) cs) → z = 0) ∧ (¬ (cpw (Int32.ofNat cs.length) cs) < mn → ¬ mx < (cpw (Int32.ofNat cs.length) cs) → z = 1)
set_option maxRecDepth 65536 in
set_option maxHeartbeats 40000000 in
theorem ct_hasl (l : Launch) (Z : State) (a0 : Array Value) (hw : ∀ d ∈ tables_1, d.before a0 Z = true) (G1 : Int32) (G3 : Value) (OS : Sts Z G1 G3) (hEL : EW Z a0 EL) (hSA : ∀ a ∈ Bundle.stringAtoms, a.before a0 Z = true) (x t : Addr) (cs : List Int32) (mn mx : Int32) {h0 : Heap} (O : Ext Z.heap h0) (S0 : OStr Z h0 x t cs) (hl4 : cs.length ≤ 4000) : Ct l Z (⟨"com/example/panoptes/panoptes/Text", "hasLength", "(Ljava/lang/String;II)Z"⟩ : MethodName) prog_17_method_3_code 4 (some .boolean) rm_hasl #[(.ref x), (.int mn), (.int mx)] h0 (Q_hasl Z x t cs mn mx h0) := by
  refine Ct.of_body (Ls := #[.val (.ref x), .val (.int mn), .val (.int mx), .unset]) (by decide +kernel) O (fun m => by first | rfl | (simp [entryFrame, mkF, argsToLocals, Value.category]; done) | (rcases ref_cases (Sts.ref OS) with rfl | ⟨r, rfl⟩ <;> rfl)) ?_
  intro p e s m below meth c T0 X0 e0
  subst e0
  refine E_aloadN X0 d_hasl_0 rfl rfl (pc' := 1) rfl ?_
  refine E_iconst X0 (v := (0 : Int32)) d_hasl_1 rfl (pc' := 2) rfl ?_
  refine E_aloadN X0 d_hasl_2 rfl rfl (pc' := 3) rfl ?_
  refine E_virtual X0 (rm := rm_slen) (a := x) (D := "java/lang/String") d_hasl_3 (hw _ (List.mem_of_getElem? (i := 40) rfl)) (hw _ (List.mem_of_getElem? (i := 41) rfl)) (hw _ (List.mem_of_getElem? (i := 43) rfl)) (hw _ (List.mem_of_getElem? (i := 42) rfl)) (notFace_of_selects (args := #[]) (mvT X0.hZ (hw _ (List.mem_of_getElem? (i := 43) rfl)))) (by decide) (OStr.exa S0) (hw _ (List.mem_of_getElem? (i := 9) rfl)) (hw _ (List.mem_of_getElem? (i := 44) rfl)) (argsL := []) (st := [(.int (0 : Int32)), (.ref x)]) rfl (ct_slen l Z a0 hw G1 G3 OS hEL hSA x t cs X0.old S0) (lenOf (pd_12) rfl) rfl (by decide) (by decide) (by decide) (Nat.le_of_ble_eq_true rfl)  (pc' := 6) rfl ?_
  intro T1 _ X2 hQ3
  obtain ⟨rfl, e4⟩ := hQ3
  rw [← e4] at S0
  show Ends p e below s Z _ _ _ T1 (mkF m 6 #[.val (.ref x), .val (.int mn), .val (.int mx), .unset] [(.int (Int32.ofNat cs.length)), (.int (0 : Int32)), (.ref x)])
  refine E_virtual X2 (rm := rm_scpc) (a := x) (D := "java/lang/String") d_hasl_6 (hw _ (List.mem_of_getElem? (i := 50) rfl)) (hw _ (List.mem_of_getElem? (i := 51) rfl)) (hw _ (List.mem_of_getElem? (i := 53) rfl)) (hw _ (List.mem_of_getElem? (i := 52) rfl)) (notFace_of_selects (args := #[]) (mvT X2.hZ (hw _ (List.mem_of_getElem? (i := 53) rfl)))) (by decide) (OStr.exa S0) (hw _ (List.mem_of_getElem? (i := 9) rfl)) (hw _ (List.mem_of_getElem? (i := 54) rfl)) (argsL := [(.int (0 : Int32)), (.int (Int32.ofNat cs.length))]) (st := []) rfl (ct_scpc l Z a0 hw G1 G3 OS hEL hSA x t cs X2.old S0 hl4) (lenOf (pd_16) rfl) rfl (by decide) (by decide) (by decide) (Nat.le_of_ble_eq_true rfl)  (pc' := 9) rfl ?_
  intro T5 _ X6 hQ7
  obtain ⟨rfl, e8⟩ := hQ7
  rw [← e8] at S0
  show Ends p e below s Z _ _ _ T5 (mkF m 9 #[.val (.ref x), .val (.int mn), .val (.int mx), .unset] [(.int (cpw (Int32.ofNat cs.length) cs))])
  refine E_istoreN X6 d_hasl_9 (l' := #[.val (.ref x), .val (.int mn), .val (.int mx), .val (.int (cpw (Int32.ofNat cs.length) cs))]) rfl (pc' := 10) rfl ?_
  refine E_iloadN X6 d_hasl_10 rfl (pc' := 11) rfl ?_
  refine E_iloadN X6 d_hasl_11 rfl (pc' := 12) rfl ?_
  by_cases q12 : (cpw (Int32.ofNat cs.length) cs) < mn
  · skip
    refine E_icT X6 d_hasl_12 (XT.ii_lt_t q12) (pc' := 24) (by decide) rfl ?_
    refine E_iconst X6 (v := (0 : Int32)) d_hasl_24 rfl (pc' := 25) rfl ?_
    exact E_ireturnN X6 (t := .boolean) d_hasl_25 rfl (by simp) (by decide) (by decide) (⟨_, rfl, (e8.trans e4), fun _ => rfl, fun q => absurd q12 q, fun q => absurd q12 q⟩)
  · skip
    refine E_icF X6 d_hasl_12 (XT.ii_lt_f q12) (pc' := 15) rfl ?_
    refine E_iloadN X6 d_hasl_15 rfl (pc' := 16) rfl ?_
    refine E_iloadN X6 d_hasl_16 rfl (pc' := 17) rfl ?_
    by_cases q17 : mx < (cpw (Int32.ofNat cs.length) cs)
    · skip
      refine E_icT X6 d_hasl_17 (XT.ii_gt_t q17) (pc' := 24) (by decide) rfl ?_
      refine E_iconst X6 (v := (0 : Int32)) d_hasl_24 rfl (pc' := 25) rfl ?_
      exact E_ireturnN X6 (t := .boolean) d_hasl_25 rfl (by simp) (by decide) (by decide) (⟨_, rfl, (e8.trans e4), fun q => absurd q q12, fun _ _ => rfl, fun _ q => absurd q17 q⟩)
    · skip
      refine E_icF X6 d_hasl_17 (XT.ii_gt_f q17) (pc' := 20) rfl ?_
      refine E_iconst X6 (v := (1 : Int32)) d_hasl_20 rfl (pc' := 21) rfl ?_
      refine E_goto X6 d_hasl_21 (pc' := 25) (by decide) rfl ?_
      exact E_ireturnN X6 (t := .boolean) d_hasl_25 rfl (by simp) (by decide) (by decide) (⟨_, rfl, (e8.trans e4), fun q => absurd q q12, fun _ q => absurd q q17, fun _ _ => rfl⟩)
set_option maxRecDepth 65536 in
set_option maxHeartbeats 40000000 in
theorem ct_law (l : Launch) (Z : State) (a0 : Array Value) (hw : ∀ d ∈ tables_1, d.before a0 Z = true) (p0 p1 p2 p3 p4 p5 : Int32) (G1 : Int32) (G3 : Value) (O : Ext Z.heap Z.heap) (OS : Sts Z G1 G3) (hEL : EW Z a0 EL) (hSA : ∀ a ∈ Bundle.stringAtoms, a.before a0 Z = true) : CtW l Z x code maxLocals ret room_1 #[(.int p0), (.int p1), (.int p2), (.int p3), (.int p4), (.int p5)] Z.heap (fun v _ => v = some (.int 1)) := by
  show CtW l Z (⟨"com/example/panoptes/panoptes/TextHasLengthPinLaw", "law", "(IIIIII)Z"⟩ : MethodName) code 14 (some .boolean) ({ frames := 9, cells := 24, slots := 1152, locals := 208 } : Room) _ _ _
  refine CtW.of_body (Ls := #[.val (.int p0), .val (.int p1), .val (.int p2), .val (.int p3), .val (.int p4), .val (.int p5), .unset, .unset, .unset, .unset, .unset, .unset, .unset, .unset]) (by decide +kernel) O hEL (fun m => by first | rfl | (simp [entryFrame, mkF, argsToLocals, Value.category]; done)) ?_
  intro p e s m below meth c T0 X0 e0
  obtain ⟨nn, hq⟩ : ∃ z, z = p3 &&& (3 : Int32) := ⟨_, rfl⟩
  have hnn := and3 p3
  rw [← hq] at hnn
  refine F_iloadN X0 at_0 rfl (pc' := 1) rfl ?_
  refine F_iconst X0 (v := (3 : Int32)) at_1 rfl (pc' := 2) rfl ?_
  refine F_iand X0 (v := nn) at_2 hq.symm (pc' := 3) rfl ?_
  refine F_istore X0 at_3 (l' := #[.val (.int p0), .val (.int p1), .val (.int p2), .val (.int p3), .val (.int p4), .val (.int p5), .val (.int nn), .unset, .unset, .unset, .unset, .unset, .unset, .unset]) rfl (pc' := 5) rfl ?_
  rcases hnn with rfl | rfl | rfl | rfl
  · skip
    show EndW p e below s Z _ _ _ T0 (mkF m 5 #[.val (.int p0), .val (.int p1), .val (.int p2), .val (.int p3), .val (.int p4), .val (.int p5), .val (.int (0 : Int32)), .unset, .unset, .unset, .unset, .unset, .unset, .unset] [])
    refine F_iloadN X0 at_5 rfl (pc' := 6) rfl ?_
    refine F_static X0 (rm := rm_draw) at_6 (hw _ (List.mem_of_getElem? (i := 0) rfl)) (hw _ (List.mem_of_getElem? (i := 1) rfl)) (hw _ (List.mem_of_getElem? (i := 2) rfl)) (hw _ (List.mem_of_getElem? (i := 3) rfl)) (by decide) (argsL := [(.int p0)]) (st := []) rfl (ct_draw l Z a0 hw G1 G3 OS hEL hSA p0 X0.old) (lenOf (pd_17) rfl) rfl (by decide) (by decide) (by decide) (Nat.le_of_ble_eq_true rfl) [] (fun _ _ q => by obtain ⟨_, _, e, _⟩ := q; exact own_ks e) (sf0)  (pc' := 9) rfl ?_
    intro T1 _ X2 hQ3
    obtain ⟨c0, rfl, e4, bc0⟩ := hQ3
    show EndW p e below s Z _ _ _ T1 (mkF m 9 #[.val (.int p0), .val (.int p1), .val (.int p2), .val (.int p3), .val (.int p4), .val (.int p5), .val (.int (0 : Int32)), .unset, .unset, .unset, .unset, .unset, .unset, .unset] [(.int c0)])
    refine F_istore X2 at_9 (l' := #[.val (.int p0), .val (.int p1), .val (.int p2), .val (.int p3), .val (.int p4), .val (.int p5), .val (.int (0 : Int32)), .val (.int c0), .unset, .unset, .unset, .unset, .unset, .unset]) rfl (pc' := 11) rfl ?_
    refine F_iloadN X2 at_11 rfl (pc' := 12) rfl ?_
    refine F_static X2 (rm := rm_draw) at_12 (hw _ (List.mem_of_getElem? (i := 0) rfl)) (hw _ (List.mem_of_getElem? (i := 1) rfl)) (hw _ (List.mem_of_getElem? (i := 2) rfl)) (hw _ (List.mem_of_getElem? (i := 3) rfl)) (by decide) (argsL := [(.int p1)]) (st := []) rfl (ct_draw l Z a0 hw G1 G3 OS hEL hSA p1 X2.old) (lenOf (pd_17) rfl) rfl (by decide) (by decide) (by decide) (Nat.le_of_ble_eq_true rfl) [] (fun _ _ q => by obtain ⟨_, _, e, _⟩ := q; exact own_ks e) (sf0)  (pc' := 15) rfl ?_
    intro T5 _ X6 hQ7
    obtain ⟨c1, rfl, e8, bc1⟩ := hQ7
    show EndW p e below s Z _ _ _ T5 (mkF m 15 #[.val (.int p0), .val (.int p1), .val (.int p2), .val (.int p3), .val (.int p4), .val (.int p5), .val (.int (0 : Int32)), .val (.int c0), .unset, .unset, .unset, .unset, .unset, .unset] [(.int c1)])
    refine F_istore X6 at_15 (l' := #[.val (.int p0), .val (.int p1), .val (.int p2), .val (.int p3), .val (.int p4), .val (.int p5), .val (.int (0 : Int32)), .val (.int c0), .val (.int c1), .unset, .unset, .unset, .unset, .unset]) rfl (pc' := 17) rfl ?_
    refine F_iloadN X6 at_17 rfl (pc' := 18) rfl ?_
    refine F_static X6 (rm := rm_draw) at_18 (hw _ (List.mem_of_getElem? (i := 0) rfl)) (hw _ (List.mem_of_getElem? (i := 1) rfl)) (hw _ (List.mem_of_getElem? (i := 2) rfl)) (hw _ (List.mem_of_getElem? (i := 3) rfl)) (by decide) (argsL := [(.int p2)]) (st := []) rfl (ct_draw l Z a0 hw G1 G3 OS hEL hSA p2 X6.old) (lenOf (pd_17) rfl) rfl (by decide) (by decide) (by decide) (Nat.le_of_ble_eq_true rfl) [] (fun _ _ q => by obtain ⟨_, _, e, _⟩ := q; exact own_ks e) (sf0)  (pc' := 21) rfl ?_
    intro T9 _ X10 hQ11
    obtain ⟨c2, rfl, e12, bc2⟩ := hQ11
    show EndW p e below s Z _ _ _ T9 (mkF m 21 #[.val (.int p0), .val (.int p1), .val (.int p2), .val (.int p3), .val (.int p4), .val (.int p5), .val (.int (0 : Int32)), .val (.int c0), .val (.int c1), .unset, .unset, .unset, .unset, .unset] [(.int c2)])
    refine F_istore X10 at_21 (l' := #[.val (.int p0), .val (.int p1), .val (.int p2), .val (.int p3), .val (.int p4), .val (.int p5), .val (.int (0 : Int32)), .val (.int c0), .val (.int c1), .val (.int c2), .unset, .unset, .unset, .unset]) rfl (pc' := 23) rfl ?_
    refine F_iload X10 at_23 rfl (pc' := 25) rfl ?_
    refine F_ifF X10 at_25 (XT.i0_ne_f (by decide)) (pc' := 28) rfl ?_
    refine F_iconst X10 (v := (0 : Int32)) at_28 rfl (pc' := 29) rfl ?_
    refine F_newarray X10 0 at_29 (hw _ (List.mem_of_getElem? (i := 6) rfl)) (by decide) (by decide) (by decide) (by decide) (by decide) (pc' := 31) rfl ?_
    intro T13 b15 k19 X14 hb16 K17 V18
    have g20 : Z.heap.size ≤ b15 := Nat.le_trans X10.le (Nat.le_of_eq hb16.symm)
    have V21 : Arv Z T13.heap b15 k19 .char (0 : Int32) [] (.int (0 : Int32)) := V18.pad (pad_rep [] (.int (0 : Int32)) 0)
    refine F_astore X14 at_31 rfl (l' := #[.val (.int p0), .val (.int p1), .val (.int p2), .val (.int p3), .val (.int p4), .val (.int p5), .val (.int (0 : Int32)), .val (.int c0), .val (.int c1), .val (.int c2), .val (.ref b15), .unset, .unset, .unset]) rfl (pc' := 33) rfl ?_
    refine F_goto X14 at_33 (pc' := 99) (by decide) rfl ?_
    refine F_new X14 at_99 (hw _ (List.mem_of_getElem? (i := 7) rfl)) (hw _ (List.mem_of_getElem? (i := 8) rfl)) (hw _ (List.mem_of_getElem? (i := 9) rfl)) (by decide) (by decide) (pc' := 102) rfl ?_
    intro T22 b24 X23 hb25 K26 E27 D28
    have ne29 : b15 ≠ b24 := Nat.ne_of_lt (Nat.lt_of_lt_of_eq V21.lt hb25.symm)
    have Arv_30 := V21.keep K26 nin0
    have g31 : Z.heap.size ≤ b24 := Nat.le_trans X14.le (Nat.le_of_eq hb25.symm)
    have F32 : Fld Z T22.heap b24 "java/lang/String" "coder" "B" (.int (0 : Int32)) := D28 (Or.inr (hw _ (List.mem_of_getElem? (i := 33) rfl))) (ty := .byte) (by decide)
    have F33 : Fld Z T22.heap b24 "java/lang/String" "value" "[B" .null := D28 (Or.inr (hw _ (List.mem_of_getElem? (i := 35) rfl))) (ty := (.array .byte)) (by decide)
    refine F_dup X23 at_102 rfl (pc' := 103) rfl ?_
    refine F_aload X23 at_103 rfl rfl (pc' := 105) rfl ?_
    refine G_special X23 (rm := rm_sinit0) (a := b24) at_105 rfl rfl (hw _ (List.mem_of_getElem? (i := 10) rfl)) (hw _ (List.mem_of_getElem? (i := 11) rfl)) (hw _ (List.mem_of_getElem? (i := 12) rfl)) (by decide) (hw _ (List.mem_of_getElem? (i := 9) rfl)) (argsL := [(.ref b15)]) (st := [(.ref b24)]) rfl (ct_sinit0 l Z a0 hw G1 G3 OS hEL hSA b24 b15 k19 (.int (0 : Int32)) X23.old E27 F33 F32 g31 Arv_30) (lenOf (pd_18) rfl) rfl (by decide) (by decide) (by decide) (Nat.le_of_ble_eq_true rfl)  (pc' := 108) rfl ?_
    intro T34 _ X35 hQ36 hsf37
    obtain ⟨rfl, K38, t39, S40⟩ := hQ36
    have Arv_41 := Arv_30.keep K38 (ninS ne29 nin0)
    show EndW p e below s Z _ _ _ T34 (mkF m 108 #[.val (.int p0), .val (.int p1), .val (.int p2), .val (.int p3), .val (.int p4), .val (.int p5), .val (.int (0 : Int32)), .val (.int c0), .val (.int c1), .val (.int c2), .val (.ref b15), .unset, .unset, .unset] [(.ref b24)])
    refine F_astore X35 at_108 rfl (l' := #[.val (.int p0), .val (.int p1), .val (.int p2), .val (.int p3), .val (.int p4), .val (.int p5), .val (.int (0 : Int32)), .val (.int c0), .val (.int c1), .val (.int c2), .val (.ref b15), .val (.ref b24), .unset, .unset]) rfl (pc' := 110) rfl ?_
    refine F_iload X35 at_110 rfl (pc' := 112) rfl ?_
    refine F_istore X35 at_112 (l' := #[.val (.int p0), .val (.int p1), .val (.int p2), .val (.int p3), .val (.int p4), .val (.int p5), .val (.int (0 : Int32)), .val (.int c0), .val (.int c1), .val (.int c2), .val (.ref b15), .val (.ref b24), .val (.int (0 : Int32)), .unset]) rfl (pc' := 114) rfl ?_
    refine F_iload X35 at_114 rfl (pc' := 116) rfl ?_
    refine F_iconst X35 (v := (2 : Int32)) at_116 rfl (pc' := 117) rfl ?_
    refine F_icT X35 at_117 (XT.ii_lt_t (by decide)) (pc' := 142) (by decide) rfl ?_
    refine F_iload X35 at_142 rfl (pc' := 144) rfl ?_
    refine F_iconst X35 (v := (3 : Int32)) at_144 rfl (pc' := 145) rfl ?_
    refine F_icT X35 at_145 (XT.ii_lt_t (by decide)) (pc' := 170) (by decide) rfl ?_
    refine F_iload X35 at_170 rfl (pc' := 172) rfl ?_
    refine F_iload X35 at_172 rfl (pc' := 174) rfl ?_
    by_cases q174 : (0 : Int32) < p4
    · skip
      refine F_icT X35 at_174 (XT.ii_lt_t q174) (pc' := 188) (by decide) rfl ?_
      refine F_iconst X35 (v := (0 : Int32)) at_188 rfl (pc' := 189) rfl ?_
      refine F_istore X35 at_189 (l' := #[.val (.int p0), .val (.int p1), .val (.int p2), .val (.int p3), .val (.int p4), .val (.int p5), .val (.int (0 : Int32)), .val (.int c0), .val (.int c1), .val (.int c2), .val (.ref b15), .val (.ref b24), .val (.int (0 : Int32)), .val (.int (0 : Int32))]) rfl (pc' := 191) rfl ?_
      refine F_aload X35 at_191 rfl rfl (pc' := 193) rfl ?_
      refine F_iload X35 at_193 rfl (pc' := 195) rfl ?_
      refine F_iload X35 at_195 rfl (pc' := 197) rfl ?_
      refine F_static X35 (rm := rm_hasl) at_197 (hw _ (List.mem_of_getElem? (i := 36) rfl)) (hw _ (List.mem_of_getElem? (i := 37) rfl)) (hw _ (List.mem_of_getElem? (i := 38) rfl)) (hw _ (List.mem_of_getElem? (i := 39) rfl)) (by decide) (argsL := [(.ref b24), (.int p4), (.int p5)]) (st := []) rfl (ct_hasl l Z a0 hw G1 G3 OS hEL hSA b24 t39 [] p4 p5 X35.old S40 (Nat.le_of_ble_eq_true rfl)) (lenOf (pd_19) rfl) rfl (by decide) (by decide) (by decide) (Nat.le_of_ble_eq_true rfl) [] (fun _ _ q => by obtain ⟨_, _, e, _, _, _⟩ := q; exact own_ks e) (sf0)  (pc' := 200) rfl ?_
      intro T43 _ X44 hQ45
      obtain ⟨z42, rfl, e46, Az42, Bz42, Cz42⟩ := hQ45
      rw [← e46] at Arv_41 S40
      have hct : cpw (Int32.ofNat ([] : List Int32).length) [] = (0 : Int32) := by rfl
      rw [hct] at Az42 Bz42 Cz42
      obtain rfl := Az42 q174
      show EndW p e below s Z _ _ _ T43 (mkF m 200 #[.val (.int p0), .val (.int p1), .val (.int p2), .val (.int p3), .val (.int p4), .val (.int p5), .val (.int (0 : Int32)), .val (.int c0), .val (.int c1), .val (.int c2), .val (.ref b15), .val (.ref b24), .val (.int (0 : Int32)), .val (.int (0 : Int32))] [(.int (0 : Int32))])
      refine F_iload X44 at_200 rfl (pc' := 202) rfl ?_
      refine F_icF X44 at_202 (XT.ii_ne_f (by decide)) (pc' := 205) rfl ?_
      refine F_iconst X44 (v := (1 : Int32)) at_205 rfl (pc' := 206) rfl ?_
      refine F_goto X44 at_206 (pc' := 210) (by decide) rfl ?_
      exact F_ireturnN X44 (t := .boolean) at_210 rfl (by simp) (by decide) (by decide) (rfl)
    · skip
      refine F_icF X35 at_174 (XT.ii_lt_f q174) (pc' := 177) rfl ?_
      refine F_iload X35 at_177 rfl (pc' := 179) rfl ?_
      refine F_iload X35 at_179 rfl (pc' := 181) rfl ?_
      by_cases q181 : p5 < (0 : Int32)
      · skip
        refine F_icT X35 at_181 (XT.ii_gt_t q181) (pc' := 188) (by decide) rfl ?_
        refine F_iconst X35 (v := (0 : Int32)) at_188 rfl (pc' := 189) rfl ?_
        refine F_istore X35 at_189 (l' := #[.val (.int p0), .val (.int p1), .val (.int p2), .val (.int p3), .val (.int p4), .val (.int p5), .val (.int (0 : Int32)), .val (.int c0), .val (.int c1), .val (.int c2), .val (.ref b15), .val (.ref b24), .val (.int (0 : Int32)), .val (.int (0 : Int32))]) rfl (pc' := 191) rfl ?_
        refine F_aload X35 at_191 rfl rfl (pc' := 193) rfl ?_
        refine F_iload X35 at_193 rfl (pc' := 195) rfl ?_
        refine F_iload X35 at_195 rfl (pc' := 197) rfl ?_
        refine F_static X35 (rm := rm_hasl) at_197 (hw _ (List.mem_of_getElem? (i := 36) rfl)) (hw _ (List.mem_of_getElem? (i := 37) rfl)) (hw _ (List.mem_of_getElem? (i := 38) rfl)) (hw _ (List.mem_of_getElem? (i := 39) rfl)) (by decide) (argsL := [(.ref b24), (.int p4), (.int p5)]) (st := []) rfl (ct_hasl l Z a0 hw G1 G3 OS hEL hSA b24 t39 [] p4 p5 X35.old S40 (Nat.le_of_ble_eq_true rfl)) (lenOf (pd_19) rfl) rfl (by decide) (by decide) (by decide) (Nat.le_of_ble_eq_true rfl) [] (fun _ _ q => by obtain ⟨_, _, e, _, _, _⟩ := q; exact own_ks e) (sf0)  (pc' := 200) rfl ?_
        intro T48 _ X49 hQ50
        obtain ⟨z47, rfl, e51, Az47, Bz47, Cz47⟩ := hQ50
        rw [← e51] at Arv_41 S40
        have hct : cpw (Int32.ofNat ([] : List Int32).length) [] = (0 : Int32) := by rfl
        rw [hct] at Az47 Bz47 Cz47
        obtain rfl := Bz47 q174 q181
        show EndW p e below s Z _ _ _ T48 (mkF m 200 #[.val (.int p0), .val (.int p1), .val (.int p2), .val (.int p3), .val (.int p4), .val (.int p5), .val (.int (0 : Int32)), .val (.int c0), .val (.int c1), .val (.int c2), .val (.ref b15), .val (.ref b24), .val (.int (0 : Int32)), .val (.int (0 : Int32))] [(.int (0 : Int32))])
        refine F_iload X49 at_200 rfl (pc' := 202) rfl ?_
        refine F_icF X49 at_202 (XT.ii_ne_f (by decide)) (pc' := 205) rfl ?_
        refine F_iconst X49 (v := (1 : Int32)) at_205 rfl (pc' := 206) rfl ?_
        refine F_goto X49 at_206 (pc' := 210) (by decide) rfl ?_
        exact F_ireturnN X49 (t := .boolean) at_210 rfl (by simp) (by decide) (by decide) (rfl)
      · skip
        refine F_icF X35 at_181 (XT.ii_gt_f q181) (pc' := 184) rfl ?_
        refine F_iconst X35 (v := (1 : Int32)) at_184 rfl (pc' := 185) rfl ?_
        refine F_goto X35 at_185 (pc' := 189) (by decide) rfl ?_
        refine F_istore X35 at_189 (l' := #[.val (.int p0), .val (.int p1), .val (.int p2), .val (.int p3), .val (.int p4), .val (.int p5), .val (.int (0 : Int32)), .val (.int c0), .val (.int c1), .val (.int c2), .val (.ref b15), .val (.ref b24), .val (.int (0 : Int32)), .val (.int (1 : Int32))]) rfl (pc' := 191) rfl ?_
        refine F_aload X35 at_191 rfl rfl (pc' := 193) rfl ?_
        refine F_iload X35 at_193 rfl (pc' := 195) rfl ?_
        refine F_iload X35 at_195 rfl (pc' := 197) rfl ?_
        refine F_static X35 (rm := rm_hasl) at_197 (hw _ (List.mem_of_getElem? (i := 36) rfl)) (hw _ (List.mem_of_getElem? (i := 37) rfl)) (hw _ (List.mem_of_getElem? (i := 38) rfl)) (hw _ (List.mem_of_getElem? (i := 39) rfl)) (by decide) (argsL := [(.ref b24), (.int p4), (.int p5)]) (st := []) rfl (ct_hasl l Z a0 hw G1 G3 OS hEL hSA b24 t39 [] p4 p5 X35.old S40 (Nat.le_of_ble_eq_true rfl)) (lenOf (pd_19) rfl) rfl (by decide) (by decide) (by decide) (Nat.le_of_ble_eq_true rfl) [] (fun _ _ q => by obtain ⟨_, _, e, _, _, _⟩ := q; exact own_ks e) (sf0)  (pc' := 200) rfl ?_
        intro T53 _ X54 hQ55
        obtain ⟨z52, rfl, e56, Az52, Bz52, Cz52⟩ := hQ55
        rw [← e56] at Arv_41 S40
        have hct : cpw (Int32.ofNat ([] : List Int32).length) [] = (0 : Int32) := by rfl
        rw [hct] at Az52 Bz52 Cz52
        obtain rfl := Cz52 q174 q181
        show EndW p e below s Z _ _ _ T53 (mkF m 200 #[.val (.int p0), .val (.int p1), .val (.int p2), .val (.int p3), .val (.int p4), .val (.int p5), .val (.int (0 : Int32)), .val (.int c0), .val (.int c1), .val (.int c2), .val (.ref b15), .val (.ref b24), .val (.int (0 : Int32)), .val (.int (1 : Int32))] [(.int (1 : Int32))])
        refine F_iload X54 at_200 rfl (pc' := 202) rfl ?_
        refine F_icF X54 at_202 (XT.ii_ne_f (by decide)) (pc' := 205) rfl ?_
        refine F_iconst X54 (v := (1 : Int32)) at_205 rfl (pc' := 206) rfl ?_
        refine F_goto X54 at_206 (pc' := 210) (by decide) rfl ?_
        exact F_ireturnN X54 (t := .boolean) at_210 rfl (by simp) (by decide) (by decide) (rfl)
  · skip
    show EndW p e below s Z _ _ _ T0 (mkF m 5 #[.val (.int p0), .val (.int p1), .val (.int p2), .val (.int p3), .val (.int p4), .val (.int p5), .val (.int (1 : Int32)), .unset, .unset, .unset, .unset, .unset, .unset, .unset] [])
    refine F_iloadN X0 at_5 rfl (pc' := 6) rfl ?_
    refine F_static X0 (rm := rm_draw) at_6 (hw _ (List.mem_of_getElem? (i := 0) rfl)) (hw _ (List.mem_of_getElem? (i := 1) rfl)) (hw _ (List.mem_of_getElem? (i := 2) rfl)) (hw _ (List.mem_of_getElem? (i := 3) rfl)) (by decide) (argsL := [(.int p0)]) (st := []) rfl (ct_draw l Z a0 hw G1 G3 OS hEL hSA p0 X0.old) (lenOf (pd_17) rfl) rfl (by decide) (by decide) (by decide) (Nat.le_of_ble_eq_true rfl) [] (fun _ _ q => by obtain ⟨_, _, e, _⟩ := q; exact own_ks e) (sf0)  (pc' := 9) rfl ?_
    intro T57 _ X58 hQ59
    obtain ⟨c0, rfl, e60, bc0⟩ := hQ59
    show EndW p e below s Z _ _ _ T57 (mkF m 9 #[.val (.int p0), .val (.int p1), .val (.int p2), .val (.int p3), .val (.int p4), .val (.int p5), .val (.int (1 : Int32)), .unset, .unset, .unset, .unset, .unset, .unset, .unset] [(.int c0)])
    refine F_istore X58 at_9 (l' := #[.val (.int p0), .val (.int p1), .val (.int p2), .val (.int p3), .val (.int p4), .val (.int p5), .val (.int (1 : Int32)), .val (.int c0), .unset, .unset, .unset, .unset, .unset, .unset]) rfl (pc' := 11) rfl ?_
    refine F_iloadN X58 at_11 rfl (pc' := 12) rfl ?_
    refine F_static X58 (rm := rm_draw) at_12 (hw _ (List.mem_of_getElem? (i := 0) rfl)) (hw _ (List.mem_of_getElem? (i := 1) rfl)) (hw _ (List.mem_of_getElem? (i := 2) rfl)) (hw _ (List.mem_of_getElem? (i := 3) rfl)) (by decide) (argsL := [(.int p1)]) (st := []) rfl (ct_draw l Z a0 hw G1 G3 OS hEL hSA p1 X58.old) (lenOf (pd_17) rfl) rfl (by decide) (by decide) (by decide) (Nat.le_of_ble_eq_true rfl) [] (fun _ _ q => by obtain ⟨_, _, e, _⟩ := q; exact own_ks e) (sf0)  (pc' := 15) rfl ?_
    intro T61 _ X62 hQ63
    obtain ⟨c1, rfl, e64, bc1⟩ := hQ63
    show EndW p e below s Z _ _ _ T61 (mkF m 15 #[.val (.int p0), .val (.int p1), .val (.int p2), .val (.int p3), .val (.int p4), .val (.int p5), .val (.int (1 : Int32)), .val (.int c0), .unset, .unset, .unset, .unset, .unset, .unset] [(.int c1)])
    refine F_istore X62 at_15 (l' := #[.val (.int p0), .val (.int p1), .val (.int p2), .val (.int p3), .val (.int p4), .val (.int p5), .val (.int (1 : Int32)), .val (.int c0), .val (.int c1), .unset, .unset, .unset, .unset, .unset]) rfl (pc' := 17) rfl ?_
    refine F_iloadN X62 at_17 rfl (pc' := 18) rfl ?_
    refine F_static X62 (rm := rm_draw) at_18 (hw _ (List.mem_of_getElem? (i := 0) rfl)) (hw _ (List.mem_of_getElem? (i := 1) rfl)) (hw _ (List.mem_of_getElem? (i := 2) rfl)) (hw _ (List.mem_of_getElem? (i := 3) rfl)) (by decide) (argsL := [(.int p2)]) (st := []) rfl (ct_draw l Z a0 hw G1 G3 OS hEL hSA p2 X62.old) (lenOf (pd_17) rfl) rfl (by decide) (by decide) (by decide) (Nat.le_of_ble_eq_true rfl) [] (fun _ _ q => by obtain ⟨_, _, e, _⟩ := q; exact own_ks e) (sf0)  (pc' := 21) rfl ?_
    intro T65 _ X66 hQ67
    obtain ⟨c2, rfl, e68, bc2⟩ := hQ67
    show EndW p e below s Z _ _ _ T65 (mkF m 21 #[.val (.int p0), .val (.int p1), .val (.int p2), .val (.int p3), .val (.int p4), .val (.int p5), .val (.int (1 : Int32)), .val (.int c0), .val (.int c1), .unset, .unset, .unset, .unset, .unset] [(.int c2)])
    refine F_istore X66 at_21 (l' := #[.val (.int p0), .val (.int p1), .val (.int p2), .val (.int p3), .val (.int p4), .val (.int p5), .val (.int (1 : Int32)), .val (.int c0), .val (.int c1), .val (.int c2), .unset, .unset, .unset, .unset]) rfl (pc' := 23) rfl ?_
    refine F_iload X66 at_23 rfl (pc' := 25) rfl ?_
    refine F_ifT X66 at_25 (XT.i0_ne_t (by decide)) (pc' := 36) (by decide) rfl ?_
    refine F_iload X66 at_36 rfl (pc' := 38) rfl ?_
    refine F_iconst X66 (v := (1 : Int32)) at_38 rfl (pc' := 39) rfl ?_
    refine F_icF X66 at_39 (XT.ii_ne_f (by decide)) (pc' := 42) rfl ?_
    refine F_iconst X66 (v := (1 : Int32)) at_42 rfl (pc' := 43) rfl ?_
    refine F_newarray X66 1 at_43 (hw _ (List.mem_of_getElem? (i := 6) rfl)) (by decide) (by decide) (by decide) (by decide) (by decide) (pc' := 45) rfl ?_
    intro T69 b71 k75 X70 hb72 K73 V74
    have g76 : Z.heap.size ≤ b71 := Nat.le_trans X66.le (Nat.le_of_eq hb72.symm)
    have V77 : Arv Z T69.heap b71 k75 .char (1 : Int32) [(.int (0 : Int32))] (.int (0 : Int32)) := V74.pad (pad_rep [] (.int (0 : Int32)) 1)
    refine F_dup X70 at_45 rfl (pc' := 46) rfl ?_
    refine F_iconst X70 (v := (0 : Int32)) at_46 rfl (pc' := 47) rfl ?_
    refine F_iload X70 at_47 rfl (pc' := 49) rfl ?_
    refine F_castore X70 0 (y := c0) at_49 (o_nar bc0.1 bc0.2) V77 ⟨by decide, by decide⟩ rfl (Nat.le_of_ble_eq_true rfl) g76 (pc' := 50) rfl ?_
    intro T78 X79 K80 V81
    have V82 : Arv Z T78.heap b71 k75 .char (1 : Int32) [(.int c0)] (.int (0 : Int32)) := V81
    refine F_astore X79 at_50 rfl (l' := #[.val (.int p0), .val (.int p1), .val (.int p2), .val (.int p3), .val (.int p4), .val (.int p5), .val (.int (1 : Int32)), .val (.int c0), .val (.int c1), .val (.int c2), .val (.ref b71), .unset, .unset, .unset]) rfl (pc' := 52) rfl ?_
    refine F_goto X79 at_52 (pc' := 99) (by decide) rfl ?_
    refine F_new X79 at_99 (hw _ (List.mem_of_getElem? (i := 7) rfl)) (hw _ (List.mem_of_getElem? (i := 8) rfl)) (hw _ (List.mem_of_getElem? (i := 9) rfl)) (by decide) (by decide) (pc' := 102) rfl ?_
    intro T83 b85 X84 hb86 K87 E88 D89
    have ne90 : b71 ≠ b85 := Nat.ne_of_lt (Nat.lt_of_lt_of_eq V82.lt hb86.symm)
    have Arv_91 := V82.keep K87 nin0
    have g92 : Z.heap.size ≤ b85 := Nat.le_trans X79.le (Nat.le_of_eq hb86.symm)
    have F93 : Fld Z T83.heap b85 "java/lang/String" "coder" "B" (.int (0 : Int32)) := D89 (Or.inr (hw _ (List.mem_of_getElem? (i := 33) rfl))) (ty := .byte) (by decide)
    have F94 : Fld Z T83.heap b85 "java/lang/String" "value" "[B" .null := D89 (Or.inr (hw _ (List.mem_of_getElem? (i := 35) rfl))) (ty := (.array .byte)) (by decide)
    refine F_dup X84 at_102 rfl (pc' := 103) rfl ?_
    refine F_aload X84 at_103 rfl rfl (pc' := 105) rfl ?_
    refine F_special X84 (rm := rm_sinit) (a := b85) at_105 rfl rfl (hw _ (List.mem_of_getElem? (i := 10) rfl)) (hw _ (List.mem_of_getElem? (i := 11) rfl)) (hw _ (List.mem_of_getElem? (i := 12) rfl)) (by decide) (hw _ (List.mem_of_getElem? (i := 9) rfl)) (argsL := [(.ref b71)]) (st := [(.ref b85)]) rfl (ct_sinit l Z a0 hw G1 G3 OS hEL hSA b85 b71 k75 [c0] (.int (0 : Int32)) .null (.int (0 : Int32)) X84.old (Nat.le_of_ble_eq_true rfl) (Nat.le_of_ble_eq_true rfl) (allC bc0 allN) E88 F94 F93 g92 Arv_91) (lenOf (pd_18) rfl) rfl (by decide) (by decide) (by decide) (Nat.le_of_ble_eq_true rfl) [b85] (fun _ _ q => q.2.1) (sfS (own_safe X84.al E88 F94 (hw _ (List.mem_of_getElem? (i := 8) rfl))) (sf0))  (pc' := 108) rfl ?_
    intro T95 _ X96 hQ97
    obtain ⟨rfl, K98, t99, sz100, S101⟩ := hQ97
    have ne102 : b71 ≠ t99 := Nat.ne_of_lt (Nat.lt_of_lt_of_le Arv_91.lt sz100)
    have ne103 : b85 ≠ t99 := Nat.ne_of_lt (Nat.lt_of_lt_of_le E88.lt sz100)
    have Arv_104 := Arv_91.keep K98 (ninS ne90 nin0)
    show EndW p e below s Z _ _ _ T95 (mkF m 108 #[.val (.int p0), .val (.int p1), .val (.int p2), .val (.int p3), .val (.int p4), .val (.int p5), .val (.int (1 : Int32)), .val (.int c0), .val (.int c1), .val (.int c2), .val (.ref b71), .unset, .unset, .unset] [(.ref b85)])
    refine F_astore X96 at_108 rfl (l' := #[.val (.int p0), .val (.int p1), .val (.int p2), .val (.int p3), .val (.int p4), .val (.int p5), .val (.int (1 : Int32)), .val (.int c0), .val (.int c1), .val (.int c2), .val (.ref b71), .val (.ref b85), .unset, .unset]) rfl (pc' := 110) rfl ?_
    refine F_iload X96 at_110 rfl (pc' := 112) rfl ?_
    refine F_istore X96 at_112 (l' := #[.val (.int p0), .val (.int p1), .val (.int p2), .val (.int p3), .val (.int p4), .val (.int p5), .val (.int (1 : Int32)), .val (.int c0), .val (.int c1), .val (.int c2), .val (.ref b71), .val (.ref b85), .val (.int (1 : Int32)), .unset]) rfl (pc' := 114) rfl ?_
    refine F_iload X96 at_114 rfl (pc' := 116) rfl ?_
    refine F_iconst X96 (v := (2 : Int32)) at_116 rfl (pc' := 117) rfl ?_
    refine F_icT X96 at_117 (XT.ii_lt_t (by decide)) (pc' := 142) (by decide) rfl ?_
    refine F_iload X96 at_142 rfl (pc' := 144) rfl ?_
    refine F_iconst X96 (v := (3 : Int32)) at_144 rfl (pc' := 145) rfl ?_
    refine F_icT X96 at_145 (XT.ii_lt_t (by decide)) (pc' := 170) (by decide) rfl ?_
    refine F_iload X96 at_170 rfl (pc' := 172) rfl ?_
    refine F_iload X96 at_172 rfl (pc' := 174) rfl ?_
    by_cases q174 : (1 : Int32) < p4
    · skip
      refine F_icT X96 at_174 (XT.ii_lt_t q174) (pc' := 188) (by decide) rfl ?_
      refine F_iconst X96 (v := (0 : Int32)) at_188 rfl (pc' := 189) rfl ?_
      refine F_istore X96 at_189 (l' := #[.val (.int p0), .val (.int p1), .val (.int p2), .val (.int p3), .val (.int p4), .val (.int p5), .val (.int (1 : Int32)), .val (.int c0), .val (.int c1), .val (.int c2), .val (.ref b71), .val (.ref b85), .val (.int (1 : Int32)), .val (.int (0 : Int32))]) rfl (pc' := 191) rfl ?_
      refine F_aload X96 at_191 rfl rfl (pc' := 193) rfl ?_
      refine F_iload X96 at_193 rfl (pc' := 195) rfl ?_
      refine F_iload X96 at_195 rfl (pc' := 197) rfl ?_
      refine F_static X96 (rm := rm_hasl) at_197 (hw _ (List.mem_of_getElem? (i := 36) rfl)) (hw _ (List.mem_of_getElem? (i := 37) rfl)) (hw _ (List.mem_of_getElem? (i := 38) rfl)) (hw _ (List.mem_of_getElem? (i := 39) rfl)) (by decide) (argsL := [(.ref b85), (.int p4), (.int p5)]) (st := []) rfl (ct_hasl l Z a0 hw G1 G3 OS hEL hSA b85 t99 [c0] p4 p5 X96.old S101 (Nat.le_of_ble_eq_true rfl)) (lenOf (pd_19) rfl) rfl (by decide) (by decide) (by decide) (Nat.le_of_ble_eq_true rfl) [] (fun _ _ q => by obtain ⟨_, _, e, _, _, _⟩ := q; exact own_ks e) (sf0)  (pc' := 200) rfl ?_
      intro T106 _ X107 hQ108
      obtain ⟨z105, rfl, e109, Az105, Bz105, Cz105⟩ := hQ108
      rw [← e109] at Arv_104 S101
      have hct : cpw (Int32.ofNat ([c0] : List Int32).length) [c0] = (1 : Int32) := by rfl
      rw [hct] at Az105 Bz105 Cz105
      obtain rfl := Az105 q174
      show EndW p e below s Z _ _ _ T106 (mkF m 200 #[.val (.int p0), .val (.int p1), .val (.int p2), .val (.int p3), .val (.int p4), .val (.int p5), .val (.int (1 : Int32)), .val (.int c0), .val (.int c1), .val (.int c2), .val (.ref b71), .val (.ref b85), .val (.int (1 : Int32)), .val (.int (0 : Int32))] [(.int (0 : Int32))])
      refine F_iload X107 at_200 rfl (pc' := 202) rfl ?_
      refine F_icF X107 at_202 (XT.ii_ne_f (by decide)) (pc' := 205) rfl ?_
      refine F_iconst X107 (v := (1 : Int32)) at_205 rfl (pc' := 206) rfl ?_
      refine F_goto X107 at_206 (pc' := 210) (by decide) rfl ?_
      exact F_ireturnN X107 (t := .boolean) at_210 rfl (by simp) (by decide) (by decide) (rfl)
    · skip
      refine F_icF X96 at_174 (XT.ii_lt_f q174) (pc' := 177) rfl ?_
      refine F_iload X96 at_177 rfl (pc' := 179) rfl ?_
      refine F_iload X96 at_179 rfl (pc' := 181) rfl ?_
      by_cases q181 : p5 < (1 : Int32)
      · skip
        refine F_icT X96 at_181 (XT.ii_gt_t q181) (pc' := 188) (by decide) rfl ?_
        refine F_iconst X96 (v := (0 : Int32)) at_188 rfl (pc' := 189) rfl ?_
        refine F_istore X96 at_189 (l' := #[.val (.int p0), .val (.int p1), .val (.int p2), .val (.int p3), .val (.int p4), .val (.int p5), .val (.int (1 : Int32)), .val (.int c0), .val (.int c1), .val (.int c2), .val (.ref b71), .val (.ref b85), .val (.int (1 : Int32)), .val (.int (0 : Int32))]) rfl (pc' := 191) rfl ?_
        refine F_aload X96 at_191 rfl rfl (pc' := 193) rfl ?_
        refine F_iload X96 at_193 rfl (pc' := 195) rfl ?_
        refine F_iload X96 at_195 rfl (pc' := 197) rfl ?_
        refine F_static X96 (rm := rm_hasl) at_197 (hw _ (List.mem_of_getElem? (i := 36) rfl)) (hw _ (List.mem_of_getElem? (i := 37) rfl)) (hw _ (List.mem_of_getElem? (i := 38) rfl)) (hw _ (List.mem_of_getElem? (i := 39) rfl)) (by decide) (argsL := [(.ref b85), (.int p4), (.int p5)]) (st := []) rfl (ct_hasl l Z a0 hw G1 G3 OS hEL hSA b85 t99 [c0] p4 p5 X96.old S101 (Nat.le_of_ble_eq_true rfl)) (lenOf (pd_19) rfl) rfl (by decide) (by decide) (by decide) (Nat.le_of_ble_eq_true rfl) [] (fun _ _ q => by obtain ⟨_, _, e, _, _, _⟩ := q; exact own_ks e) (sf0)  (pc' := 200) rfl ?_
        intro T111 _ X112 hQ113
        obtain ⟨z110, rfl, e114, Az110, Bz110, Cz110⟩ := hQ113
        rw [← e114] at Arv_104 S101
        have hct : cpw (Int32.ofNat ([c0] : List Int32).length) [c0] = (1 : Int32) := by rfl
        rw [hct] at Az110 Bz110 Cz110
        obtain rfl := Bz110 q174 q181
        show EndW p e below s Z _ _ _ T111 (mkF m 200 #[.val (.int p0), .val (.int p1), .val (.int p2), .val (.int p3), .val (.int p4), .val (.int p5), .val (.int (1 : Int32)), .val (.int c0), .val (.int c1), .val (.int c2), .val (.ref b71), .val (.ref b85), .val (.int (1 : Int32)), .val (.int (0 : Int32))] [(.int (0 : Int32))])
        refine F_iload X112 at_200 rfl (pc' := 202) rfl ?_
        refine F_icF X112 at_202 (XT.ii_ne_f (by decide)) (pc' := 205) rfl ?_
        refine F_iconst X112 (v := (1 : Int32)) at_205 rfl (pc' := 206) rfl ?_
        refine F_goto X112 at_206 (pc' := 210) (by decide) rfl ?_
        exact F_ireturnN X112 (t := .boolean) at_210 rfl (by simp) (by decide) (by decide) (rfl)
      · skip
        refine F_icF X96 at_181 (XT.ii_gt_f q181) (pc' := 184) rfl ?_
        refine F_iconst X96 (v := (1 : Int32)) at_184 rfl (pc' := 185) rfl ?_
        refine F_goto X96 at_185 (pc' := 189) (by decide) rfl ?_
        refine F_istore X96 at_189 (l' := #[.val (.int p0), .val (.int p1), .val (.int p2), .val (.int p3), .val (.int p4), .val (.int p5), .val (.int (1 : Int32)), .val (.int c0), .val (.int c1), .val (.int c2), .val (.ref b71), .val (.ref b85), .val (.int (1 : Int32)), .val (.int (1 : Int32))]) rfl (pc' := 191) rfl ?_
        refine F_aload X96 at_191 rfl rfl (pc' := 193) rfl ?_
        refine F_iload X96 at_193 rfl (pc' := 195) rfl ?_
        refine F_iload X96 at_195 rfl (pc' := 197) rfl ?_
        refine F_static X96 (rm := rm_hasl) at_197 (hw _ (List.mem_of_getElem? (i := 36) rfl)) (hw _ (List.mem_of_getElem? (i := 37) rfl)) (hw _ (List.mem_of_getElem? (i := 38) rfl)) (hw _ (List.mem_of_getElem? (i := 39) rfl)) (by decide) (argsL := [(.ref b85), (.int p4), (.int p5)]) (st := []) rfl (ct_hasl l Z a0 hw G1 G3 OS hEL hSA b85 t99 [c0] p4 p5 X96.old S101 (Nat.le_of_ble_eq_true rfl)) (lenOf (pd_19) rfl) rfl (by decide) (by decide) (by decide) (Nat.le_of_ble_eq_true rfl) [] (fun _ _ q => by obtain ⟨_, _, e, _, _, _⟩ := q; exact own_ks e) (sf0)  (pc' := 200) rfl ?_
        intro T116 _ X117 hQ118
        obtain ⟨z115, rfl, e119, Az115, Bz115, Cz115⟩ := hQ118
        rw [← e119] at Arv_104 S101
        have hct : cpw (Int32.ofNat ([c0] : List Int32).length) [c0] = (1 : Int32) := by rfl
        rw [hct] at Az115 Bz115 Cz115
        obtain rfl := Cz115 q174 q181
        show EndW p e below s Z _ _ _ T116 (mkF m 200 #[.val (.int p0), .val (.int p1), .val (.int p2), .val (.int p3), .val (.int p4), .val (.int p5), .val (.int (1 : Int32)), .val (.int c0), .val (.int c1), .val (.int c2), .val (.ref b71), .val (.ref b85), .val (.int (1 : Int32)), .val (.int (1 : Int32))] [(.int (1 : Int32))])
        refine F_iload X117 at_200 rfl (pc' := 202) rfl ?_
        refine F_icF X117 at_202 (XT.ii_ne_f (by decide)) (pc' := 205) rfl ?_
        refine F_iconst X117 (v := (1 : Int32)) at_205 rfl (pc' := 206) rfl ?_
        refine F_goto X117 at_206 (pc' := 210) (by decide) rfl ?_
        exact F_ireturnN X117 (t := .boolean) at_210 rfl (by simp) (by decide) (by decide) (rfl)
  · skip
    show EndW p e below s Z _ _ _ T0 (mkF m 5 #[.val (.int p0), .val (.int p1), .val (.int p2), .val (.int p3), .val (.int p4), .val (.int p5), .val (.int (2 : Int32)), .unset, .unset, .unset, .unset, .unset, .unset, .unset] [])
    refine F_iloadN X0 at_5 rfl (pc' := 6) rfl ?_
    refine F_static X0 (rm := rm_draw) at_6 (hw _ (List.mem_of_getElem? (i := 0) rfl)) (hw _ (List.mem_of_getElem? (i := 1) rfl)) (hw _ (List.mem_of_getElem? (i := 2) rfl)) (hw _ (List.mem_of_getElem? (i := 3) rfl)) (by decide) (argsL := [(.int p0)]) (st := []) rfl (ct_draw l Z a0 hw G1 G3 OS hEL hSA p0 X0.old) (lenOf (pd_17) rfl) rfl (by decide) (by decide) (by decide) (Nat.le_of_ble_eq_true rfl) [] (fun _ _ q => by obtain ⟨_, _, e, _⟩ := q; exact own_ks e) (sf0)  (pc' := 9) rfl ?_
    intro T120 _ X121 hQ122
    obtain ⟨c0, rfl, e123, bc0⟩ := hQ122
    show EndW p e below s Z _ _ _ T120 (mkF m 9 #[.val (.int p0), .val (.int p1), .val (.int p2), .val (.int p3), .val (.int p4), .val (.int p5), .val (.int (2 : Int32)), .unset, .unset, .unset, .unset, .unset, .unset, .unset] [(.int c0)])
    refine F_istore X121 at_9 (l' := #[.val (.int p0), .val (.int p1), .val (.int p2), .val (.int p3), .val (.int p4), .val (.int p5), .val (.int (2 : Int32)), .val (.int c0), .unset, .unset, .unset, .unset, .unset, .unset]) rfl (pc' := 11) rfl ?_
    refine F_iloadN X121 at_11 rfl (pc' := 12) rfl ?_
    refine F_static X121 (rm := rm_draw) at_12 (hw _ (List.mem_of_getElem? (i := 0) rfl)) (hw _ (List.mem_of_getElem? (i := 1) rfl)) (hw _ (List.mem_of_getElem? (i := 2) rfl)) (hw _ (List.mem_of_getElem? (i := 3) rfl)) (by decide) (argsL := [(.int p1)]) (st := []) rfl (ct_draw l Z a0 hw G1 G3 OS hEL hSA p1 X121.old) (lenOf (pd_17) rfl) rfl (by decide) (by decide) (by decide) (Nat.le_of_ble_eq_true rfl) [] (fun _ _ q => by obtain ⟨_, _, e, _⟩ := q; exact own_ks e) (sf0)  (pc' := 15) rfl ?_
    intro T124 _ X125 hQ126
    obtain ⟨c1, rfl, e127, bc1⟩ := hQ126
    show EndW p e below s Z _ _ _ T124 (mkF m 15 #[.val (.int p0), .val (.int p1), .val (.int p2), .val (.int p3), .val (.int p4), .val (.int p5), .val (.int (2 : Int32)), .val (.int c0), .unset, .unset, .unset, .unset, .unset, .unset] [(.int c1)])
    refine F_istore X125 at_15 (l' := #[.val (.int p0), .val (.int p1), .val (.int p2), .val (.int p3), .val (.int p4), .val (.int p5), .val (.int (2 : Int32)), .val (.int c0), .val (.int c1), .unset, .unset, .unset, .unset, .unset]) rfl (pc' := 17) rfl ?_
    refine F_iloadN X125 at_17 rfl (pc' := 18) rfl ?_
    refine F_static X125 (rm := rm_draw) at_18 (hw _ (List.mem_of_getElem? (i := 0) rfl)) (hw _ (List.mem_of_getElem? (i := 1) rfl)) (hw _ (List.mem_of_getElem? (i := 2) rfl)) (hw _ (List.mem_of_getElem? (i := 3) rfl)) (by decide) (argsL := [(.int p2)]) (st := []) rfl (ct_draw l Z a0 hw G1 G3 OS hEL hSA p2 X125.old) (lenOf (pd_17) rfl) rfl (by decide) (by decide) (by decide) (Nat.le_of_ble_eq_true rfl) [] (fun _ _ q => by obtain ⟨_, _, e, _⟩ := q; exact own_ks e) (sf0)  (pc' := 21) rfl ?_
    intro T128 _ X129 hQ130
    obtain ⟨c2, rfl, e131, bc2⟩ := hQ130
    show EndW p e below s Z _ _ _ T128 (mkF m 21 #[.val (.int p0), .val (.int p1), .val (.int p2), .val (.int p3), .val (.int p4), .val (.int p5), .val (.int (2 : Int32)), .val (.int c0), .val (.int c1), .unset, .unset, .unset, .unset, .unset] [(.int c2)])
    refine F_istore X129 at_21 (l' := #[.val (.int p0), .val (.int p1), .val (.int p2), .val (.int p3), .val (.int p4), .val (.int p5), .val (.int (2 : Int32)), .val (.int c0), .val (.int c1), .val (.int c2), .unset, .unset, .unset, .unset]) rfl (pc' := 23) rfl ?_
    refine F_iload X129 at_23 rfl (pc' := 25) rfl ?_
    refine F_ifT X129 at_25 (XT.i0_ne_t (by decide)) (pc' := 36) (by decide) rfl ?_
    refine F_iload X129 at_36 rfl (pc' := 38) rfl ?_
    refine F_iconst X129 (v := (1 : Int32)) at_38 rfl (pc' := 39) rfl ?_
    refine F_icT X129 at_39 (XT.ii_ne_t (by decide)) (pc' := 55) (by decide) rfl ?_
    refine F_iload X129 at_55 rfl (pc' := 57) rfl ?_
    refine F_iconst X129 (v := (2 : Int32)) at_57 rfl (pc' := 58) rfl ?_
    refine F_icF X129 at_58 (XT.ii_ne_f (by decide)) (pc' := 61) rfl ?_
    refine F_iconst X129 (v := (2 : Int32)) at_61 rfl (pc' := 62) rfl ?_
    refine F_newarray X129 2 at_62 (hw _ (List.mem_of_getElem? (i := 6) rfl)) (by decide) (by decide) (by decide) (by decide) (by decide) (pc' := 64) rfl ?_
    intro T132 b134 k138 X133 hb135 K136 V137
    have g139 : Z.heap.size ≤ b134 := Nat.le_trans X129.le (Nat.le_of_eq hb135.symm)
    have V140 : Arv Z T132.heap b134 k138 .char (2 : Int32) [(.int (0 : Int32)), (.int (0 : Int32))] (.int (0 : Int32)) := V137.pad (pad_rep [] (.int (0 : Int32)) 2)
    refine F_dup X133 at_64 rfl (pc' := 65) rfl ?_
    refine F_iconst X133 (v := (0 : Int32)) at_65 rfl (pc' := 66) rfl ?_
    refine F_iload X133 at_66 rfl (pc' := 68) rfl ?_
    refine F_castore X133 0 (y := c0) at_68 (o_nar bc0.1 bc0.2) V140 ⟨by decide, by decide⟩ rfl (Nat.le_of_ble_eq_true rfl) g139 (pc' := 69) rfl ?_
    intro T141 X142 K143 V144
    have V145 : Arv Z T141.heap b134 k138 .char (2 : Int32) [(.int c0), (.int (0 : Int32))] (.int (0 : Int32)) := V144
    refine F_dup X142 at_69 rfl (pc' := 70) rfl ?_
    refine F_iconst X142 (v := (1 : Int32)) at_70 rfl (pc' := 71) rfl ?_
    refine F_iload X142 at_71 rfl (pc' := 73) rfl ?_
    refine F_castore X142 1 (y := c1) at_73 (o_nar bc1.1 bc1.2) V145 ⟨by decide, by decide⟩ rfl (Nat.le_of_ble_eq_true rfl) g139 (pc' := 74) rfl ?_
    intro T146 X147 K148 V149
    have V150 : Arv Z T146.heap b134 k138 .char (2 : Int32) [(.int c0), (.int c1)] (.int (0 : Int32)) := V149
    refine F_astore X147 at_74 rfl (l' := #[.val (.int p0), .val (.int p1), .val (.int p2), .val (.int p3), .val (.int p4), .val (.int p5), .val (.int (2 : Int32)), .val (.int c0), .val (.int c1), .val (.int c2), .val (.ref b134), .unset, .unset, .unset]) rfl (pc' := 76) rfl ?_
    refine F_goto X147 at_76 (pc' := 99) (by decide) rfl ?_
    refine F_new X147 at_99 (hw _ (List.mem_of_getElem? (i := 7) rfl)) (hw _ (List.mem_of_getElem? (i := 8) rfl)) (hw _ (List.mem_of_getElem? (i := 9) rfl)) (by decide) (by decide) (pc' := 102) rfl ?_
    intro T151 b153 X152 hb154 K155 E156 D157
    have ne158 : b134 ≠ b153 := Nat.ne_of_lt (Nat.lt_of_lt_of_eq V150.lt hb154.symm)
    have Arv_159 := V150.keep K155 nin0
    have g160 : Z.heap.size ≤ b153 := Nat.le_trans X147.le (Nat.le_of_eq hb154.symm)
    have F161 : Fld Z T151.heap b153 "java/lang/String" "coder" "B" (.int (0 : Int32)) := D157 (Or.inr (hw _ (List.mem_of_getElem? (i := 33) rfl))) (ty := .byte) (by decide)
    have F162 : Fld Z T151.heap b153 "java/lang/String" "value" "[B" .null := D157 (Or.inr (hw _ (List.mem_of_getElem? (i := 35) rfl))) (ty := (.array .byte)) (by decide)
    refine F_dup X152 at_102 rfl (pc' := 103) rfl ?_
    refine F_aload X152 at_103 rfl rfl (pc' := 105) rfl ?_
    refine F_special X152 (rm := rm_sinit) (a := b153) at_105 rfl rfl (hw _ (List.mem_of_getElem? (i := 10) rfl)) (hw _ (List.mem_of_getElem? (i := 11) rfl)) (hw _ (List.mem_of_getElem? (i := 12) rfl)) (by decide) (hw _ (List.mem_of_getElem? (i := 9) rfl)) (argsL := [(.ref b134)]) (st := [(.ref b153)]) rfl (ct_sinit l Z a0 hw G1 G3 OS hEL hSA b153 b134 k138 [c0, c1] (.int (0 : Int32)) .null (.int (0 : Int32)) X152.old (Nat.le_of_ble_eq_true rfl) (Nat.le_of_ble_eq_true rfl) (allC bc0 (allC bc1 allN)) E156 F162 F161 g160 Arv_159) (lenOf (pd_18) rfl) rfl (by decide) (by decide) (by decide) (Nat.le_of_ble_eq_true rfl) [b153] (fun _ _ q => q.2.1) (sfS (own_safe X152.al E156 F162 (hw _ (List.mem_of_getElem? (i := 8) rfl))) (sf0))  (pc' := 108) rfl ?_
    intro T163 _ X164 hQ165
    obtain ⟨rfl, K166, t167, sz168, S169⟩ := hQ165
    have ne170 : b134 ≠ t167 := Nat.ne_of_lt (Nat.lt_of_lt_of_le Arv_159.lt sz168)
    have ne171 : b153 ≠ t167 := Nat.ne_of_lt (Nat.lt_of_lt_of_le E156.lt sz168)
    have Arv_172 := Arv_159.keep K166 (ninS ne158 nin0)
    show EndW p e below s Z _ _ _ T163 (mkF m 108 #[.val (.int p0), .val (.int p1), .val (.int p2), .val (.int p3), .val (.int p4), .val (.int p5), .val (.int (2 : Int32)), .val (.int c0), .val (.int c1), .val (.int c2), .val (.ref b134), .unset, .unset, .unset] [(.ref b153)])
    refine F_astore X164 at_108 rfl (l' := #[.val (.int p0), .val (.int p1), .val (.int p2), .val (.int p3), .val (.int p4), .val (.int p5), .val (.int (2 : Int32)), .val (.int c0), .val (.int c1), .val (.int c2), .val (.ref b134), .val (.ref b153), .unset, .unset]) rfl (pc' := 110) rfl ?_
    refine F_iload X164 at_110 rfl (pc' := 112) rfl ?_
    refine F_istore X164 at_112 (l' := #[.val (.int p0), .val (.int p1), .val (.int p2), .val (.int p3), .val (.int p4), .val (.int p5), .val (.int (2 : Int32)), .val (.int c0), .val (.int c1), .val (.int c2), .val (.ref b134), .val (.ref b153), .val (.int (2 : Int32)), .unset]) rfl (pc' := 114) rfl ?_
    refine F_iload X164 at_114 rfl (pc' := 116) rfl ?_
    refine F_iconst X164 (v := (2 : Int32)) at_116 rfl (pc' := 117) rfl ?_
    refine F_icF X164 at_117 (XT.ii_lt_f (by decide)) (pc' := 120) rfl ?_
    refine F_iload X164 at_120 rfl (pc' := 122) rfl ?_
    refine F_static X164 (rm := rm_ishi) at_122 (hw _ (List.mem_of_getElem? (i := 88) rfl)) (hw _ (List.mem_of_getElem? (i := 89) rfl)) (hw _ (List.mem_of_getElem? (i := 2) rfl)) (hw _ (List.mem_of_getElem? (i := 90) rfl)) (by decide) (argsL := [(.int c0)]) (st := []) rfl (ct_ishi l Z a0 hw G1 G3 OS hEL hSA c0 X164.old) (lenOf (pd_10) rfl) rfl (by decide) (by decide) (by decide) (Nat.le_of_ble_eq_true rfl) [] (fun _ _ q => by obtain ⟨_, _, e, _, _⟩ := q; exact own_ks e) (sf0)  (pc' := 125) rfl ?_
    intro T174 _ X175 hQ176
    obtain ⟨z173, rfl, e177, yz173, nz173⟩ := hQ176
    rw [← e177] at Arv_172 S169
    by_cases Hc0 : hiS c0
    · skip
      obtain rfl := yz173 Hc0
      show EndW p e below s Z _ _ _ T174 (mkF m 125 #[.val (.int p0), .val (.int p1), .val (.int p2), .val (.int p3), .val (.int p4), .val (.int p5), .val (.int (2 : Int32)), .val (.int c0), .val (.int c1), .val (.int c2), .val (.ref b134), .val (.ref b153), .val (.int (2 : Int32)), .unset] [(.int (1 : Int32))])
      refine F_ifF X175 at_125 (XT.i0_eq_f (by decide)) (pc' := 128) rfl ?_
      refine F_iload X175 at_128 rfl (pc' := 130) rfl ?_
      refine F_static X175 (rm := rm_islo) at_130 (hw _ (List.mem_of_getElem? (i := 108) rfl)) (hw _ (List.mem_of_getElem? (i := 109) rfl)) (hw _ (List.mem_of_getElem? (i := 2) rfl)) (hw _ (List.mem_of_getElem? (i := 110) rfl)) (by decide) (argsL := [(.int c1)]) (st := []) rfl (ct_islo l Z a0 hw G1 G3 OS hEL hSA c1 X175.old) (lenOf (pd_10) rfl) rfl (by decide) (by decide) (by decide) (Nat.le_of_ble_eq_true rfl) [] (fun _ _ q => by obtain ⟨_, _, e, _, _⟩ := q; exact own_ks e) (sf0)  (pc' := 133) rfl ?_
      intro T179 _ X180 hQ181
      obtain ⟨z178, rfl, e182, yz178, nz178⟩ := hQ181
      rw [← e182] at Arv_172 S169
      by_cases Lc1 : loS c1
      · skip
        obtain rfl := yz178 Lc1
        show EndW p e below s Z _ _ _ T179 (mkF m 133 #[.val (.int p0), .val (.int p1), .val (.int p2), .val (.int p3), .val (.int p4), .val (.int p5), .val (.int (2 : Int32)), .val (.int c0), .val (.int c1), .val (.int c2), .val (.ref b134), .val (.ref b153), .val (.int (2 : Int32)), .unset] [(.int (1 : Int32))])
        refine F_ifF X180 at_133 (XT.i0_eq_f (by decide)) (pc' := 136) rfl ?_
        refine F_iload X180 at_136 rfl (pc' := 138) rfl ?_
        refine F_iconst X180 (v := (1 : Int32)) at_138 rfl (pc' := 139) rfl ?_
        refine F_isub X180 (v := (1 : Int32)) at_139 (by decide) (pc' := 140) rfl ?_
        refine F_istore X180 at_140 (l' := #[.val (.int p0), .val (.int p1), .val (.int p2), .val (.int p3), .val (.int p4), .val (.int p5), .val (.int (2 : Int32)), .val (.int c0), .val (.int c1), .val (.int c2), .val (.ref b134), .val (.ref b153), .val (.int (1 : Int32)), .unset]) rfl (pc' := 142) rfl ?_
        refine F_iload X180 at_142 rfl (pc' := 144) rfl ?_
        refine F_iconst X180 (v := (3 : Int32)) at_144 rfl (pc' := 145) rfl ?_
        refine F_icT X180 at_145 (XT.ii_lt_t (by decide)) (pc' := 170) (by decide) rfl ?_
        refine F_iload X180 at_170 rfl (pc' := 172) rfl ?_
        refine F_iload X180 at_172 rfl (pc' := 174) rfl ?_
        by_cases q174 : (1 : Int32) < p4
        · skip
          refine F_icT X180 at_174 (XT.ii_lt_t q174) (pc' := 188) (by decide) rfl ?_
          refine F_iconst X180 (v := (0 : Int32)) at_188 rfl (pc' := 189) rfl ?_
          refine F_istore X180 at_189 (l' := #[.val (.int p0), .val (.int p1), .val (.int p2), .val (.int p3), .val (.int p4), .val (.int p5), .val (.int (2 : Int32)), .val (.int c0), .val (.int c1), .val (.int c2), .val (.ref b134), .val (.ref b153), .val (.int (1 : Int32)), .val (.int (0 : Int32))]) rfl (pc' := 191) rfl ?_
          refine F_aload X180 at_191 rfl rfl (pc' := 193) rfl ?_
          refine F_iload X180 at_193 rfl (pc' := 195) rfl ?_
          refine F_iload X180 at_195 rfl (pc' := 197) rfl ?_
          refine F_static X180 (rm := rm_hasl) at_197 (hw _ (List.mem_of_getElem? (i := 36) rfl)) (hw _ (List.mem_of_getElem? (i := 37) rfl)) (hw _ (List.mem_of_getElem? (i := 38) rfl)) (hw _ (List.mem_of_getElem? (i := 39) rfl)) (by decide) (argsL := [(.ref b153), (.int p4), (.int p5)]) (st := []) rfl (ct_hasl l Z a0 hw G1 G3 OS hEL hSA b153 t167 [c0, c1] p4 p5 X180.old S169 (Nat.le_of_ble_eq_true rfl)) (lenOf (pd_19) rfl) rfl (by decide) (by decide) (by decide) (Nat.le_of_ble_eq_true rfl) [] (fun _ _ q => by obtain ⟨_, _, e, _, _, _⟩ := q; exact own_ks e) (sf0)  (pc' := 200) rfl ?_
          intro T184 _ X185 hQ186
          obtain ⟨z183, rfl, e187, Az183, Bz183, Cz183⟩ := hQ186
          rw [← e187] at Arv_172 S169
          have hct : cpw (Int32.ofNat ([c0, c1] : List Int32).length) [c0, c1] = (1 : Int32) := by rw [cpw2, if_pos ⟨Hc0, Lc1⟩]; show (2 : Int32) + (-1 : Int32) = _; decide
          rw [hct] at Az183 Bz183 Cz183
          obtain rfl := Az183 q174
          show EndW p e below s Z _ _ _ T184 (mkF m 200 #[.val (.int p0), .val (.int p1), .val (.int p2), .val (.int p3), .val (.int p4), .val (.int p5), .val (.int (2 : Int32)), .val (.int c0), .val (.int c1), .val (.int c2), .val (.ref b134), .val (.ref b153), .val (.int (1 : Int32)), .val (.int (0 : Int32))] [(.int (0 : Int32))])
          refine F_iload X185 at_200 rfl (pc' := 202) rfl ?_
          refine F_icF X185 at_202 (XT.ii_ne_f (by decide)) (pc' := 205) rfl ?_
          refine F_iconst X185 (v := (1 : Int32)) at_205 rfl (pc' := 206) rfl ?_
          refine F_goto X185 at_206 (pc' := 210) (by decide) rfl ?_
          exact F_ireturnN X185 (t := .boolean) at_210 rfl (by simp) (by decide) (by decide) (rfl)
        · skip
          refine F_icF X180 at_174 (XT.ii_lt_f q174) (pc' := 177) rfl ?_
          refine F_iload X180 at_177 rfl (pc' := 179) rfl ?_
          refine F_iload X180 at_179 rfl (pc' := 181) rfl ?_
          by_cases q181 : p5 < (1 : Int32)
          · skip
            refine F_icT X180 at_181 (XT.ii_gt_t q181) (pc' := 188) (by decide) rfl ?_
            refine F_iconst X180 (v := (0 : Int32)) at_188 rfl (pc' := 189) rfl ?_
            refine F_istore X180 at_189 (l' := #[.val (.int p0), .val (.int p1), .val (.int p2), .val (.int p3), .val (.int p4), .val (.int p5), .val (.int (2 : Int32)), .val (.int c0), .val (.int c1), .val (.int c2), .val (.ref b134), .val (.ref b153), .val (.int (1 : Int32)), .val (.int (0 : Int32))]) rfl (pc' := 191) rfl ?_
            refine F_aload X180 at_191 rfl rfl (pc' := 193) rfl ?_
            refine F_iload X180 at_193 rfl (pc' := 195) rfl ?_
            refine F_iload X180 at_195 rfl (pc' := 197) rfl ?_
            refine F_static X180 (rm := rm_hasl) at_197 (hw _ (List.mem_of_getElem? (i := 36) rfl)) (hw _ (List.mem_of_getElem? (i := 37) rfl)) (hw _ (List.mem_of_getElem? (i := 38) rfl)) (hw _ (List.mem_of_getElem? (i := 39) rfl)) (by decide) (argsL := [(.ref b153), (.int p4), (.int p5)]) (st := []) rfl (ct_hasl l Z a0 hw G1 G3 OS hEL hSA b153 t167 [c0, c1] p4 p5 X180.old S169 (Nat.le_of_ble_eq_true rfl)) (lenOf (pd_19) rfl) rfl (by decide) (by decide) (by decide) (Nat.le_of_ble_eq_true rfl) [] (fun _ _ q => by obtain ⟨_, _, e, _, _, _⟩ := q; exact own_ks e) (sf0)  (pc' := 200) rfl ?_
            intro T189 _ X190 hQ191
            obtain ⟨z188, rfl, e192, Az188, Bz188, Cz188⟩ := hQ191
            rw [← e192] at Arv_172 S169
            have hct : cpw (Int32.ofNat ([c0, c1] : List Int32).length) [c0, c1] = (1 : Int32) := by rw [cpw2, if_pos ⟨Hc0, Lc1⟩]; show (2 : Int32) + (-1 : Int32) = _; decide
            rw [hct] at Az188 Bz188 Cz188
            obtain rfl := Bz188 q174 q181
            show EndW p e below s Z _ _ _ T189 (mkF m 200 #[.val (.int p0), .val (.int p1), .val (.int p2), .val (.int p3), .val (.int p4), .val (.int p5), .val (.int (2 : Int32)), .val (.int c0), .val (.int c1), .val (.int c2), .val (.ref b134), .val (.ref b153), .val (.int (1 : Int32)), .val (.int (0 : Int32))] [(.int (0 : Int32))])
            refine F_iload X190 at_200 rfl (pc' := 202) rfl ?_
            refine F_icF X190 at_202 (XT.ii_ne_f (by decide)) (pc' := 205) rfl ?_
            refine F_iconst X190 (v := (1 : Int32)) at_205 rfl (pc' := 206) rfl ?_
            refine F_goto X190 at_206 (pc' := 210) (by decide) rfl ?_
            exact F_ireturnN X190 (t := .boolean) at_210 rfl (by simp) (by decide) (by decide) (rfl)
          · skip
            refine F_icF X180 at_181 (XT.ii_gt_f q181) (pc' := 184) rfl ?_
            refine F_iconst X180 (v := (1 : Int32)) at_184 rfl (pc' := 185) rfl ?_
            refine F_goto X180 at_185 (pc' := 189) (by decide) rfl ?_
            refine F_istore X180 at_189 (l' := #[.val (.int p0), .val (.int p1), .val (.int p2), .val (.int p3), .val (.int p4), .val (.int p5), .val (.int (2 : Int32)), .val (.int c0), .val (.int c1), .val (.int c2), .val (.ref b134), .val (.ref b153), .val (.int (1 : Int32)), .val (.int (1 : Int32))]) rfl (pc' := 191) rfl ?_
            refine F_aload X180 at_191 rfl rfl (pc' := 193) rfl ?_
            refine F_iload X180 at_193 rfl (pc' := 195) rfl ?_
            refine F_iload X180 at_195 rfl (pc' := 197) rfl ?_
            refine F_static X180 (rm := rm_hasl) at_197 (hw _ (List.mem_of_getElem? (i := 36) rfl)) (hw _ (List.mem_of_getElem? (i := 37) rfl)) (hw _ (List.mem_of_getElem? (i := 38) rfl)) (hw _ (List.mem_of_getElem? (i := 39) rfl)) (by decide) (argsL := [(.ref b153), (.int p4), (.int p5)]) (st := []) rfl (ct_hasl l Z a0 hw G1 G3 OS hEL hSA b153 t167 [c0, c1] p4 p5 X180.old S169 (Nat.le_of_ble_eq_true rfl)) (lenOf (pd_19) rfl) rfl (by decide) (by decide) (by decide) (Nat.le_of_ble_eq_true rfl) [] (fun _ _ q => by obtain ⟨_, _, e, _, _, _⟩ := q; exact own_ks e) (sf0)  (pc' := 200) rfl ?_
            intro T194 _ X195 hQ196
            obtain ⟨z193, rfl, e197, Az193, Bz193, Cz193⟩ := hQ196
            rw [← e197] at Arv_172 S169
            have hct : cpw (Int32.ofNat ([c0, c1] : List Int32).length) [c0, c1] = (1 : Int32) := by rw [cpw2, if_pos ⟨Hc0, Lc1⟩]; show (2 : Int32) + (-1 : Int32) = _; decide
            rw [hct] at Az193 Bz193 Cz193
            obtain rfl := Cz193 q174 q181
            show EndW p e below s Z _ _ _ T194 (mkF m 200 #[.val (.int p0), .val (.int p1), .val (.int p2), .val (.int p3), .val (.int p4), .val (.int p5), .val (.int (2 : Int32)), .val (.int c0), .val (.int c1), .val (.int c2), .val (.ref b134), .val (.ref b153), .val (.int (1 : Int32)), .val (.int (1 : Int32))] [(.int (1 : Int32))])
            refine F_iload X195 at_200 rfl (pc' := 202) rfl ?_
            refine F_icF X195 at_202 (XT.ii_ne_f (by decide)) (pc' := 205) rfl ?_
            refine F_iconst X195 (v := (1 : Int32)) at_205 rfl (pc' := 206) rfl ?_
            refine F_goto X195 at_206 (pc' := 210) (by decide) rfl ?_
            exact F_ireturnN X195 (t := .boolean) at_210 rfl (by simp) (by decide) (by decide) (rfl)
      · skip
        obtain rfl := nz178 Lc1
        show EndW p e below s Z _ _ _ T179 (mkF m 133 #[.val (.int p0), .val (.int p1), .val (.int p2), .val (.int p3), .val (.int p4), .val (.int p5), .val (.int (2 : Int32)), .val (.int c0), .val (.int c1), .val (.int c2), .val (.ref b134), .val (.ref b153), .val (.int (2 : Int32)), .unset] [(.int (0 : Int32))])
        refine F_ifT X180 at_133 (XT.i0_eq_t (by decide)) (pc' := 142) (by decide) rfl ?_
        refine F_iload X180 at_142 rfl (pc' := 144) rfl ?_
        refine F_iconst X180 (v := (3 : Int32)) at_144 rfl (pc' := 145) rfl ?_
        refine F_icT X180 at_145 (XT.ii_lt_t (by decide)) (pc' := 170) (by decide) rfl ?_
        refine F_iload X180 at_170 rfl (pc' := 172) rfl ?_
        refine F_iload X180 at_172 rfl (pc' := 174) rfl ?_
        by_cases q174 : (2 : Int32) < p4
        · skip
          refine F_icT X180 at_174 (XT.ii_lt_t q174) (pc' := 188) (by decide) rfl ?_
          refine F_iconst X180 (v := (0 : Int32)) at_188 rfl (pc' := 189) rfl ?_
          refine F_istore X180 at_189 (l' := #[.val (.int p0), .val (.int p1), .val (.int p2), .val (.int p3), .val (.int p4), .val (.int p5), .val (.int (2 : Int32)), .val (.int c0), .val (.int c1), .val (.int c2), .val (.ref b134), .val (.ref b153), .val (.int (2 : Int32)), .val (.int (0 : Int32))]) rfl (pc' := 191) rfl ?_
          refine F_aload X180 at_191 rfl rfl (pc' := 193) rfl ?_
          refine F_iload X180 at_193 rfl (pc' := 195) rfl ?_
          refine F_iload X180 at_195 rfl (pc' := 197) rfl ?_
          refine F_static X180 (rm := rm_hasl) at_197 (hw _ (List.mem_of_getElem? (i := 36) rfl)) (hw _ (List.mem_of_getElem? (i := 37) rfl)) (hw _ (List.mem_of_getElem? (i := 38) rfl)) (hw _ (List.mem_of_getElem? (i := 39) rfl)) (by decide) (argsL := [(.ref b153), (.int p4), (.int p5)]) (st := []) rfl (ct_hasl l Z a0 hw G1 G3 OS hEL hSA b153 t167 [c0, c1] p4 p5 X180.old S169 (Nat.le_of_ble_eq_true rfl)) (lenOf (pd_19) rfl) rfl (by decide) (by decide) (by decide) (Nat.le_of_ble_eq_true rfl) [] (fun _ _ q => by obtain ⟨_, _, e, _, _, _⟩ := q; exact own_ks e) (sf0)  (pc' := 200) rfl ?_
          intro T199 _ X200 hQ201
          obtain ⟨z198, rfl, e202, Az198, Bz198, Cz198⟩ := hQ201
          rw [← e202] at Arv_172 S169
          have hct : cpw (Int32.ofNat ([c0, c1] : List Int32).length) [c0, c1] = (2 : Int32) := by rw [cpw2, if_neg (fun q => Lc1 q.2)]; rfl
          rw [hct] at Az198 Bz198 Cz198
          obtain rfl := Az198 q174
          show EndW p e below s Z _ _ _ T199 (mkF m 200 #[.val (.int p0), .val (.int p1), .val (.int p2), .val (.int p3), .val (.int p4), .val (.int p5), .val (.int (2 : Int32)), .val (.int c0), .val (.int c1), .val (.int c2), .val (.ref b134), .val (.ref b153), .val (.int (2 : Int32)), .val (.int (0 : Int32))] [(.int (0 : Int32))])
          refine F_iload X200 at_200 rfl (pc' := 202) rfl ?_
          refine F_icF X200 at_202 (XT.ii_ne_f (by decide)) (pc' := 205) rfl ?_
          refine F_iconst X200 (v := (1 : Int32)) at_205 rfl (pc' := 206) rfl ?_
          refine F_goto X200 at_206 (pc' := 210) (by decide) rfl ?_
          exact F_ireturnN X200 (t := .boolean) at_210 rfl (by simp) (by decide) (by decide) (rfl)
        · skip
          refine F_icF X180 at_174 (XT.ii_lt_f q174) (pc' := 177) rfl ?_
          refine F_iload X180 at_177 rfl (pc' := 179) rfl ?_
          refine F_iload X180 at_179 rfl (pc' := 181) rfl ?_
          by_cases q181 : p5 < (2 : Int32)
          · skip
            refine F_icT X180 at_181 (XT.ii_gt_t q181) (pc' := 188) (by decide) rfl ?_
            refine F_iconst X180 (v := (0 : Int32)) at_188 rfl (pc' := 189) rfl ?_
            refine F_istore X180 at_189 (l' := #[.val (.int p0), .val (.int p1), .val (.int p2), .val (.int p3), .val (.int p4), .val (.int p5), .val (.int (2 : Int32)), .val (.int c0), .val (.int c1), .val (.int c2), .val (.ref b134), .val (.ref b153), .val (.int (2 : Int32)), .val (.int (0 : Int32))]) rfl (pc' := 191) rfl ?_
            refine F_aload X180 at_191 rfl rfl (pc' := 193) rfl ?_
            refine F_iload X180 at_193 rfl (pc' := 195) rfl ?_
            refine F_iload X180 at_195 rfl (pc' := 197) rfl ?_
            refine F_static X180 (rm := rm_hasl) at_197 (hw _ (List.mem_of_getElem? (i := 36) rfl)) (hw _ (List.mem_of_getElem? (i := 37) rfl)) (hw _ (List.mem_of_getElem? (i := 38) rfl)) (hw _ (List.mem_of_getElem? (i := 39) rfl)) (by decide) (argsL := [(.ref b153), (.int p4), (.int p5)]) (st := []) rfl (ct_hasl l Z a0 hw G1 G3 OS hEL hSA b153 t167 [c0, c1] p4 p5 X180.old S169 (Nat.le_of_ble_eq_true rfl)) (lenOf (pd_19) rfl) rfl (by decide) (by decide) (by decide) (Nat.le_of_ble_eq_true rfl) [] (fun _ _ q => by obtain ⟨_, _, e, _, _, _⟩ := q; exact own_ks e) (sf0)  (pc' := 200) rfl ?_
            intro T204 _ X205 hQ206
            obtain ⟨z203, rfl, e207, Az203, Bz203, Cz203⟩ := hQ206
            rw [← e207] at Arv_172 S169
            have hct : cpw (Int32.ofNat ([c0, c1] : List Int32).length) [c0, c1] = (2 : Int32) := by rw [cpw2, if_neg (fun q => Lc1 q.2)]; rfl
            rw [hct] at Az203 Bz203 Cz203
            obtain rfl := Bz203 q174 q181
            show EndW p e below s Z _ _ _ T204 (mkF m 200 #[.val (.int p0), .val (.int p1), .val (.int p2), .val (.int p3), .val (.int p4), .val (.int p5), .val (.int (2 : Int32)), .val (.int c0), .val (.int c1), .val (.int c2), .val (.ref b134), .val (.ref b153), .val (.int (2 : Int32)), .val (.int (0 : Int32))] [(.int (0 : Int32))])
            refine F_iload X205 at_200 rfl (pc' := 202) rfl ?_
            refine F_icF X205 at_202 (XT.ii_ne_f (by decide)) (pc' := 205) rfl ?_
            refine F_iconst X205 (v := (1 : Int32)) at_205 rfl (pc' := 206) rfl ?_
            refine F_goto X205 at_206 (pc' := 210) (by decide) rfl ?_
            exact F_ireturnN X205 (t := .boolean) at_210 rfl (by simp) (by decide) (by decide) (rfl)
          · skip
            refine F_icF X180 at_181 (XT.ii_gt_f q181) (pc' := 184) rfl ?_
            refine F_iconst X180 (v := (1 : Int32)) at_184 rfl (pc' := 185) rfl ?_
            refine F_goto X180 at_185 (pc' := 189) (by decide) rfl ?_
            refine F_istore X180 at_189 (l' := #[.val (.int p0), .val (.int p1), .val (.int p2), .val (.int p3), .val (.int p4), .val (.int p5), .val (.int (2 : Int32)), .val (.int c0), .val (.int c1), .val (.int c2), .val (.ref b134), .val (.ref b153), .val (.int (2 : Int32)), .val (.int (1 : Int32))]) rfl (pc' := 191) rfl ?_
            refine F_aload X180 at_191 rfl rfl (pc' := 193) rfl ?_
            refine F_iload X180 at_193 rfl (pc' := 195) rfl ?_
            refine F_iload X180 at_195 rfl (pc' := 197) rfl ?_
            refine F_static X180 (rm := rm_hasl) at_197 (hw _ (List.mem_of_getElem? (i := 36) rfl)) (hw _ (List.mem_of_getElem? (i := 37) rfl)) (hw _ (List.mem_of_getElem? (i := 38) rfl)) (hw _ (List.mem_of_getElem? (i := 39) rfl)) (by decide) (argsL := [(.ref b153), (.int p4), (.int p5)]) (st := []) rfl (ct_hasl l Z a0 hw G1 G3 OS hEL hSA b153 t167 [c0, c1] p4 p5 X180.old S169 (Nat.le_of_ble_eq_true rfl)) (lenOf (pd_19) rfl) rfl (by decide) (by decide) (by decide) (Nat.le_of_ble_eq_true rfl) [] (fun _ _ q => by obtain ⟨_, _, e, _, _, _⟩ := q; exact own_ks e) (sf0)  (pc' := 200) rfl ?_
            intro T209 _ X210 hQ211
            obtain ⟨z208, rfl, e212, Az208, Bz208, Cz208⟩ := hQ211
            rw [← e212] at Arv_172 S169
            have hct : cpw (Int32.ofNat ([c0, c1] : List Int32).length) [c0, c1] = (2 : Int32) := by rw [cpw2, if_neg (fun q => Lc1 q.2)]; rfl
            rw [hct] at Az208 Bz208 Cz208
            obtain rfl := Cz208 q174 q181
            show EndW p e below s Z _ _ _ T209 (mkF m 200 #[.val (.int p0), .val (.int p1), .val (.int p2), .val (.int p3), .val (.int p4), .val (.int p5), .val (.int (2 : Int32)), .val (.int c0), .val (.int c1), .val (.int c2), .val (.ref b134), .val (.ref b153), .val (.int (2 : Int32)), .val (.int (1 : Int32))] [(.int (1 : Int32))])
            refine F_iload X210 at_200 rfl (pc' := 202) rfl ?_
            refine F_icF X210 at_202 (XT.ii_ne_f (by decide)) (pc' := 205) rfl ?_
            refine F_iconst X210 (v := (1 : Int32)) at_205 rfl (pc' := 206) rfl ?_
            refine F_goto X210 at_206 (pc' := 210) (by decide) rfl ?_
            exact F_ireturnN X210 (t := .boolean) at_210 rfl (by simp) (by decide) (by decide) (rfl)
    · skip
      obtain rfl := nz173 Hc0
      show EndW p e below s Z _ _ _ T174 (mkF m 125 #[.val (.int p0), .val (.int p1), .val (.int p2), .val (.int p3), .val (.int p4), .val (.int p5), .val (.int (2 : Int32)), .val (.int c0), .val (.int c1), .val (.int c2), .val (.ref b134), .val (.ref b153), .val (.int (2 : Int32)), .unset] [(.int (0 : Int32))])
      refine F_ifT X175 at_125 (XT.i0_eq_t (by decide)) (pc' := 142) (by decide) rfl ?_
      refine F_iload X175 at_142 rfl (pc' := 144) rfl ?_
      refine F_iconst X175 (v := (3 : Int32)) at_144 rfl (pc' := 145) rfl ?_
      refine F_icT X175 at_145 (XT.ii_lt_t (by decide)) (pc' := 170) (by decide) rfl ?_
      refine F_iload X175 at_170 rfl (pc' := 172) rfl ?_
      refine F_iload X175 at_172 rfl (pc' := 174) rfl ?_
      by_cases q174 : (2 : Int32) < p4
      · skip
        refine F_icT X175 at_174 (XT.ii_lt_t q174) (pc' := 188) (by decide) rfl ?_
        refine F_iconst X175 (v := (0 : Int32)) at_188 rfl (pc' := 189) rfl ?_
        refine F_istore X175 at_189 (l' := #[.val (.int p0), .val (.int p1), .val (.int p2), .val (.int p3), .val (.int p4), .val (.int p5), .val (.int (2 : Int32)), .val (.int c0), .val (.int c1), .val (.int c2), .val (.ref b134), .val (.ref b153), .val (.int (2 : Int32)), .val (.int (0 : Int32))]) rfl (pc' := 191) rfl ?_
        refine F_aload X175 at_191 rfl rfl (pc' := 193) rfl ?_
        refine F_iload X175 at_193 rfl (pc' := 195) rfl ?_
        refine F_iload X175 at_195 rfl (pc' := 197) rfl ?_
        refine F_static X175 (rm := rm_hasl) at_197 (hw _ (List.mem_of_getElem? (i := 36) rfl)) (hw _ (List.mem_of_getElem? (i := 37) rfl)) (hw _ (List.mem_of_getElem? (i := 38) rfl)) (hw _ (List.mem_of_getElem? (i := 39) rfl)) (by decide) (argsL := [(.ref b153), (.int p4), (.int p5)]) (st := []) rfl (ct_hasl l Z a0 hw G1 G3 OS hEL hSA b153 t167 [c0, c1] p4 p5 X175.old S169 (Nat.le_of_ble_eq_true rfl)) (lenOf (pd_19) rfl) rfl (by decide) (by decide) (by decide) (Nat.le_of_ble_eq_true rfl) [] (fun _ _ q => by obtain ⟨_, _, e, _, _, _⟩ := q; exact own_ks e) (sf0)  (pc' := 200) rfl ?_
        intro T214 _ X215 hQ216
        obtain ⟨z213, rfl, e217, Az213, Bz213, Cz213⟩ := hQ216
        rw [← e217] at Arv_172 S169
        have hct : cpw (Int32.ofNat ([c0, c1] : List Int32).length) [c0, c1] = (2 : Int32) := by rw [cpw2, if_neg (fun q => Hc0 q.1)]; rfl
        rw [hct] at Az213 Bz213 Cz213
        obtain rfl := Az213 q174
        show EndW p e below s Z _ _ _ T214 (mkF m 200 #[.val (.int p0), .val (.int p1), .val (.int p2), .val (.int p3), .val (.int p4), .val (.int p5), .val (.int (2 : Int32)), .val (.int c0), .val (.int c1), .val (.int c2), .val (.ref b134), .val (.ref b153), .val (.int (2 : Int32)), .val (.int (0 : Int32))] [(.int (0 : Int32))])
        refine F_iload X215 at_200 rfl (pc' := 202) rfl ?_
        refine F_icF X215 at_202 (XT.ii_ne_f (by decide)) (pc' := 205) rfl ?_
        refine F_iconst X215 (v := (1 : Int32)) at_205 rfl (pc' := 206) rfl ?_
        refine F_goto X215 at_206 (pc' := 210) (by decide) rfl ?_
        exact F_ireturnN X215 (t := .boolean) at_210 rfl (by simp) (by decide) (by decide) (rfl)
      · skip
        refine F_icF X175 at_174 (XT.ii_lt_f q174) (pc' := 177) rfl ?_
        refine F_iload X175 at_177 rfl (pc' := 179) rfl ?_
        refine F_iload X175 at_179 rfl (pc' := 181) rfl ?_
        by_cases q181 : p5 < (2 : Int32)
        · skip
          refine F_icT X175 at_181 (XT.ii_gt_t q181) (pc' := 188) (by decide) rfl ?_
          refine F_iconst X175 (v := (0 : Int32)) at_188 rfl (pc' := 189) rfl ?_
          refine F_istore X175 at_189 (l' := #[.val (.int p0), .val (.int p1), .val (.int p2), .val (.int p3), .val (.int p4), .val (.int p5), .val (.int (2 : Int32)), .val (.int c0), .val (.int c1), .val (.int c2), .val (.ref b134), .val (.ref b153), .val (.int (2 : Int32)), .val (.int (0 : Int32))]) rfl (pc' := 191) rfl ?_
          refine F_aload X175 at_191 rfl rfl (pc' := 193) rfl ?_
          refine F_iload X175 at_193 rfl (pc' := 195) rfl ?_
          refine F_iload X175 at_195 rfl (pc' := 197) rfl ?_
          refine F_static X175 (rm := rm_hasl) at_197 (hw _ (List.mem_of_getElem? (i := 36) rfl)) (hw _ (List.mem_of_getElem? (i := 37) rfl)) (hw _ (List.mem_of_getElem? (i := 38) rfl)) (hw _ (List.mem_of_getElem? (i := 39) rfl)) (by decide) (argsL := [(.ref b153), (.int p4), (.int p5)]) (st := []) rfl (ct_hasl l Z a0 hw G1 G3 OS hEL hSA b153 t167 [c0, c1] p4 p5 X175.old S169 (Nat.le_of_ble_eq_true rfl)) (lenOf (pd_19) rfl) rfl (by decide) (by decide) (by decide) (Nat.le_of_ble_eq_true rfl) [] (fun _ _ q => by obtain ⟨_, _, e, _, _, _⟩ := q; exact own_ks e) (sf0)  (pc' := 200) rfl ?_
          intro T219 _ X220 hQ221
          obtain ⟨z218, rfl, e222, Az218, Bz218, Cz218⟩ := hQ221
          rw [← e222] at Arv_172 S169
          have hct : cpw (Int32.ofNat ([c0, c1] : List Int32).length) [c0, c1] = (2 : Int32) := by rw [cpw2, if_neg (fun q => Hc0 q.1)]; rfl
          rw [hct] at Az218 Bz218 Cz218
          obtain rfl := Bz218 q174 q181
          show EndW p e below s Z _ _ _ T219 (mkF m 200 #[.val (.int p0), .val (.int p1), .val (.int p2), .val (.int p3), .val (.int p4), .val (.int p5), .val (.int (2 : Int32)), .val (.int c0), .val (.int c1), .val (.int c2), .val (.ref b134), .val (.ref b153), .val (.int (2 : Int32)), .val (.int (0 : Int32))] [(.int (0 : Int32))])
          refine F_iload X220 at_200 rfl (pc' := 202) rfl ?_
          refine F_icF X220 at_202 (XT.ii_ne_f (by decide)) (pc' := 205) rfl ?_
          refine F_iconst X220 (v := (1 : Int32)) at_205 rfl (pc' := 206) rfl ?_
          refine F_goto X220 at_206 (pc' := 210) (by decide) rfl ?_
          exact F_ireturnN X220 (t := .boolean) at_210 rfl (by simp) (by decide) (by decide) (rfl)
        · skip
          refine F_icF X175 at_181 (XT.ii_gt_f q181) (pc' := 184) rfl ?_
          refine F_iconst X175 (v := (1 : Int32)) at_184 rfl (pc' := 185) rfl ?_
          refine F_goto X175 at_185 (pc' := 189) (by decide) rfl ?_
          refine F_istore X175 at_189 (l' := #[.val (.int p0), .val (.int p1), .val (.int p2), .val (.int p3), .val (.int p4), .val (.int p5), .val (.int (2 : Int32)), .val (.int c0), .val (.int c1), .val (.int c2), .val (.ref b134), .val (.ref b153), .val (.int (2 : Int32)), .val (.int (1 : Int32))]) rfl (pc' := 191) rfl ?_
          refine F_aload X175 at_191 rfl rfl (pc' := 193) rfl ?_
          refine F_iload X175 at_193 rfl (pc' := 195) rfl ?_
          refine F_iload X175 at_195 rfl (pc' := 197) rfl ?_
          refine F_static X175 (rm := rm_hasl) at_197 (hw _ (List.mem_of_getElem? (i := 36) rfl)) (hw _ (List.mem_of_getElem? (i := 37) rfl)) (hw _ (List.mem_of_getElem? (i := 38) rfl)) (hw _ (List.mem_of_getElem? (i := 39) rfl)) (by decide) (argsL := [(.ref b153), (.int p4), (.int p5)]) (st := []) rfl (ct_hasl l Z a0 hw G1 G3 OS hEL hSA b153 t167 [c0, c1] p4 p5 X175.old S169 (Nat.le_of_ble_eq_true rfl)) (lenOf (pd_19) rfl) rfl (by decide) (by decide) (by decide) (Nat.le_of_ble_eq_true rfl) [] (fun _ _ q => by obtain ⟨_, _, e, _, _, _⟩ := q; exact own_ks e) (sf0)  (pc' := 200) rfl ?_
          intro T224 _ X225 hQ226
          obtain ⟨z223, rfl, e227, Az223, Bz223, Cz223⟩ := hQ226
          rw [← e227] at Arv_172 S169
          have hct : cpw (Int32.ofNat ([c0, c1] : List Int32).length) [c0, c1] = (2 : Int32) := by rw [cpw2, if_neg (fun q => Hc0 q.1)]; rfl
          rw [hct] at Az223 Bz223 Cz223
          obtain rfl := Cz223 q174 q181
          show EndW p e below s Z _ _ _ T224 (mkF m 200 #[.val (.int p0), .val (.int p1), .val (.int p2), .val (.int p3), .val (.int p4), .val (.int p5), .val (.int (2 : Int32)), .val (.int c0), .val (.int c1), .val (.int c2), .val (.ref b134), .val (.ref b153), .val (.int (2 : Int32)), .val (.int (1 : Int32))] [(.int (1 : Int32))])
          refine F_iload X225 at_200 rfl (pc' := 202) rfl ?_
          refine F_icF X225 at_202 (XT.ii_ne_f (by decide)) (pc' := 205) rfl ?_
          refine F_iconst X225 (v := (1 : Int32)) at_205 rfl (pc' := 206) rfl ?_
          refine F_goto X225 at_206 (pc' := 210) (by decide) rfl ?_
          exact F_ireturnN X225 (t := .boolean) at_210 rfl (by simp) (by decide) (by decide) (rfl)
  · skip
    show EndW p e below s Z _ _ _ T0 (mkF m 5 #[.val (.int p0), .val (.int p1), .val (.int p2), .val (.int p3), .val (.int p4), .val (.int p5), .val (.int (3 : Int32)), .unset, .unset, .unset, .unset, .unset, .unset, .unset] [])
    refine F_iloadN X0 at_5 rfl (pc' := 6) rfl ?_
    refine F_static X0 (rm := rm_draw) at_6 (hw _ (List.mem_of_getElem? (i := 0) rfl)) (hw _ (List.mem_of_getElem? (i := 1) rfl)) (hw _ (List.mem_of_getElem? (i := 2) rfl)) (hw _ (List.mem_of_getElem? (i := 3) rfl)) (by decide) (argsL := [(.int p0)]) (st := []) rfl (ct_draw l Z a0 hw G1 G3 OS hEL hSA p0 X0.old) (lenOf (pd_17) rfl) rfl (by decide) (by decide) (by decide) (Nat.le_of_ble_eq_true rfl) [] (fun _ _ q => by obtain ⟨_, _, e, _⟩ := q; exact own_ks e) (sf0)  (pc' := 9) rfl ?_
    intro T228 _ X229 hQ230
    obtain ⟨c0, rfl, e231, bc0⟩ := hQ230
    show EndW p e below s Z _ _ _ T228 (mkF m 9 #[.val (.int p0), .val (.int p1), .val (.int p2), .val (.int p3), .val (.int p4), .val (.int p5), .val (.int (3 : Int32)), .unset, .unset, .unset, .unset, .unset, .unset, .unset] [(.int c0)])
    refine F_istore X229 at_9 (l' := #[.val (.int p0), .val (.int p1), .val (.int p2), .val (.int p3), .val (.int p4), .val (.int p5), .val (.int (3 : Int32)), .val (.int c0), .unset, .unset, .unset, .unset, .unset, .unset]) rfl (pc' := 11) rfl ?_
    refine F_iloadN X229 at_11 rfl (pc' := 12) rfl ?_
    refine F_static X229 (rm := rm_draw) at_12 (hw _ (List.mem_of_getElem? (i := 0) rfl)) (hw _ (List.mem_of_getElem? (i := 1) rfl)) (hw _ (List.mem_of_getElem? (i := 2) rfl)) (hw _ (List.mem_of_getElem? (i := 3) rfl)) (by decide) (argsL := [(.int p1)]) (st := []) rfl (ct_draw l Z a0 hw G1 G3 OS hEL hSA p1 X229.old) (lenOf (pd_17) rfl) rfl (by decide) (by decide) (by decide) (Nat.le_of_ble_eq_true rfl) [] (fun _ _ q => by obtain ⟨_, _, e, _⟩ := q; exact own_ks e) (sf0)  (pc' := 15) rfl ?_
    intro T232 _ X233 hQ234
    obtain ⟨c1, rfl, e235, bc1⟩ := hQ234
    show EndW p e below s Z _ _ _ T232 (mkF m 15 #[.val (.int p0), .val (.int p1), .val (.int p2), .val (.int p3), .val (.int p4), .val (.int p5), .val (.int (3 : Int32)), .val (.int c0), .unset, .unset, .unset, .unset, .unset, .unset] [(.int c1)])
    refine F_istore X233 at_15 (l' := #[.val (.int p0), .val (.int p1), .val (.int p2), .val (.int p3), .val (.int p4), .val (.int p5), .val (.int (3 : Int32)), .val (.int c0), .val (.int c1), .unset, .unset, .unset, .unset, .unset]) rfl (pc' := 17) rfl ?_
    refine F_iloadN X233 at_17 rfl (pc' := 18) rfl ?_
    refine F_static X233 (rm := rm_draw) at_18 (hw _ (List.mem_of_getElem? (i := 0) rfl)) (hw _ (List.mem_of_getElem? (i := 1) rfl)) (hw _ (List.mem_of_getElem? (i := 2) rfl)) (hw _ (List.mem_of_getElem? (i := 3) rfl)) (by decide) (argsL := [(.int p2)]) (st := []) rfl (ct_draw l Z a0 hw G1 G3 OS hEL hSA p2 X233.old) (lenOf (pd_17) rfl) rfl (by decide) (by decide) (by decide) (Nat.le_of_ble_eq_true rfl) [] (fun _ _ q => by obtain ⟨_, _, e, _⟩ := q; exact own_ks e) (sf0)  (pc' := 21) rfl ?_
    intro T236 _ X237 hQ238
    obtain ⟨c2, rfl, e239, bc2⟩ := hQ238
    show EndW p e below s Z _ _ _ T236 (mkF m 21 #[.val (.int p0), .val (.int p1), .val (.int p2), .val (.int p3), .val (.int p4), .val (.int p5), .val (.int (3 : Int32)), .val (.int c0), .val (.int c1), .unset, .unset, .unset, .unset, .unset] [(.int c2)])
    refine F_istore X237 at_21 (l' := #[.val (.int p0), .val (.int p1), .val (.int p2), .val (.int p3), .val (.int p4), .val (.int p5), .val (.int (3 : Int32)), .val (.int c0), .val (.int c1), .val (.int c2), .unset, .unset, .unset, .unset]) rfl (pc' := 23) rfl ?_
    refine F_iload X237 at_23 rfl (pc' := 25) rfl ?_
    refine F_ifT X237 at_25 (XT.i0_ne_t (by decide)) (pc' := 36) (by decide) rfl ?_
    refine F_iload X237 at_36 rfl (pc' := 38) rfl ?_
    refine F_iconst X237 (v := (1 : Int32)) at_38 rfl (pc' := 39) rfl ?_
    refine F_icT X237 at_39 (XT.ii_ne_t (by decide)) (pc' := 55) (by decide) rfl ?_
    refine F_iload X237 at_55 rfl (pc' := 57) rfl ?_
    refine F_iconst X237 (v := (2 : Int32)) at_57 rfl (pc' := 58) rfl ?_
    refine F_icT X237 at_58 (XT.ii_ne_t (by decide)) (pc' := 79) (by decide) rfl ?_
    refine F_iconst X237 (v := (3 : Int32)) at_79 rfl (pc' := 80) rfl ?_
    refine F_newarray X237 3 at_80 (hw _ (List.mem_of_getElem? (i := 6) rfl)) (by decide) (by decide) (by decide) (by decide) (by decide) (pc' := 82) rfl ?_
    intro T240 b242 k246 X241 hb243 K244 V245
    have g247 : Z.heap.size ≤ b242 := Nat.le_trans X237.le (Nat.le_of_eq hb243.symm)
    have V248 : Arv Z T240.heap b242 k246 .char (3 : Int32) [(.int (0 : Int32)), (.int (0 : Int32)), (.int (0 : Int32))] (.int (0 : Int32)) := V245.pad (pad_rep [] (.int (0 : Int32)) 3)
    refine F_dup X241 at_82 rfl (pc' := 83) rfl ?_
    refine F_iconst X241 (v := (0 : Int32)) at_83 rfl (pc' := 84) rfl ?_
    refine F_iload X241 at_84 rfl (pc' := 86) rfl ?_
    refine F_castore X241 0 (y := c0) at_86 (o_nar bc0.1 bc0.2) V248 ⟨by decide, by decide⟩ rfl (Nat.le_of_ble_eq_true rfl) g247 (pc' := 87) rfl ?_
    intro T249 X250 K251 V252
    have V253 : Arv Z T249.heap b242 k246 .char (3 : Int32) [(.int c0), (.int (0 : Int32)), (.int (0 : Int32))] (.int (0 : Int32)) := V252
    refine F_dup X250 at_87 rfl (pc' := 88) rfl ?_
    refine F_iconst X250 (v := (1 : Int32)) at_88 rfl (pc' := 89) rfl ?_
    refine F_iload X250 at_89 rfl (pc' := 91) rfl ?_
    refine F_castore X250 1 (y := c1) at_91 (o_nar bc1.1 bc1.2) V253 ⟨by decide, by decide⟩ rfl (Nat.le_of_ble_eq_true rfl) g247 (pc' := 92) rfl ?_
    intro T254 X255 K256 V257
    have V258 : Arv Z T254.heap b242 k246 .char (3 : Int32) [(.int c0), (.int c1), (.int (0 : Int32))] (.int (0 : Int32)) := V257
    refine F_dup X255 at_92 rfl (pc' := 93) rfl ?_
    refine F_iconst X255 (v := (2 : Int32)) at_93 rfl (pc' := 94) rfl ?_
    refine F_iload X255 at_94 rfl (pc' := 96) rfl ?_
    refine F_castore X255 2 (y := c2) at_96 (o_nar bc2.1 bc2.2) V258 ⟨by decide, by decide⟩ rfl (Nat.le_of_ble_eq_true rfl) g247 (pc' := 97) rfl ?_
    intro T259 X260 K261 V262
    have V263 : Arv Z T259.heap b242 k246 .char (3 : Int32) [(.int c0), (.int c1), (.int c2)] (.int (0 : Int32)) := V262
    refine F_astore X260 at_97 rfl (l' := #[.val (.int p0), .val (.int p1), .val (.int p2), .val (.int p3), .val (.int p4), .val (.int p5), .val (.int (3 : Int32)), .val (.int c0), .val (.int c1), .val (.int c2), .val (.ref b242), .unset, .unset, .unset]) rfl (pc' := 99) rfl ?_
    refine F_new X260 at_99 (hw _ (List.mem_of_getElem? (i := 7) rfl)) (hw _ (List.mem_of_getElem? (i := 8) rfl)) (hw _ (List.mem_of_getElem? (i := 9) rfl)) (by decide) (by decide) (pc' := 102) rfl ?_
    intro T264 b266 X265 hb267 K268 E269 D270
    have ne271 : b242 ≠ b266 := Nat.ne_of_lt (Nat.lt_of_lt_of_eq V263.lt hb267.symm)
    have Arv_272 := V263.keep K268 nin0
    have g273 : Z.heap.size ≤ b266 := Nat.le_trans X260.le (Nat.le_of_eq hb267.symm)
    have F274 : Fld Z T264.heap b266 "java/lang/String" "coder" "B" (.int (0 : Int32)) := D270 (Or.inr (hw _ (List.mem_of_getElem? (i := 33) rfl))) (ty := .byte) (by decide)
    have F275 : Fld Z T264.heap b266 "java/lang/String" "value" "[B" .null := D270 (Or.inr (hw _ (List.mem_of_getElem? (i := 35) rfl))) (ty := (.array .byte)) (by decide)
    refine F_dup X265 at_102 rfl (pc' := 103) rfl ?_
    refine F_aload X265 at_103 rfl rfl (pc' := 105) rfl ?_
    refine F_special X265 (rm := rm_sinit) (a := b266) at_105 rfl rfl (hw _ (List.mem_of_getElem? (i := 10) rfl)) (hw _ (List.mem_of_getElem? (i := 11) rfl)) (hw _ (List.mem_of_getElem? (i := 12) rfl)) (by decide) (hw _ (List.mem_of_getElem? (i := 9) rfl)) (argsL := [(.ref b242)]) (st := [(.ref b266)]) rfl (ct_sinit l Z a0 hw G1 G3 OS hEL hSA b266 b242 k246 [c0, c1, c2] (.int (0 : Int32)) .null (.int (0 : Int32)) X265.old (Nat.le_of_ble_eq_true rfl) (Nat.le_of_ble_eq_true rfl) (allC bc0 (allC bc1 (allC bc2 allN))) E269 F275 F274 g273 Arv_272) (lenOf (pd_18) rfl) rfl (by decide) (by decide) (by decide) (Nat.le_of_ble_eq_true rfl) [b266] (fun _ _ q => q.2.1) (sfS (own_safe X265.al E269 F275 (hw _ (List.mem_of_getElem? (i := 8) rfl))) (sf0))  (pc' := 108) rfl ?_
    intro T276 _ X277 hQ278
    obtain ⟨rfl, K279, t280, sz281, S282⟩ := hQ278
    have ne283 : b242 ≠ t280 := Nat.ne_of_lt (Nat.lt_of_lt_of_le Arv_272.lt sz281)
    have ne284 : b266 ≠ t280 := Nat.ne_of_lt (Nat.lt_of_lt_of_le E269.lt sz281)
    have Arv_285 := Arv_272.keep K279 (ninS ne271 nin0)
    show EndW p e below s Z _ _ _ T276 (mkF m 108 #[.val (.int p0), .val (.int p1), .val (.int p2), .val (.int p3), .val (.int p4), .val (.int p5), .val (.int (3 : Int32)), .val (.int c0), .val (.int c1), .val (.int c2), .val (.ref b242), .unset, .unset, .unset] [(.ref b266)])
    refine F_astore X277 at_108 rfl (l' := #[.val (.int p0), .val (.int p1), .val (.int p2), .val (.int p3), .val (.int p4), .val (.int p5), .val (.int (3 : Int32)), .val (.int c0), .val (.int c1), .val (.int c2), .val (.ref b242), .val (.ref b266), .unset, .unset]) rfl (pc' := 110) rfl ?_
    refine F_iload X277 at_110 rfl (pc' := 112) rfl ?_
    refine F_istore X277 at_112 (l' := #[.val (.int p0), .val (.int p1), .val (.int p2), .val (.int p3), .val (.int p4), .val (.int p5), .val (.int (3 : Int32)), .val (.int c0), .val (.int c1), .val (.int c2), .val (.ref b242), .val (.ref b266), .val (.int (3 : Int32)), .unset]) rfl (pc' := 114) rfl ?_
    refine F_iload X277 at_114 rfl (pc' := 116) rfl ?_
    refine F_iconst X277 (v := (2 : Int32)) at_116 rfl (pc' := 117) rfl ?_
    refine F_icF X277 at_117 (XT.ii_lt_f (by decide)) (pc' := 120) rfl ?_
    refine F_iload X277 at_120 rfl (pc' := 122) rfl ?_
    refine F_static X277 (rm := rm_ishi) at_122 (hw _ (List.mem_of_getElem? (i := 88) rfl)) (hw _ (List.mem_of_getElem? (i := 89) rfl)) (hw _ (List.mem_of_getElem? (i := 2) rfl)) (hw _ (List.mem_of_getElem? (i := 90) rfl)) (by decide) (argsL := [(.int c0)]) (st := []) rfl (ct_ishi l Z a0 hw G1 G3 OS hEL hSA c0 X277.old) (lenOf (pd_10) rfl) rfl (by decide) (by decide) (by decide) (Nat.le_of_ble_eq_true rfl) [] (fun _ _ q => by obtain ⟨_, _, e, _, _⟩ := q; exact own_ks e) (sf0)  (pc' := 125) rfl ?_
    intro T287 _ X288 hQ289
    obtain ⟨z286, rfl, e290, yz286, nz286⟩ := hQ289
    rw [← e290] at Arv_285 S282
    by_cases Hc0 : hiS c0
    · skip
      obtain rfl := yz286 Hc0
      show EndW p e below s Z _ _ _ T287 (mkF m 125 #[.val (.int p0), .val (.int p1), .val (.int p2), .val (.int p3), .val (.int p4), .val (.int p5), .val (.int (3 : Int32)), .val (.int c0), .val (.int c1), .val (.int c2), .val (.ref b242), .val (.ref b266), .val (.int (3 : Int32)), .unset] [(.int (1 : Int32))])
      refine F_ifF X288 at_125 (XT.i0_eq_f (by decide)) (pc' := 128) rfl ?_
      refine F_iload X288 at_128 rfl (pc' := 130) rfl ?_
      refine F_static X288 (rm := rm_islo) at_130 (hw _ (List.mem_of_getElem? (i := 108) rfl)) (hw _ (List.mem_of_getElem? (i := 109) rfl)) (hw _ (List.mem_of_getElem? (i := 2) rfl)) (hw _ (List.mem_of_getElem? (i := 110) rfl)) (by decide) (argsL := [(.int c1)]) (st := []) rfl (ct_islo l Z a0 hw G1 G3 OS hEL hSA c1 X288.old) (lenOf (pd_10) rfl) rfl (by decide) (by decide) (by decide) (Nat.le_of_ble_eq_true rfl) [] (fun _ _ q => by obtain ⟨_, _, e, _, _⟩ := q; exact own_ks e) (sf0)  (pc' := 133) rfl ?_
      intro T292 _ X293 hQ294
      obtain ⟨z291, rfl, e295, yz291, nz291⟩ := hQ294
      rw [← e295] at Arv_285 S282
      by_cases Lc1 : loS c1
      · skip
        obtain rfl := yz291 Lc1
        show EndW p e below s Z _ _ _ T292 (mkF m 133 #[.val (.int p0), .val (.int p1), .val (.int p2), .val (.int p3), .val (.int p4), .val (.int p5), .val (.int (3 : Int32)), .val (.int c0), .val (.int c1), .val (.int c2), .val (.ref b242), .val (.ref b266), .val (.int (3 : Int32)), .unset] [(.int (1 : Int32))])
        refine F_ifF X293 at_133 (XT.i0_eq_f (by decide)) (pc' := 136) rfl ?_
        refine F_iload X293 at_136 rfl (pc' := 138) rfl ?_
        refine F_iconst X293 (v := (1 : Int32)) at_138 rfl (pc' := 139) rfl ?_
        refine F_isub X293 (v := (2 : Int32)) at_139 (by decide) (pc' := 140) rfl ?_
        refine F_istore X293 at_140 (l' := #[.val (.int p0), .val (.int p1), .val (.int p2), .val (.int p3), .val (.int p4), .val (.int p5), .val (.int (3 : Int32)), .val (.int c0), .val (.int c1), .val (.int c2), .val (.ref b242), .val (.ref b266), .val (.int (2 : Int32)), .unset]) rfl (pc' := 142) rfl ?_
        refine F_iload X293 at_142 rfl (pc' := 144) rfl ?_
        refine F_iconst X293 (v := (3 : Int32)) at_144 rfl (pc' := 145) rfl ?_
        refine F_icF X293 at_145 (XT.ii_lt_f (by decide)) (pc' := 148) rfl ?_
        refine F_iload X293 at_148 rfl (pc' := 150) rfl ?_
        refine F_static X293 (rm := rm_ishi) at_150 (hw _ (List.mem_of_getElem? (i := 88) rfl)) (hw _ (List.mem_of_getElem? (i := 89) rfl)) (hw _ (List.mem_of_getElem? (i := 2) rfl)) (hw _ (List.mem_of_getElem? (i := 90) rfl)) (by decide) (argsL := [(.int c1)]) (st := []) rfl (ct_ishi l Z a0 hw G1 G3 OS hEL hSA c1 X293.old) (lenOf (pd_10) rfl) rfl (by decide) (by decide) (by decide) (Nat.le_of_ble_eq_true rfl) [] (fun _ _ q => by obtain ⟨_, _, e, _, _⟩ := q; exact own_ks e) (sf0)  (pc' := 153) rfl ?_
        intro T297 _ X298 hQ299
        obtain ⟨z296, rfl, e300, yz296, nz296⟩ := hQ299
        rw [← e300] at Arv_285 S282
        have Hc1 := lo_hi Lc1
        obtain rfl := nz296 Hc1
        show EndW p e below s Z _ _ _ T297 (mkF m 153 #[.val (.int p0), .val (.int p1), .val (.int p2), .val (.int p3), .val (.int p4), .val (.int p5), .val (.int (3 : Int32)), .val (.int c0), .val (.int c1), .val (.int c2), .val (.ref b242), .val (.ref b266), .val (.int (2 : Int32)), .unset] [(.int (0 : Int32))])
        refine F_ifT X298 at_153 (XT.i0_eq_t (by decide)) (pc' := 170) (by decide) rfl ?_
        refine F_iload X298 at_170 rfl (pc' := 172) rfl ?_
        refine F_iload X298 at_172 rfl (pc' := 174) rfl ?_
        by_cases q174 : (2 : Int32) < p4
        · skip
          refine F_icT X298 at_174 (XT.ii_lt_t q174) (pc' := 188) (by decide) rfl ?_
          refine F_iconst X298 (v := (0 : Int32)) at_188 rfl (pc' := 189) rfl ?_
          refine F_istore X298 at_189 (l' := #[.val (.int p0), .val (.int p1), .val (.int p2), .val (.int p3), .val (.int p4), .val (.int p5), .val (.int (3 : Int32)), .val (.int c0), .val (.int c1), .val (.int c2), .val (.ref b242), .val (.ref b266), .val (.int (2 : Int32)), .val (.int (0 : Int32))]) rfl (pc' := 191) rfl ?_
          refine F_aload X298 at_191 rfl rfl (pc' := 193) rfl ?_
          refine F_iload X298 at_193 rfl (pc' := 195) rfl ?_
          refine F_iload X298 at_195 rfl (pc' := 197) rfl ?_
          refine F_static X298 (rm := rm_hasl) at_197 (hw _ (List.mem_of_getElem? (i := 36) rfl)) (hw _ (List.mem_of_getElem? (i := 37) rfl)) (hw _ (List.mem_of_getElem? (i := 38) rfl)) (hw _ (List.mem_of_getElem? (i := 39) rfl)) (by decide) (argsL := [(.ref b266), (.int p4), (.int p5)]) (st := []) rfl (ct_hasl l Z a0 hw G1 G3 OS hEL hSA b266 t280 [c0, c1, c2] p4 p5 X298.old S282 (Nat.le_of_ble_eq_true rfl)) (lenOf (pd_19) rfl) rfl (by decide) (by decide) (by decide) (Nat.le_of_ble_eq_true rfl) [] (fun _ _ q => by obtain ⟨_, _, e, _, _, _⟩ := q; exact own_ks e) (sf0)  (pc' := 200) rfl ?_
          intro T302 _ X303 hQ304
          obtain ⟨z301, rfl, e305, Az301, Bz301, Cz301⟩ := hQ304
          rw [← e305] at Arv_285 S282
          have hct : cpw (Int32.ofNat ([c0, c1, c2] : List Int32).length) [c0, c1, c2] = (2 : Int32) := by rw [cpw3, if_pos ⟨Hc0, Lc1⟩]; show (3 : Int32) + (-1 : Int32) = _; decide
          rw [hct] at Az301 Bz301 Cz301
          obtain rfl := Az301 q174
          show EndW p e below s Z _ _ _ T302 (mkF m 200 #[.val (.int p0), .val (.int p1), .val (.int p2), .val (.int p3), .val (.int p4), .val (.int p5), .val (.int (3 : Int32)), .val (.int c0), .val (.int c1), .val (.int c2), .val (.ref b242), .val (.ref b266), .val (.int (2 : Int32)), .val (.int (0 : Int32))] [(.int (0 : Int32))])
          refine F_iload X303 at_200 rfl (pc' := 202) rfl ?_
          refine F_icF X303 at_202 (XT.ii_ne_f (by decide)) (pc' := 205) rfl ?_
          refine F_iconst X303 (v := (1 : Int32)) at_205 rfl (pc' := 206) rfl ?_
          refine F_goto X303 at_206 (pc' := 210) (by decide) rfl ?_
          exact F_ireturnN X303 (t := .boolean) at_210 rfl (by simp) (by decide) (by decide) (rfl)
        · skip
          refine F_icF X298 at_174 (XT.ii_lt_f q174) (pc' := 177) rfl ?_
          refine F_iload X298 at_177 rfl (pc' := 179) rfl ?_
          refine F_iload X298 at_179 rfl (pc' := 181) rfl ?_
          by_cases q181 : p5 < (2 : Int32)
          · skip
            refine F_icT X298 at_181 (XT.ii_gt_t q181) (pc' := 188) (by decide) rfl ?_
            refine F_iconst X298 (v := (0 : Int32)) at_188 rfl (pc' := 189) rfl ?_
            refine F_istore X298 at_189 (l' := #[.val (.int p0), .val (.int p1), .val (.int p2), .val (.int p3), .val (.int p4), .val (.int p5), .val (.int (3 : Int32)), .val (.int c0), .val (.int c1), .val (.int c2), .val (.ref b242), .val (.ref b266), .val (.int (2 : Int32)), .val (.int (0 : Int32))]) rfl (pc' := 191) rfl ?_
            refine F_aload X298 at_191 rfl rfl (pc' := 193) rfl ?_
            refine F_iload X298 at_193 rfl (pc' := 195) rfl ?_
            refine F_iload X298 at_195 rfl (pc' := 197) rfl ?_
            refine F_static X298 (rm := rm_hasl) at_197 (hw _ (List.mem_of_getElem? (i := 36) rfl)) (hw _ (List.mem_of_getElem? (i := 37) rfl)) (hw _ (List.mem_of_getElem? (i := 38) rfl)) (hw _ (List.mem_of_getElem? (i := 39) rfl)) (by decide) (argsL := [(.ref b266), (.int p4), (.int p5)]) (st := []) rfl (ct_hasl l Z a0 hw G1 G3 OS hEL hSA b266 t280 [c0, c1, c2] p4 p5 X298.old S282 (Nat.le_of_ble_eq_true rfl)) (lenOf (pd_19) rfl) rfl (by decide) (by decide) (by decide) (Nat.le_of_ble_eq_true rfl) [] (fun _ _ q => by obtain ⟨_, _, e, _, _, _⟩ := q; exact own_ks e) (sf0)  (pc' := 200) rfl ?_
            intro T307 _ X308 hQ309
            obtain ⟨z306, rfl, e310, Az306, Bz306, Cz306⟩ := hQ309
            rw [← e310] at Arv_285 S282
            have hct : cpw (Int32.ofNat ([c0, c1, c2] : List Int32).length) [c0, c1, c2] = (2 : Int32) := by rw [cpw3, if_pos ⟨Hc0, Lc1⟩]; show (3 : Int32) + (-1 : Int32) = _; decide
            rw [hct] at Az306 Bz306 Cz306
            obtain rfl := Bz306 q174 q181
            show EndW p e below s Z _ _ _ T307 (mkF m 200 #[.val (.int p0), .val (.int p1), .val (.int p2), .val (.int p3), .val (.int p4), .val (.int p5), .val (.int (3 : Int32)), .val (.int c0), .val (.int c1), .val (.int c2), .val (.ref b242), .val (.ref b266), .val (.int (2 : Int32)), .val (.int (0 : Int32))] [(.int (0 : Int32))])
            refine F_iload X308 at_200 rfl (pc' := 202) rfl ?_
            refine F_icF X308 at_202 (XT.ii_ne_f (by decide)) (pc' := 205) rfl ?_
            refine F_iconst X308 (v := (1 : Int32)) at_205 rfl (pc' := 206) rfl ?_
            refine F_goto X308 at_206 (pc' := 210) (by decide) rfl ?_
            exact F_ireturnN X308 (t := .boolean) at_210 rfl (by simp) (by decide) (by decide) (rfl)
          · skip
            refine F_icF X298 at_181 (XT.ii_gt_f q181) (pc' := 184) rfl ?_
            refine F_iconst X298 (v := (1 : Int32)) at_184 rfl (pc' := 185) rfl ?_
            refine F_goto X298 at_185 (pc' := 189) (by decide) rfl ?_
            refine F_istore X298 at_189 (l' := #[.val (.int p0), .val (.int p1), .val (.int p2), .val (.int p3), .val (.int p4), .val (.int p5), .val (.int (3 : Int32)), .val (.int c0), .val (.int c1), .val (.int c2), .val (.ref b242), .val (.ref b266), .val (.int (2 : Int32)), .val (.int (1 : Int32))]) rfl (pc' := 191) rfl ?_
            refine F_aload X298 at_191 rfl rfl (pc' := 193) rfl ?_
            refine F_iload X298 at_193 rfl (pc' := 195) rfl ?_
            refine F_iload X298 at_195 rfl (pc' := 197) rfl ?_
            refine F_static X298 (rm := rm_hasl) at_197 (hw _ (List.mem_of_getElem? (i := 36) rfl)) (hw _ (List.mem_of_getElem? (i := 37) rfl)) (hw _ (List.mem_of_getElem? (i := 38) rfl)) (hw _ (List.mem_of_getElem? (i := 39) rfl)) (by decide) (argsL := [(.ref b266), (.int p4), (.int p5)]) (st := []) rfl (ct_hasl l Z a0 hw G1 G3 OS hEL hSA b266 t280 [c0, c1, c2] p4 p5 X298.old S282 (Nat.le_of_ble_eq_true rfl)) (lenOf (pd_19) rfl) rfl (by decide) (by decide) (by decide) (Nat.le_of_ble_eq_true rfl) [] (fun _ _ q => by obtain ⟨_, _, e, _, _, _⟩ := q; exact own_ks e) (sf0)  (pc' := 200) rfl ?_
            intro T312 _ X313 hQ314
            obtain ⟨z311, rfl, e315, Az311, Bz311, Cz311⟩ := hQ314
            rw [← e315] at Arv_285 S282
            have hct : cpw (Int32.ofNat ([c0, c1, c2] : List Int32).length) [c0, c1, c2] = (2 : Int32) := by rw [cpw3, if_pos ⟨Hc0, Lc1⟩]; show (3 : Int32) + (-1 : Int32) = _; decide
            rw [hct] at Az311 Bz311 Cz311
            obtain rfl := Cz311 q174 q181
            show EndW p e below s Z _ _ _ T312 (mkF m 200 #[.val (.int p0), .val (.int p1), .val (.int p2), .val (.int p3), .val (.int p4), .val (.int p5), .val (.int (3 : Int32)), .val (.int c0), .val (.int c1), .val (.int c2), .val (.ref b242), .val (.ref b266), .val (.int (2 : Int32)), .val (.int (1 : Int32))] [(.int (1 : Int32))])
            refine F_iload X313 at_200 rfl (pc' := 202) rfl ?_
            refine F_icF X313 at_202 (XT.ii_ne_f (by decide)) (pc' := 205) rfl ?_
            refine F_iconst X313 (v := (1 : Int32)) at_205 rfl (pc' := 206) rfl ?_
            refine F_goto X313 at_206 (pc' := 210) (by decide) rfl ?_
            exact F_ireturnN X313 (t := .boolean) at_210 rfl (by simp) (by decide) (by decide) (rfl)
      · skip
        obtain rfl := nz291 Lc1
        show EndW p e below s Z _ _ _ T292 (mkF m 133 #[.val (.int p0), .val (.int p1), .val (.int p2), .val (.int p3), .val (.int p4), .val (.int p5), .val (.int (3 : Int32)), .val (.int c0), .val (.int c1), .val (.int c2), .val (.ref b242), .val (.ref b266), .val (.int (3 : Int32)), .unset] [(.int (0 : Int32))])
        refine F_ifT X293 at_133 (XT.i0_eq_t (by decide)) (pc' := 142) (by decide) rfl ?_
        refine F_iload X293 at_142 rfl (pc' := 144) rfl ?_
        refine F_iconst X293 (v := (3 : Int32)) at_144 rfl (pc' := 145) rfl ?_
        refine F_icF X293 at_145 (XT.ii_lt_f (by decide)) (pc' := 148) rfl ?_
        refine F_iload X293 at_148 rfl (pc' := 150) rfl ?_
        refine F_static X293 (rm := rm_ishi) at_150 (hw _ (List.mem_of_getElem? (i := 88) rfl)) (hw _ (List.mem_of_getElem? (i := 89) rfl)) (hw _ (List.mem_of_getElem? (i := 2) rfl)) (hw _ (List.mem_of_getElem? (i := 90) rfl)) (by decide) (argsL := [(.int c1)]) (st := []) rfl (ct_ishi l Z a0 hw G1 G3 OS hEL hSA c1 X293.old) (lenOf (pd_10) rfl) rfl (by decide) (by decide) (by decide) (Nat.le_of_ble_eq_true rfl) [] (fun _ _ q => by obtain ⟨_, _, e, _, _⟩ := q; exact own_ks e) (sf0)  (pc' := 153) rfl ?_
        intro T317 _ X318 hQ319
        obtain ⟨z316, rfl, e320, yz316, nz316⟩ := hQ319
        rw [← e320] at Arv_285 S282
        by_cases Hc1 : hiS c1
        · skip
          obtain rfl := yz316 Hc1
          show EndW p e below s Z _ _ _ T317 (mkF m 153 #[.val (.int p0), .val (.int p1), .val (.int p2), .val (.int p3), .val (.int p4), .val (.int p5), .val (.int (3 : Int32)), .val (.int c0), .val (.int c1), .val (.int c2), .val (.ref b242), .val (.ref b266), .val (.int (3 : Int32)), .unset] [(.int (1 : Int32))])
          refine F_ifF X318 at_153 (XT.i0_eq_f (by decide)) (pc' := 156) rfl ?_
          refine F_iload X318 at_156 rfl (pc' := 158) rfl ?_
          refine F_static X318 (rm := rm_islo) at_158 (hw _ (List.mem_of_getElem? (i := 108) rfl)) (hw _ (List.mem_of_getElem? (i := 109) rfl)) (hw _ (List.mem_of_getElem? (i := 2) rfl)) (hw _ (List.mem_of_getElem? (i := 110) rfl)) (by decide) (argsL := [(.int c2)]) (st := []) rfl (ct_islo l Z a0 hw G1 G3 OS hEL hSA c2 X318.old) (lenOf (pd_10) rfl) rfl (by decide) (by decide) (by decide) (Nat.le_of_ble_eq_true rfl) [] (fun _ _ q => by obtain ⟨_, _, e, _, _⟩ := q; exact own_ks e) (sf0)  (pc' := 161) rfl ?_
          intro T322 _ X323 hQ324
          obtain ⟨z321, rfl, e325, yz321, nz321⟩ := hQ324
          rw [← e325] at Arv_285 S282
          by_cases Lc2 : loS c2
          · skip
            obtain rfl := yz321 Lc2
            show EndW p e below s Z _ _ _ T322 (mkF m 161 #[.val (.int p0), .val (.int p1), .val (.int p2), .val (.int p3), .val (.int p4), .val (.int p5), .val (.int (3 : Int32)), .val (.int c0), .val (.int c1), .val (.int c2), .val (.ref b242), .val (.ref b266), .val (.int (3 : Int32)), .unset] [(.int (1 : Int32))])
            refine F_ifF X323 at_161 (XT.i0_eq_f (by decide)) (pc' := 164) rfl ?_
            refine F_iload X323 at_164 rfl (pc' := 166) rfl ?_
            refine F_iconst X323 (v := (1 : Int32)) at_166 rfl (pc' := 167) rfl ?_
            refine F_isub X323 (v := (2 : Int32)) at_167 (by decide) (pc' := 168) rfl ?_
            refine F_istore X323 at_168 (l' := #[.val (.int p0), .val (.int p1), .val (.int p2), .val (.int p3), .val (.int p4), .val (.int p5), .val (.int (3 : Int32)), .val (.int c0), .val (.int c1), .val (.int c2), .val (.ref b242), .val (.ref b266), .val (.int (2 : Int32)), .unset]) rfl (pc' := 170) rfl ?_
            refine F_iload X323 at_170 rfl (pc' := 172) rfl ?_
            refine F_iload X323 at_172 rfl (pc' := 174) rfl ?_
            by_cases q174 : (2 : Int32) < p4
            · skip
              refine F_icT X323 at_174 (XT.ii_lt_t q174) (pc' := 188) (by decide) rfl ?_
              refine F_iconst X323 (v := (0 : Int32)) at_188 rfl (pc' := 189) rfl ?_
              refine F_istore X323 at_189 (l' := #[.val (.int p0), .val (.int p1), .val (.int p2), .val (.int p3), .val (.int p4), .val (.int p5), .val (.int (3 : Int32)), .val (.int c0), .val (.int c1), .val (.int c2), .val (.ref b242), .val (.ref b266), .val (.int (2 : Int32)), .val (.int (0 : Int32))]) rfl (pc' := 191) rfl ?_
              refine F_aload X323 at_191 rfl rfl (pc' := 193) rfl ?_
              refine F_iload X323 at_193 rfl (pc' := 195) rfl ?_
              refine F_iload X323 at_195 rfl (pc' := 197) rfl ?_
              refine F_static X323 (rm := rm_hasl) at_197 (hw _ (List.mem_of_getElem? (i := 36) rfl)) (hw _ (List.mem_of_getElem? (i := 37) rfl)) (hw _ (List.mem_of_getElem? (i := 38) rfl)) (hw _ (List.mem_of_getElem? (i := 39) rfl)) (by decide) (argsL := [(.ref b266), (.int p4), (.int p5)]) (st := []) rfl (ct_hasl l Z a0 hw G1 G3 OS hEL hSA b266 t280 [c0, c1, c2] p4 p5 X323.old S282 (Nat.le_of_ble_eq_true rfl)) (lenOf (pd_19) rfl) rfl (by decide) (by decide) (by decide) (Nat.le_of_ble_eq_true rfl) [] (fun _ _ q => by obtain ⟨_, _, e, _, _, _⟩ := q; exact own_ks e) (sf0)  (pc' := 200) rfl ?_
              intro T327 _ X328 hQ329
              obtain ⟨z326, rfl, e330, Az326, Bz326, Cz326⟩ := hQ329
              rw [← e330] at Arv_285 S282
              have hct : cpw (Int32.ofNat ([c0, c1, c2] : List Int32).length) [c0, c1, c2] = (2 : Int32) := by rw [cpw3, if_neg (fun q => Lc1 q.2), if_pos ⟨Hc1, Lc2⟩]; show (3 : Int32) + (-1 : Int32) = _; decide
              rw [hct] at Az326 Bz326 Cz326
              obtain rfl := Az326 q174
              show EndW p e below s Z _ _ _ T327 (mkF m 200 #[.val (.int p0), .val (.int p1), .val (.int p2), .val (.int p3), .val (.int p4), .val (.int p5), .val (.int (3 : Int32)), .val (.int c0), .val (.int c1), .val (.int c2), .val (.ref b242), .val (.ref b266), .val (.int (2 : Int32)), .val (.int (0 : Int32))] [(.int (0 : Int32))])
              refine F_iload X328 at_200 rfl (pc' := 202) rfl ?_
              refine F_icF X328 at_202 (XT.ii_ne_f (by decide)) (pc' := 205) rfl ?_
              refine F_iconst X328 (v := (1 : Int32)) at_205 rfl (pc' := 206) rfl ?_
              refine F_goto X328 at_206 (pc' := 210) (by decide) rfl ?_
              exact F_ireturnN X328 (t := .boolean) at_210 rfl (by simp) (by decide) (by decide) (rfl)
            · skip
              refine F_icF X323 at_174 (XT.ii_lt_f q174) (pc' := 177) rfl ?_
              refine F_iload X323 at_177 rfl (pc' := 179) rfl ?_
              refine F_iload X323 at_179 rfl (pc' := 181) rfl ?_
              by_cases q181 : p5 < (2 : Int32)
              · skip
                refine F_icT X323 at_181 (XT.ii_gt_t q181) (pc' := 188) (by decide) rfl ?_
                refine F_iconst X323 (v := (0 : Int32)) at_188 rfl (pc' := 189) rfl ?_
                refine F_istore X323 at_189 (l' := #[.val (.int p0), .val (.int p1), .val (.int p2), .val (.int p3), .val (.int p4), .val (.int p5), .val (.int (3 : Int32)), .val (.int c0), .val (.int c1), .val (.int c2), .val (.ref b242), .val (.ref b266), .val (.int (2 : Int32)), .val (.int (0 : Int32))]) rfl (pc' := 191) rfl ?_
                refine F_aload X323 at_191 rfl rfl (pc' := 193) rfl ?_
                refine F_iload X323 at_193 rfl (pc' := 195) rfl ?_
                refine F_iload X323 at_195 rfl (pc' := 197) rfl ?_
                refine F_static X323 (rm := rm_hasl) at_197 (hw _ (List.mem_of_getElem? (i := 36) rfl)) (hw _ (List.mem_of_getElem? (i := 37) rfl)) (hw _ (List.mem_of_getElem? (i := 38) rfl)) (hw _ (List.mem_of_getElem? (i := 39) rfl)) (by decide) (argsL := [(.ref b266), (.int p4), (.int p5)]) (st := []) rfl (ct_hasl l Z a0 hw G1 G3 OS hEL hSA b266 t280 [c0, c1, c2] p4 p5 X323.old S282 (Nat.le_of_ble_eq_true rfl)) (lenOf (pd_19) rfl) rfl (by decide) (by decide) (by decide) (Nat.le_of_ble_eq_true rfl) [] (fun _ _ q => by obtain ⟨_, _, e, _, _, _⟩ := q; exact own_ks e) (sf0)  (pc' := 200) rfl ?_
                intro T332 _ X333 hQ334
                obtain ⟨z331, rfl, e335, Az331, Bz331, Cz331⟩ := hQ334
                rw [← e335] at Arv_285 S282
                have hct : cpw (Int32.ofNat ([c0, c1, c2] : List Int32).length) [c0, c1, c2] = (2 : Int32) := by rw [cpw3, if_neg (fun q => Lc1 q.2), if_pos ⟨Hc1, Lc2⟩]; show (3 : Int32) + (-1 : Int32) = _; decide
                rw [hct] at Az331 Bz331 Cz331
                obtain rfl := Bz331 q174 q181
                show EndW p e below s Z _ _ _ T332 (mkF m 200 #[.val (.int p0), .val (.int p1), .val (.int p2), .val (.int p3), .val (.int p4), .val (.int p5), .val (.int (3 : Int32)), .val (.int c0), .val (.int c1), .val (.int c2), .val (.ref b242), .val (.ref b266), .val (.int (2 : Int32)), .val (.int (0 : Int32))] [(.int (0 : Int32))])
                refine F_iload X333 at_200 rfl (pc' := 202) rfl ?_
                refine F_icF X333 at_202 (XT.ii_ne_f (by decide)) (pc' := 205) rfl ?_
                refine F_iconst X333 (v := (1 : Int32)) at_205 rfl (pc' := 206) rfl ?_
                refine F_goto X333 at_206 (pc' := 210) (by decide) rfl ?_
                exact F_ireturnN X333 (t := .boolean) at_210 rfl (by simp) (by decide) (by decide) (rfl)
              · skip
                refine F_icF X323 at_181 (XT.ii_gt_f q181) (pc' := 184) rfl ?_
                refine F_iconst X323 (v := (1 : Int32)) at_184 rfl (pc' := 185) rfl ?_
                refine F_goto X323 at_185 (pc' := 189) (by decide) rfl ?_
                refine F_istore X323 at_189 (l' := #[.val (.int p0), .val (.int p1), .val (.int p2), .val (.int p3), .val (.int p4), .val (.int p5), .val (.int (3 : Int32)), .val (.int c0), .val (.int c1), .val (.int c2), .val (.ref b242), .val (.ref b266), .val (.int (2 : Int32)), .val (.int (1 : Int32))]) rfl (pc' := 191) rfl ?_
                refine F_aload X323 at_191 rfl rfl (pc' := 193) rfl ?_
                refine F_iload X323 at_193 rfl (pc' := 195) rfl ?_
                refine F_iload X323 at_195 rfl (pc' := 197) rfl ?_
                refine F_static X323 (rm := rm_hasl) at_197 (hw _ (List.mem_of_getElem? (i := 36) rfl)) (hw _ (List.mem_of_getElem? (i := 37) rfl)) (hw _ (List.mem_of_getElem? (i := 38) rfl)) (hw _ (List.mem_of_getElem? (i := 39) rfl)) (by decide) (argsL := [(.ref b266), (.int p4), (.int p5)]) (st := []) rfl (ct_hasl l Z a0 hw G1 G3 OS hEL hSA b266 t280 [c0, c1, c2] p4 p5 X323.old S282 (Nat.le_of_ble_eq_true rfl)) (lenOf (pd_19) rfl) rfl (by decide) (by decide) (by decide) (Nat.le_of_ble_eq_true rfl) [] (fun _ _ q => by obtain ⟨_, _, e, _, _, _⟩ := q; exact own_ks e) (sf0)  (pc' := 200) rfl ?_
                intro T337 _ X338 hQ339
                obtain ⟨z336, rfl, e340, Az336, Bz336, Cz336⟩ := hQ339
                rw [← e340] at Arv_285 S282
                have hct : cpw (Int32.ofNat ([c0, c1, c2] : List Int32).length) [c0, c1, c2] = (2 : Int32) := by rw [cpw3, if_neg (fun q => Lc1 q.2), if_pos ⟨Hc1, Lc2⟩]; show (3 : Int32) + (-1 : Int32) = _; decide
                rw [hct] at Az336 Bz336 Cz336
                obtain rfl := Cz336 q174 q181
                show EndW p e below s Z _ _ _ T337 (mkF m 200 #[.val (.int p0), .val (.int p1), .val (.int p2), .val (.int p3), .val (.int p4), .val (.int p5), .val (.int (3 : Int32)), .val (.int c0), .val (.int c1), .val (.int c2), .val (.ref b242), .val (.ref b266), .val (.int (2 : Int32)), .val (.int (1 : Int32))] [(.int (1 : Int32))])
                refine F_iload X338 at_200 rfl (pc' := 202) rfl ?_
                refine F_icF X338 at_202 (XT.ii_ne_f (by decide)) (pc' := 205) rfl ?_
                refine F_iconst X338 (v := (1 : Int32)) at_205 rfl (pc' := 206) rfl ?_
                refine F_goto X338 at_206 (pc' := 210) (by decide) rfl ?_
                exact F_ireturnN X338 (t := .boolean) at_210 rfl (by simp) (by decide) (by decide) (rfl)
          · skip
            obtain rfl := nz321 Lc2
            show EndW p e below s Z _ _ _ T322 (mkF m 161 #[.val (.int p0), .val (.int p1), .val (.int p2), .val (.int p3), .val (.int p4), .val (.int p5), .val (.int (3 : Int32)), .val (.int c0), .val (.int c1), .val (.int c2), .val (.ref b242), .val (.ref b266), .val (.int (3 : Int32)), .unset] [(.int (0 : Int32))])
            refine F_ifT X323 at_161 (XT.i0_eq_t (by decide)) (pc' := 170) (by decide) rfl ?_
            refine F_iload X323 at_170 rfl (pc' := 172) rfl ?_
            refine F_iload X323 at_172 rfl (pc' := 174) rfl ?_
            by_cases q174 : (3 : Int32) < p4
            · skip
              refine F_icT X323 at_174 (XT.ii_lt_t q174) (pc' := 188) (by decide) rfl ?_
              refine F_iconst X323 (v := (0 : Int32)) at_188 rfl (pc' := 189) rfl ?_
              refine F_istore X323 at_189 (l' := #[.val (.int p0), .val (.int p1), .val (.int p2), .val (.int p3), .val (.int p4), .val (.int p5), .val (.int (3 : Int32)), .val (.int c0), .val (.int c1), .val (.int c2), .val (.ref b242), .val (.ref b266), .val (.int (3 : Int32)), .val (.int (0 : Int32))]) rfl (pc' := 191) rfl ?_
              refine F_aload X323 at_191 rfl rfl (pc' := 193) rfl ?_
              refine F_iload X323 at_193 rfl (pc' := 195) rfl ?_
              refine F_iload X323 at_195 rfl (pc' := 197) rfl ?_
              refine F_static X323 (rm := rm_hasl) at_197 (hw _ (List.mem_of_getElem? (i := 36) rfl)) (hw _ (List.mem_of_getElem? (i := 37) rfl)) (hw _ (List.mem_of_getElem? (i := 38) rfl)) (hw _ (List.mem_of_getElem? (i := 39) rfl)) (by decide) (argsL := [(.ref b266), (.int p4), (.int p5)]) (st := []) rfl (ct_hasl l Z a0 hw G1 G3 OS hEL hSA b266 t280 [c0, c1, c2] p4 p5 X323.old S282 (Nat.le_of_ble_eq_true rfl)) (lenOf (pd_19) rfl) rfl (by decide) (by decide) (by decide) (Nat.le_of_ble_eq_true rfl) [] (fun _ _ q => by obtain ⟨_, _, e, _, _, _⟩ := q; exact own_ks e) (sf0)  (pc' := 200) rfl ?_
              intro T342 _ X343 hQ344
              obtain ⟨z341, rfl, e345, Az341, Bz341, Cz341⟩ := hQ344
              rw [← e345] at Arv_285 S282
              have hct : cpw (Int32.ofNat ([c0, c1, c2] : List Int32).length) [c0, c1, c2] = (3 : Int32) := by rw [cpw3, if_neg (fun q => Lc1 q.2), if_neg (fun q => Lc2 q.2)]; rfl
              rw [hct] at Az341 Bz341 Cz341
              obtain rfl := Az341 q174
              show EndW p e below s Z _ _ _ T342 (mkF m 200 #[.val (.int p0), .val (.int p1), .val (.int p2), .val (.int p3), .val (.int p4), .val (.int p5), .val (.int (3 : Int32)), .val (.int c0), .val (.int c1), .val (.int c2), .val (.ref b242), .val (.ref b266), .val (.int (3 : Int32)), .val (.int (0 : Int32))] [(.int (0 : Int32))])
              refine F_iload X343 at_200 rfl (pc' := 202) rfl ?_
              refine F_icF X343 at_202 (XT.ii_ne_f (by decide)) (pc' := 205) rfl ?_
              refine F_iconst X343 (v := (1 : Int32)) at_205 rfl (pc' := 206) rfl ?_
              refine F_goto X343 at_206 (pc' := 210) (by decide) rfl ?_
              exact F_ireturnN X343 (t := .boolean) at_210 rfl (by simp) (by decide) (by decide) (rfl)
            · skip
              refine F_icF X323 at_174 (XT.ii_lt_f q174) (pc' := 177) rfl ?_
              refine F_iload X323 at_177 rfl (pc' := 179) rfl ?_
              refine F_iload X323 at_179 rfl (pc' := 181) rfl ?_
              by_cases q181 : p5 < (3 : Int32)
              · skip
                refine F_icT X323 at_181 (XT.ii_gt_t q181) (pc' := 188) (by decide) rfl ?_
                refine F_iconst X323 (v := (0 : Int32)) at_188 rfl (pc' := 189) rfl ?_
                refine F_istore X323 at_189 (l' := #[.val (.int p0), .val (.int p1), .val (.int p2), .val (.int p3), .val (.int p4), .val (.int p5), .val (.int (3 : Int32)), .val (.int c0), .val (.int c1), .val (.int c2), .val (.ref b242), .val (.ref b266), .val (.int (3 : Int32)), .val (.int (0 : Int32))]) rfl (pc' := 191) rfl ?_
                refine F_aload X323 at_191 rfl rfl (pc' := 193) rfl ?_
                refine F_iload X323 at_193 rfl (pc' := 195) rfl ?_
                refine F_iload X323 at_195 rfl (pc' := 197) rfl ?_
                refine F_static X323 (rm := rm_hasl) at_197 (hw _ (List.mem_of_getElem? (i := 36) rfl)) (hw _ (List.mem_of_getElem? (i := 37) rfl)) (hw _ (List.mem_of_getElem? (i := 38) rfl)) (hw _ (List.mem_of_getElem? (i := 39) rfl)) (by decide) (argsL := [(.ref b266), (.int p4), (.int p5)]) (st := []) rfl (ct_hasl l Z a0 hw G1 G3 OS hEL hSA b266 t280 [c0, c1, c2] p4 p5 X323.old S282 (Nat.le_of_ble_eq_true rfl)) (lenOf (pd_19) rfl) rfl (by decide) (by decide) (by decide) (Nat.le_of_ble_eq_true rfl) [] (fun _ _ q => by obtain ⟨_, _, e, _, _, _⟩ := q; exact own_ks e) (sf0)  (pc' := 200) rfl ?_
                intro T347 _ X348 hQ349
                obtain ⟨z346, rfl, e350, Az346, Bz346, Cz346⟩ := hQ349
                rw [← e350] at Arv_285 S282
                have hct : cpw (Int32.ofNat ([c0, c1, c2] : List Int32).length) [c0, c1, c2] = (3 : Int32) := by rw [cpw3, if_neg (fun q => Lc1 q.2), if_neg (fun q => Lc2 q.2)]; rfl
                rw [hct] at Az346 Bz346 Cz346
                obtain rfl := Bz346 q174 q181
                show EndW p e below s Z _ _ _ T347 (mkF m 200 #[.val (.int p0), .val (.int p1), .val (.int p2), .val (.int p3), .val (.int p4), .val (.int p5), .val (.int (3 : Int32)), .val (.int c0), .val (.int c1), .val (.int c2), .val (.ref b242), .val (.ref b266), .val (.int (3 : Int32)), .val (.int (0 : Int32))] [(.int (0 : Int32))])
                refine F_iload X348 at_200 rfl (pc' := 202) rfl ?_
                refine F_icF X348 at_202 (XT.ii_ne_f (by decide)) (pc' := 205) rfl ?_
                refine F_iconst X348 (v := (1 : Int32)) at_205 rfl (pc' := 206) rfl ?_
                refine F_goto X348 at_206 (pc' := 210) (by decide) rfl ?_
                exact F_ireturnN X348 (t := .boolean) at_210 rfl (by simp) (by decide) (by decide) (rfl)
              · skip
                refine F_icF X323 at_181 (XT.ii_gt_f q181) (pc' := 184) rfl ?_
                refine F_iconst X323 (v := (1 : Int32)) at_184 rfl (pc' := 185) rfl ?_
                refine F_goto X323 at_185 (pc' := 189) (by decide) rfl ?_
                refine F_istore X323 at_189 (l' := #[.val (.int p0), .val (.int p1), .val (.int p2), .val (.int p3), .val (.int p4), .val (.int p5), .val (.int (3 : Int32)), .val (.int c0), .val (.int c1), .val (.int c2), .val (.ref b242), .val (.ref b266), .val (.int (3 : Int32)), .val (.int (1 : Int32))]) rfl (pc' := 191) rfl ?_
                refine F_aload X323 at_191 rfl rfl (pc' := 193) rfl ?_
                refine F_iload X323 at_193 rfl (pc' := 195) rfl ?_
                refine F_iload X323 at_195 rfl (pc' := 197) rfl ?_
                refine F_static X323 (rm := rm_hasl) at_197 (hw _ (List.mem_of_getElem? (i := 36) rfl)) (hw _ (List.mem_of_getElem? (i := 37) rfl)) (hw _ (List.mem_of_getElem? (i := 38) rfl)) (hw _ (List.mem_of_getElem? (i := 39) rfl)) (by decide) (argsL := [(.ref b266), (.int p4), (.int p5)]) (st := []) rfl (ct_hasl l Z a0 hw G1 G3 OS hEL hSA b266 t280 [c0, c1, c2] p4 p5 X323.old S282 (Nat.le_of_ble_eq_true rfl)) (lenOf (pd_19) rfl) rfl (by decide) (by decide) (by decide) (Nat.le_of_ble_eq_true rfl) [] (fun _ _ q => by obtain ⟨_, _, e, _, _, _⟩ := q; exact own_ks e) (sf0)  (pc' := 200) rfl ?_
                intro T352 _ X353 hQ354
                obtain ⟨z351, rfl, e355, Az351, Bz351, Cz351⟩ := hQ354
                rw [← e355] at Arv_285 S282
                have hct : cpw (Int32.ofNat ([c0, c1, c2] : List Int32).length) [c0, c1, c2] = (3 : Int32) := by rw [cpw3, if_neg (fun q => Lc1 q.2), if_neg (fun q => Lc2 q.2)]; rfl
                rw [hct] at Az351 Bz351 Cz351
                obtain rfl := Cz351 q174 q181
                show EndW p e below s Z _ _ _ T352 (mkF m 200 #[.val (.int p0), .val (.int p1), .val (.int p2), .val (.int p3), .val (.int p4), .val (.int p5), .val (.int (3 : Int32)), .val (.int c0), .val (.int c1), .val (.int c2), .val (.ref b242), .val (.ref b266), .val (.int (3 : Int32)), .val (.int (1 : Int32))] [(.int (1 : Int32))])
                refine F_iload X353 at_200 rfl (pc' := 202) rfl ?_
                refine F_icF X353 at_202 (XT.ii_ne_f (by decide)) (pc' := 205) rfl ?_
                refine F_iconst X353 (v := (1 : Int32)) at_205 rfl (pc' := 206) rfl ?_
                refine F_goto X353 at_206 (pc' := 210) (by decide) rfl ?_
                exact F_ireturnN X353 (t := .boolean) at_210 rfl (by simp) (by decide) (by decide) (rfl)
        · skip
          obtain rfl := nz316 Hc1
          show EndW p e below s Z _ _ _ T317 (mkF m 153 #[.val (.int p0), .val (.int p1), .val (.int p2), .val (.int p3), .val (.int p4), .val (.int p5), .val (.int (3 : Int32)), .val (.int c0), .val (.int c1), .val (.int c2), .val (.ref b242), .val (.ref b266), .val (.int (3 : Int32)), .unset] [(.int (0 : Int32))])
          refine F_ifT X318 at_153 (XT.i0_eq_t (by decide)) (pc' := 170) (by decide) rfl ?_
          refine F_iload X318 at_170 rfl (pc' := 172) rfl ?_
          refine F_iload X318 at_172 rfl (pc' := 174) rfl ?_
          by_cases q174 : (3 : Int32) < p4
          · skip
            refine F_icT X318 at_174 (XT.ii_lt_t q174) (pc' := 188) (by decide) rfl ?_
            refine F_iconst X318 (v := (0 : Int32)) at_188 rfl (pc' := 189) rfl ?_
            refine F_istore X318 at_189 (l' := #[.val (.int p0), .val (.int p1), .val (.int p2), .val (.int p3), .val (.int p4), .val (.int p5), .val (.int (3 : Int32)), .val (.int c0), .val (.int c1), .val (.int c2), .val (.ref b242), .val (.ref b266), .val (.int (3 : Int32)), .val (.int (0 : Int32))]) rfl (pc' := 191) rfl ?_
            refine F_aload X318 at_191 rfl rfl (pc' := 193) rfl ?_
            refine F_iload X318 at_193 rfl (pc' := 195) rfl ?_
            refine F_iload X318 at_195 rfl (pc' := 197) rfl ?_
            refine F_static X318 (rm := rm_hasl) at_197 (hw _ (List.mem_of_getElem? (i := 36) rfl)) (hw _ (List.mem_of_getElem? (i := 37) rfl)) (hw _ (List.mem_of_getElem? (i := 38) rfl)) (hw _ (List.mem_of_getElem? (i := 39) rfl)) (by decide) (argsL := [(.ref b266), (.int p4), (.int p5)]) (st := []) rfl (ct_hasl l Z a0 hw G1 G3 OS hEL hSA b266 t280 [c0, c1, c2] p4 p5 X318.old S282 (Nat.le_of_ble_eq_true rfl)) (lenOf (pd_19) rfl) rfl (by decide) (by decide) (by decide) (Nat.le_of_ble_eq_true rfl) [] (fun _ _ q => by obtain ⟨_, _, e, _, _, _⟩ := q; exact own_ks e) (sf0)  (pc' := 200) rfl ?_
            intro T357 _ X358 hQ359
            obtain ⟨z356, rfl, e360, Az356, Bz356, Cz356⟩ := hQ359
            rw [← e360] at Arv_285 S282
            have hct : cpw (Int32.ofNat ([c0, c1, c2] : List Int32).length) [c0, c1, c2] = (3 : Int32) := by rw [cpw3, if_neg (fun q => Lc1 q.2), if_neg (fun q => Hc1 q.1)]; rfl
            rw [hct] at Az356 Bz356 Cz356
            obtain rfl := Az356 q174
            show EndW p e below s Z _ _ _ T357 (mkF m 200 #[.val (.int p0), .val (.int p1), .val (.int p2), .val (.int p3), .val (.int p4), .val (.int p5), .val (.int (3 : Int32)), .val (.int c0), .val (.int c1), .val (.int c2), .val (.ref b242), .val (.ref b266), .val (.int (3 : Int32)), .val (.int (0 : Int32))] [(.int (0 : Int32))])
            refine F_iload X358 at_200 rfl (pc' := 202) rfl ?_
            refine F_icF X358 at_202 (XT.ii_ne_f (by decide)) (pc' := 205) rfl ?_
            refine F_iconst X358 (v := (1 : Int32)) at_205 rfl (pc' := 206) rfl ?_
            refine F_goto X358 at_206 (pc' := 210) (by decide) rfl ?_
            exact F_ireturnN X358 (t := .boolean) at_210 rfl (by simp) (by decide) (by decide) (rfl)
          · skip
            refine F_icF X318 at_174 (XT.ii_lt_f q174) (pc' := 177) rfl ?_
            refine F_iload X318 at_177 rfl (pc' := 179) rfl ?_
            refine F_iload X318 at_179 rfl (pc' := 181) rfl ?_
            by_cases q181 : p5 < (3 : Int32)
            · skip
              refine F_icT X318 at_181 (XT.ii_gt_t q181) (pc' := 188) (by decide) rfl ?_
              refine F_iconst X318 (v := (0 : Int32)) at_188 rfl (pc' := 189) rfl ?_
              refine F_istore X318 at_189 (l' := #[.val (.int p0), .val (.int p1), .val (.int p2), .val (.int p3), .val (.int p4), .val (.int p5), .val (.int (3 : Int32)), .val (.int c0), .val (.int c1), .val (.int c2), .val (.ref b242), .val (.ref b266), .val (.int (3 : Int32)), .val (.int (0 : Int32))]) rfl (pc' := 191) rfl ?_
              refine F_aload X318 at_191 rfl rfl (pc' := 193) rfl ?_
              refine F_iload X318 at_193 rfl (pc' := 195) rfl ?_
              refine F_iload X318 at_195 rfl (pc' := 197) rfl ?_
              refine F_static X318 (rm := rm_hasl) at_197 (hw _ (List.mem_of_getElem? (i := 36) rfl)) (hw _ (List.mem_of_getElem? (i := 37) rfl)) (hw _ (List.mem_of_getElem? (i := 38) rfl)) (hw _ (List.mem_of_getElem? (i := 39) rfl)) (by decide) (argsL := [(.ref b266), (.int p4), (.int p5)]) (st := []) rfl (ct_hasl l Z a0 hw G1 G3 OS hEL hSA b266 t280 [c0, c1, c2] p4 p5 X318.old S282 (Nat.le_of_ble_eq_true rfl)) (lenOf (pd_19) rfl) rfl (by decide) (by decide) (by decide) (Nat.le_of_ble_eq_true rfl) [] (fun _ _ q => by obtain ⟨_, _, e, _, _, _⟩ := q; exact own_ks e) (sf0)  (pc' := 200) rfl ?_
              intro T362 _ X363 hQ364
              obtain ⟨z361, rfl, e365, Az361, Bz361, Cz361⟩ := hQ364
              rw [← e365] at Arv_285 S282
              have hct : cpw (Int32.ofNat ([c0, c1, c2] : List Int32).length) [c0, c1, c2] = (3 : Int32) := by rw [cpw3, if_neg (fun q => Lc1 q.2), if_neg (fun q => Hc1 q.1)]; rfl
              rw [hct] at Az361 Bz361 Cz361
              obtain rfl := Bz361 q174 q181
              show EndW p e below s Z _ _ _ T362 (mkF m 200 #[.val (.int p0), .val (.int p1), .val (.int p2), .val (.int p3), .val (.int p4), .val (.int p5), .val (.int (3 : Int32)), .val (.int c0), .val (.int c1), .val (.int c2), .val (.ref b242), .val (.ref b266), .val (.int (3 : Int32)), .val (.int (0 : Int32))] [(.int (0 : Int32))])
              refine F_iload X363 at_200 rfl (pc' := 202) rfl ?_
              refine F_icF X363 at_202 (XT.ii_ne_f (by decide)) (pc' := 205) rfl ?_
              refine F_iconst X363 (v := (1 : Int32)) at_205 rfl (pc' := 206) rfl ?_
              refine F_goto X363 at_206 (pc' := 210) (by decide) rfl ?_
              exact F_ireturnN X363 (t := .boolean) at_210 rfl (by simp) (by decide) (by decide) (rfl)
            · skip
              refine F_icF X318 at_181 (XT.ii_gt_f q181) (pc' := 184) rfl ?_
              refine F_iconst X318 (v := (1 : Int32)) at_184 rfl (pc' := 185) rfl ?_
              refine F_goto X318 at_185 (pc' := 189) (by decide) rfl ?_
              refine F_istore X318 at_189 (l' := #[.val (.int p0), .val (.int p1), .val (.int p2), .val (.int p3), .val (.int p4), .val (.int p5), .val (.int (3 : Int32)), .val (.int c0), .val (.int c1), .val (.int c2), .val (.ref b242), .val (.ref b266), .val (.int (3 : Int32)), .val (.int (1 : Int32))]) rfl (pc' := 191) rfl ?_
              refine F_aload X318 at_191 rfl rfl (pc' := 193) rfl ?_
              refine F_iload X318 at_193 rfl (pc' := 195) rfl ?_
              refine F_iload X318 at_195 rfl (pc' := 197) rfl ?_
              refine F_static X318 (rm := rm_hasl) at_197 (hw _ (List.mem_of_getElem? (i := 36) rfl)) (hw _ (List.mem_of_getElem? (i := 37) rfl)) (hw _ (List.mem_of_getElem? (i := 38) rfl)) (hw _ (List.mem_of_getElem? (i := 39) rfl)) (by decide) (argsL := [(.ref b266), (.int p4), (.int p5)]) (st := []) rfl (ct_hasl l Z a0 hw G1 G3 OS hEL hSA b266 t280 [c0, c1, c2] p4 p5 X318.old S282 (Nat.le_of_ble_eq_true rfl)) (lenOf (pd_19) rfl) rfl (by decide) (by decide) (by decide) (Nat.le_of_ble_eq_true rfl) [] (fun _ _ q => by obtain ⟨_, _, e, _, _, _⟩ := q; exact own_ks e) (sf0)  (pc' := 200) rfl ?_
              intro T367 _ X368 hQ369
              obtain ⟨z366, rfl, e370, Az366, Bz366, Cz366⟩ := hQ369
              rw [← e370] at Arv_285 S282
              have hct : cpw (Int32.ofNat ([c0, c1, c2] : List Int32).length) [c0, c1, c2] = (3 : Int32) := by rw [cpw3, if_neg (fun q => Lc1 q.2), if_neg (fun q => Hc1 q.1)]; rfl
              rw [hct] at Az366 Bz366 Cz366
              obtain rfl := Cz366 q174 q181
              show EndW p e below s Z _ _ _ T367 (mkF m 200 #[.val (.int p0), .val (.int p1), .val (.int p2), .val (.int p3), .val (.int p4), .val (.int p5), .val (.int (3 : Int32)), .val (.int c0), .val (.int c1), .val (.int c2), .val (.ref b242), .val (.ref b266), .val (.int (3 : Int32)), .val (.int (1 : Int32))] [(.int (1 : Int32))])
              refine F_iload X368 at_200 rfl (pc' := 202) rfl ?_
              refine F_icF X368 at_202 (XT.ii_ne_f (by decide)) (pc' := 205) rfl ?_
              refine F_iconst X368 (v := (1 : Int32)) at_205 rfl (pc' := 206) rfl ?_
              refine F_goto X368 at_206 (pc' := 210) (by decide) rfl ?_
              exact F_ireturnN X368 (t := .boolean) at_210 rfl (by simp) (by decide) (by decide) (rfl)
    · skip
      obtain rfl := nz286 Hc0
      show EndW p e below s Z _ _ _ T287 (mkF m 125 #[.val (.int p0), .val (.int p1), .val (.int p2), .val (.int p3), .val (.int p4), .val (.int p5), .val (.int (3 : Int32)), .val (.int c0), .val (.int c1), .val (.int c2), .val (.ref b242), .val (.ref b266), .val (.int (3 : Int32)), .unset] [(.int (0 : Int32))])
      refine F_ifT X288 at_125 (XT.i0_eq_t (by decide)) (pc' := 142) (by decide) rfl ?_
      refine F_iload X288 at_142 rfl (pc' := 144) rfl ?_
      refine F_iconst X288 (v := (3 : Int32)) at_144 rfl (pc' := 145) rfl ?_
      refine F_icF X288 at_145 (XT.ii_lt_f (by decide)) (pc' := 148) rfl ?_
      refine F_iload X288 at_148 rfl (pc' := 150) rfl ?_
      refine F_static X288 (rm := rm_ishi) at_150 (hw _ (List.mem_of_getElem? (i := 88) rfl)) (hw _ (List.mem_of_getElem? (i := 89) rfl)) (hw _ (List.mem_of_getElem? (i := 2) rfl)) (hw _ (List.mem_of_getElem? (i := 90) rfl)) (by decide) (argsL := [(.int c1)]) (st := []) rfl (ct_ishi l Z a0 hw G1 G3 OS hEL hSA c1 X288.old) (lenOf (pd_10) rfl) rfl (by decide) (by decide) (by decide) (Nat.le_of_ble_eq_true rfl) [] (fun _ _ q => by obtain ⟨_, _, e, _, _⟩ := q; exact own_ks e) (sf0)  (pc' := 153) rfl ?_
      intro T372 _ X373 hQ374
      obtain ⟨z371, rfl, e375, yz371, nz371⟩ := hQ374
      rw [← e375] at Arv_285 S282
      by_cases Hc1 : hiS c1
      · skip
        obtain rfl := yz371 Hc1
        show EndW p e below s Z _ _ _ T372 (mkF m 153 #[.val (.int p0), .val (.int p1), .val (.int p2), .val (.int p3), .val (.int p4), .val (.int p5), .val (.int (3 : Int32)), .val (.int c0), .val (.int c1), .val (.int c2), .val (.ref b242), .val (.ref b266), .val (.int (3 : Int32)), .unset] [(.int (1 : Int32))])
        refine F_ifF X373 at_153 (XT.i0_eq_f (by decide)) (pc' := 156) rfl ?_
        refine F_iload X373 at_156 rfl (pc' := 158) rfl ?_
        refine F_static X373 (rm := rm_islo) at_158 (hw _ (List.mem_of_getElem? (i := 108) rfl)) (hw _ (List.mem_of_getElem? (i := 109) rfl)) (hw _ (List.mem_of_getElem? (i := 2) rfl)) (hw _ (List.mem_of_getElem? (i := 110) rfl)) (by decide) (argsL := [(.int c2)]) (st := []) rfl (ct_islo l Z a0 hw G1 G3 OS hEL hSA c2 X373.old) (lenOf (pd_10) rfl) rfl (by decide) (by decide) (by decide) (Nat.le_of_ble_eq_true rfl) [] (fun _ _ q => by obtain ⟨_, _, e, _, _⟩ := q; exact own_ks e) (sf0)  (pc' := 161) rfl ?_
        intro T377 _ X378 hQ379
        obtain ⟨z376, rfl, e380, yz376, nz376⟩ := hQ379
        rw [← e380] at Arv_285 S282
        by_cases Lc2 : loS c2
        · skip
          obtain rfl := yz376 Lc2
          show EndW p e below s Z _ _ _ T377 (mkF m 161 #[.val (.int p0), .val (.int p1), .val (.int p2), .val (.int p3), .val (.int p4), .val (.int p5), .val (.int (3 : Int32)), .val (.int c0), .val (.int c1), .val (.int c2), .val (.ref b242), .val (.ref b266), .val (.int (3 : Int32)), .unset] [(.int (1 : Int32))])
          refine F_ifF X378 at_161 (XT.i0_eq_f (by decide)) (pc' := 164) rfl ?_
          refine F_iload X378 at_164 rfl (pc' := 166) rfl ?_
          refine F_iconst X378 (v := (1 : Int32)) at_166 rfl (pc' := 167) rfl ?_
          refine F_isub X378 (v := (2 : Int32)) at_167 (by decide) (pc' := 168) rfl ?_
          refine F_istore X378 at_168 (l' := #[.val (.int p0), .val (.int p1), .val (.int p2), .val (.int p3), .val (.int p4), .val (.int p5), .val (.int (3 : Int32)), .val (.int c0), .val (.int c1), .val (.int c2), .val (.ref b242), .val (.ref b266), .val (.int (2 : Int32)), .unset]) rfl (pc' := 170) rfl ?_
          refine F_iload X378 at_170 rfl (pc' := 172) rfl ?_
          refine F_iload X378 at_172 rfl (pc' := 174) rfl ?_
          by_cases q174 : (2 : Int32) < p4
          · skip
            refine F_icT X378 at_174 (XT.ii_lt_t q174) (pc' := 188) (by decide) rfl ?_
            refine F_iconst X378 (v := (0 : Int32)) at_188 rfl (pc' := 189) rfl ?_
            refine F_istore X378 at_189 (l' := #[.val (.int p0), .val (.int p1), .val (.int p2), .val (.int p3), .val (.int p4), .val (.int p5), .val (.int (3 : Int32)), .val (.int c0), .val (.int c1), .val (.int c2), .val (.ref b242), .val (.ref b266), .val (.int (2 : Int32)), .val (.int (0 : Int32))]) rfl (pc' := 191) rfl ?_
            refine F_aload X378 at_191 rfl rfl (pc' := 193) rfl ?_
            refine F_iload X378 at_193 rfl (pc' := 195) rfl ?_
            refine F_iload X378 at_195 rfl (pc' := 197) rfl ?_
            refine F_static X378 (rm := rm_hasl) at_197 (hw _ (List.mem_of_getElem? (i := 36) rfl)) (hw _ (List.mem_of_getElem? (i := 37) rfl)) (hw _ (List.mem_of_getElem? (i := 38) rfl)) (hw _ (List.mem_of_getElem? (i := 39) rfl)) (by decide) (argsL := [(.ref b266), (.int p4), (.int p5)]) (st := []) rfl (ct_hasl l Z a0 hw G1 G3 OS hEL hSA b266 t280 [c0, c1, c2] p4 p5 X378.old S282 (Nat.le_of_ble_eq_true rfl)) (lenOf (pd_19) rfl) rfl (by decide) (by decide) (by decide) (Nat.le_of_ble_eq_true rfl) [] (fun _ _ q => by obtain ⟨_, _, e, _, _, _⟩ := q; exact own_ks e) (sf0)  (pc' := 200) rfl ?_
            intro T382 _ X383 hQ384
            obtain ⟨z381, rfl, e385, Az381, Bz381, Cz381⟩ := hQ384
            rw [← e385] at Arv_285 S282
            have hct : cpw (Int32.ofNat ([c0, c1, c2] : List Int32).length) [c0, c1, c2] = (2 : Int32) := by rw [cpw3, if_neg (fun q => Hc0 q.1), if_pos ⟨Hc1, Lc2⟩]; show (3 : Int32) + (-1 : Int32) = _; decide
            rw [hct] at Az381 Bz381 Cz381
            obtain rfl := Az381 q174
            show EndW p e below s Z _ _ _ T382 (mkF m 200 #[.val (.int p0), .val (.int p1), .val (.int p2), .val (.int p3), .val (.int p4), .val (.int p5), .val (.int (3 : Int32)), .val (.int c0), .val (.int c1), .val (.int c2), .val (.ref b242), .val (.ref b266), .val (.int (2 : Int32)), .val (.int (0 : Int32))] [(.int (0 : Int32))])
            refine F_iload X383 at_200 rfl (pc' := 202) rfl ?_
            refine F_icF X383 at_202 (XT.ii_ne_f (by decide)) (pc' := 205) rfl ?_
            refine F_iconst X383 (v := (1 : Int32)) at_205 rfl (pc' := 206) rfl ?_
            refine F_goto X383 at_206 (pc' := 210) (by decide) rfl ?_
            exact F_ireturnN X383 (t := .boolean) at_210 rfl (by simp) (by decide) (by decide) (rfl)
          · skip
            refine F_icF X378 at_174 (XT.ii_lt_f q174) (pc' := 177) rfl ?_
            refine F_iload X378 at_177 rfl (pc' := 179) rfl ?_
            refine F_iload X378 at_179 rfl (pc' := 181) rfl ?_
            by_cases q181 : p5 < (2 : Int32)
            · skip
              refine F_icT X378 at_181 (XT.ii_gt_t q181) (pc' := 188) (by decide) rfl ?_
              refine F_iconst X378 (v := (0 : Int32)) at_188 rfl (pc' := 189) rfl ?_
              refine F_istore X378 at_189 (l' := #[.val (.int p0), .val (.int p1), .val (.int p2), .val (.int p3), .val (.int p4), .val (.int p5), .val (.int (3 : Int32)), .val (.int c0), .val (.int c1), .val (.int c2), .val (.ref b242), .val (.ref b266), .val (.int (2 : Int32)), .val (.int (0 : Int32))]) rfl (pc' := 191) rfl ?_
              refine F_aload X378 at_191 rfl rfl (pc' := 193) rfl ?_
              refine F_iload X378 at_193 rfl (pc' := 195) rfl ?_
              refine F_iload X378 at_195 rfl (pc' := 197) rfl ?_
              refine F_static X378 (rm := rm_hasl) at_197 (hw _ (List.mem_of_getElem? (i := 36) rfl)) (hw _ (List.mem_of_getElem? (i := 37) rfl)) (hw _ (List.mem_of_getElem? (i := 38) rfl)) (hw _ (List.mem_of_getElem? (i := 39) rfl)) (by decide) (argsL := [(.ref b266), (.int p4), (.int p5)]) (st := []) rfl (ct_hasl l Z a0 hw G1 G3 OS hEL hSA b266 t280 [c0, c1, c2] p4 p5 X378.old S282 (Nat.le_of_ble_eq_true rfl)) (lenOf (pd_19) rfl) rfl (by decide) (by decide) (by decide) (Nat.le_of_ble_eq_true rfl) [] (fun _ _ q => by obtain ⟨_, _, e, _, _, _⟩ := q; exact own_ks e) (sf0)  (pc' := 200) rfl ?_
              intro T387 _ X388 hQ389
              obtain ⟨z386, rfl, e390, Az386, Bz386, Cz386⟩ := hQ389
              rw [← e390] at Arv_285 S282
              have hct : cpw (Int32.ofNat ([c0, c1, c2] : List Int32).length) [c0, c1, c2] = (2 : Int32) := by rw [cpw3, if_neg (fun q => Hc0 q.1), if_pos ⟨Hc1, Lc2⟩]; show (3 : Int32) + (-1 : Int32) = _; decide
              rw [hct] at Az386 Bz386 Cz386
              obtain rfl := Bz386 q174 q181
              show EndW p e below s Z _ _ _ T387 (mkF m 200 #[.val (.int p0), .val (.int p1), .val (.int p2), .val (.int p3), .val (.int p4), .val (.int p5), .val (.int (3 : Int32)), .val (.int c0), .val (.int c1), .val (.int c2), .val (.ref b242), .val (.ref b266), .val (.int (2 : Int32)), .val (.int (0 : Int32))] [(.int (0 : Int32))])
              refine F_iload X388 at_200 rfl (pc' := 202) rfl ?_
              refine F_icF X388 at_202 (XT.ii_ne_f (by decide)) (pc' := 205) rfl ?_
              refine F_iconst X388 (v := (1 : Int32)) at_205 rfl (pc' := 206) rfl ?_
              refine F_goto X388 at_206 (pc' := 210) (by decide) rfl ?_
              exact F_ireturnN X388 (t := .boolean) at_210 rfl (by simp) (by decide) (by decide) (rfl)
            · skip
              refine F_icF X378 at_181 (XT.ii_gt_f q181) (pc' := 184) rfl ?_
              refine F_iconst X378 (v := (1 : Int32)) at_184 rfl (pc' := 185) rfl ?_
              refine F_goto X378 at_185 (pc' := 189) (by decide) rfl ?_
              refine F_istore X378 at_189 (l' := #[.val (.int p0), .val (.int p1), .val (.int p2), .val (.int p3), .val (.int p4), .val (.int p5), .val (.int (3 : Int32)), .val (.int c0), .val (.int c1), .val (.int c2), .val (.ref b242), .val (.ref b266), .val (.int (2 : Int32)), .val (.int (1 : Int32))]) rfl (pc' := 191) rfl ?_
              refine F_aload X378 at_191 rfl rfl (pc' := 193) rfl ?_
              refine F_iload X378 at_193 rfl (pc' := 195) rfl ?_
              refine F_iload X378 at_195 rfl (pc' := 197) rfl ?_
              refine F_static X378 (rm := rm_hasl) at_197 (hw _ (List.mem_of_getElem? (i := 36) rfl)) (hw _ (List.mem_of_getElem? (i := 37) rfl)) (hw _ (List.mem_of_getElem? (i := 38) rfl)) (hw _ (List.mem_of_getElem? (i := 39) rfl)) (by decide) (argsL := [(.ref b266), (.int p4), (.int p5)]) (st := []) rfl (ct_hasl l Z a0 hw G1 G3 OS hEL hSA b266 t280 [c0, c1, c2] p4 p5 X378.old S282 (Nat.le_of_ble_eq_true rfl)) (lenOf (pd_19) rfl) rfl (by decide) (by decide) (by decide) (Nat.le_of_ble_eq_true rfl) [] (fun _ _ q => by obtain ⟨_, _, e, _, _, _⟩ := q; exact own_ks e) (sf0)  (pc' := 200) rfl ?_
              intro T392 _ X393 hQ394
              obtain ⟨z391, rfl, e395, Az391, Bz391, Cz391⟩ := hQ394
              rw [← e395] at Arv_285 S282
              have hct : cpw (Int32.ofNat ([c0, c1, c2] : List Int32).length) [c0, c1, c2] = (2 : Int32) := by rw [cpw3, if_neg (fun q => Hc0 q.1), if_pos ⟨Hc1, Lc2⟩]; show (3 : Int32) + (-1 : Int32) = _; decide
              rw [hct] at Az391 Bz391 Cz391
              obtain rfl := Cz391 q174 q181
              show EndW p e below s Z _ _ _ T392 (mkF m 200 #[.val (.int p0), .val (.int p1), .val (.int p2), .val (.int p3), .val (.int p4), .val (.int p5), .val (.int (3 : Int32)), .val (.int c0), .val (.int c1), .val (.int c2), .val (.ref b242), .val (.ref b266), .val (.int (2 : Int32)), .val (.int (1 : Int32))] [(.int (1 : Int32))])
              refine F_iload X393 at_200 rfl (pc' := 202) rfl ?_
              refine F_icF X393 at_202 (XT.ii_ne_f (by decide)) (pc' := 205) rfl ?_
              refine F_iconst X393 (v := (1 : Int32)) at_205 rfl (pc' := 206) rfl ?_
              refine F_goto X393 at_206 (pc' := 210) (by decide) rfl ?_
              exact F_ireturnN X393 (t := .boolean) at_210 rfl (by simp) (by decide) (by decide) (rfl)
        · skip
          obtain rfl := nz376 Lc2
          show EndW p e below s Z _ _ _ T377 (mkF m 161 #[.val (.int p0), .val (.int p1), .val (.int p2), .val (.int p3), .val (.int p4), .val (.int p5), .val (.int (3 : Int32)), .val (.int c0), .val (.int c1), .val (.int c2), .val (.ref b242), .val (.ref b266), .val (.int (3 : Int32)), .unset] [(.int (0 : Int32))])
          refine F_ifT X378 at_161 (XT.i0_eq_t (by decide)) (pc' := 170) (by decide) rfl ?_
          refine F_iload X378 at_170 rfl (pc' := 172) rfl ?_
          refine F_iload X378 at_172 rfl (pc' := 174) rfl ?_
          by_cases q174 : (3 : Int32) < p4
          · skip
            refine F_icT X378 at_174 (XT.ii_lt_t q174) (pc' := 188) (by decide) rfl ?_
            refine F_iconst X378 (v := (0 : Int32)) at_188 rfl (pc' := 189) rfl ?_
            refine F_istore X378 at_189 (l' := #[.val (.int p0), .val (.int p1), .val (.int p2), .val (.int p3), .val (.int p4), .val (.int p5), .val (.int (3 : Int32)), .val (.int c0), .val (.int c1), .val (.int c2), .val (.ref b242), .val (.ref b266), .val (.int (3 : Int32)), .val (.int (0 : Int32))]) rfl (pc' := 191) rfl ?_
            refine F_aload X378 at_191 rfl rfl (pc' := 193) rfl ?_
            refine F_iload X378 at_193 rfl (pc' := 195) rfl ?_
            refine F_iload X378 at_195 rfl (pc' := 197) rfl ?_
            refine F_static X378 (rm := rm_hasl) at_197 (hw _ (List.mem_of_getElem? (i := 36) rfl)) (hw _ (List.mem_of_getElem? (i := 37) rfl)) (hw _ (List.mem_of_getElem? (i := 38) rfl)) (hw _ (List.mem_of_getElem? (i := 39) rfl)) (by decide) (argsL := [(.ref b266), (.int p4), (.int p5)]) (st := []) rfl (ct_hasl l Z a0 hw G1 G3 OS hEL hSA b266 t280 [c0, c1, c2] p4 p5 X378.old S282 (Nat.le_of_ble_eq_true rfl)) (lenOf (pd_19) rfl) rfl (by decide) (by decide) (by decide) (Nat.le_of_ble_eq_true rfl) [] (fun _ _ q => by obtain ⟨_, _, e, _, _, _⟩ := q; exact own_ks e) (sf0)  (pc' := 200) rfl ?_
            intro T397 _ X398 hQ399
            obtain ⟨z396, rfl, e400, Az396, Bz396, Cz396⟩ := hQ399
            rw [← e400] at Arv_285 S282
            have hct : cpw (Int32.ofNat ([c0, c1, c2] : List Int32).length) [c0, c1, c2] = (3 : Int32) := by rw [cpw3, if_neg (fun q => Hc0 q.1), if_neg (fun q => Lc2 q.2)]; rfl
            rw [hct] at Az396 Bz396 Cz396
            obtain rfl := Az396 q174
            show EndW p e below s Z _ _ _ T397 (mkF m 200 #[.val (.int p0), .val (.int p1), .val (.int p2), .val (.int p3), .val (.int p4), .val (.int p5), .val (.int (3 : Int32)), .val (.int c0), .val (.int c1), .val (.int c2), .val (.ref b242), .val (.ref b266), .val (.int (3 : Int32)), .val (.int (0 : Int32))] [(.int (0 : Int32))])
            refine F_iload X398 at_200 rfl (pc' := 202) rfl ?_
            refine F_icF X398 at_202 (XT.ii_ne_f (by decide)) (pc' := 205) rfl ?_
            refine F_iconst X398 (v := (1 : Int32)) at_205 rfl (pc' := 206) rfl ?_
            refine F_goto X398 at_206 (pc' := 210) (by decide) rfl ?_
            exact F_ireturnN X398 (t := .boolean) at_210 rfl (by simp) (by decide) (by decide) (rfl)
          · skip
            refine F_icF X378 at_174 (XT.ii_lt_f q174) (pc' := 177) rfl ?_
            refine F_iload X378 at_177 rfl (pc' := 179) rfl ?_
            refine F_iload X378 at_179 rfl (pc' := 181) rfl ?_
            by_cases q181 : p5 < (3 : Int32)
            · skip
              refine F_icT X378 at_181 (XT.ii_gt_t q181) (pc' := 188) (by decide) rfl ?_
              refine F_iconst X378 (v := (0 : Int32)) at_188 rfl (pc' := 189) rfl ?_
              refine F_istore X378 at_189 (l' := #[.val (.int p0), .val (.int p1), .val (.int p2), .val (.int p3), .val (.int p4), .val (.int p5), .val (.int (3 : Int32)), .val (.int c0), .val (.int c1), .val (.int c2), .val (.ref b242), .val (.ref b266), .val (.int (3 : Int32)), .val (.int (0 : Int32))]) rfl (pc' := 191) rfl ?_
              refine F_aload X378 at_191 rfl rfl (pc' := 193) rfl ?_
              refine F_iload X378 at_193 rfl (pc' := 195) rfl ?_
              refine F_iload X378 at_195 rfl (pc' := 197) rfl ?_
              refine F_static X378 (rm := rm_hasl) at_197 (hw _ (List.mem_of_getElem? (i := 36) rfl)) (hw _ (List.mem_of_getElem? (i := 37) rfl)) (hw _ (List.mem_of_getElem? (i := 38) rfl)) (hw _ (List.mem_of_getElem? (i := 39) rfl)) (by decide) (argsL := [(.ref b266), (.int p4), (.int p5)]) (st := []) rfl (ct_hasl l Z a0 hw G1 G3 OS hEL hSA b266 t280 [c0, c1, c2] p4 p5 X378.old S282 (Nat.le_of_ble_eq_true rfl)) (lenOf (pd_19) rfl) rfl (by decide) (by decide) (by decide) (Nat.le_of_ble_eq_true rfl) [] (fun _ _ q => by obtain ⟨_, _, e, _, _, _⟩ := q; exact own_ks e) (sf0)  (pc' := 200) rfl ?_
              intro T402 _ X403 hQ404
              obtain ⟨z401, rfl, e405, Az401, Bz401, Cz401⟩ := hQ404
              rw [← e405] at Arv_285 S282
              have hct : cpw (Int32.ofNat ([c0, c1, c2] : List Int32).length) [c0, c1, c2] = (3 : Int32) := by rw [cpw3, if_neg (fun q => Hc0 q.1), if_neg (fun q => Lc2 q.2)]; rfl
              rw [hct] at Az401 Bz401 Cz401
              obtain rfl := Bz401 q174 q181
              show EndW p e below s Z _ _ _ T402 (mkF m 200 #[.val (.int p0), .val (.int p1), .val (.int p2), .val (.int p3), .val (.int p4), .val (.int p5), .val (.int (3 : Int32)), .val (.int c0), .val (.int c1), .val (.int c2), .val (.ref b242), .val (.ref b266), .val (.int (3 : Int32)), .val (.int (0 : Int32))] [(.int (0 : Int32))])
              refine F_iload X403 at_200 rfl (pc' := 202) rfl ?_
              refine F_icF X403 at_202 (XT.ii_ne_f (by decide)) (pc' := 205) rfl ?_
              refine F_iconst X403 (v := (1 : Int32)) at_205 rfl (pc' := 206) rfl ?_
              refine F_goto X403 at_206 (pc' := 210) (by decide) rfl ?_
              exact F_ireturnN X403 (t := .boolean) at_210 rfl (by simp) (by decide) (by decide) (rfl)
            · skip
              refine F_icF X378 at_181 (XT.ii_gt_f q181) (pc' := 184) rfl ?_
              refine F_iconst X378 (v := (1 : Int32)) at_184 rfl (pc' := 185) rfl ?_
              refine F_goto X378 at_185 (pc' := 189) (by decide) rfl ?_
              refine F_istore X378 at_189 (l' := #[.val (.int p0), .val (.int p1), .val (.int p2), .val (.int p3), .val (.int p4), .val (.int p5), .val (.int (3 : Int32)), .val (.int c0), .val (.int c1), .val (.int c2), .val (.ref b242), .val (.ref b266), .val (.int (3 : Int32)), .val (.int (1 : Int32))]) rfl (pc' := 191) rfl ?_
              refine F_aload X378 at_191 rfl rfl (pc' := 193) rfl ?_
              refine F_iload X378 at_193 rfl (pc' := 195) rfl ?_
              refine F_iload X378 at_195 rfl (pc' := 197) rfl ?_
              refine F_static X378 (rm := rm_hasl) at_197 (hw _ (List.mem_of_getElem? (i := 36) rfl)) (hw _ (List.mem_of_getElem? (i := 37) rfl)) (hw _ (List.mem_of_getElem? (i := 38) rfl)) (hw _ (List.mem_of_getElem? (i := 39) rfl)) (by decide) (argsL := [(.ref b266), (.int p4), (.int p5)]) (st := []) rfl (ct_hasl l Z a0 hw G1 G3 OS hEL hSA b266 t280 [c0, c1, c2] p4 p5 X378.old S282 (Nat.le_of_ble_eq_true rfl)) (lenOf (pd_19) rfl) rfl (by decide) (by decide) (by decide) (Nat.le_of_ble_eq_true rfl) [] (fun _ _ q => by obtain ⟨_, _, e, _, _, _⟩ := q; exact own_ks e) (sf0)  (pc' := 200) rfl ?_
              intro T407 _ X408 hQ409
              obtain ⟨z406, rfl, e410, Az406, Bz406, Cz406⟩ := hQ409
              rw [← e410] at Arv_285 S282
              have hct : cpw (Int32.ofNat ([c0, c1, c2] : List Int32).length) [c0, c1, c2] = (3 : Int32) := by rw [cpw3, if_neg (fun q => Hc0 q.1), if_neg (fun q => Lc2 q.2)]; rfl
              rw [hct] at Az406 Bz406 Cz406
              obtain rfl := Cz406 q174 q181
              show EndW p e below s Z _ _ _ T407 (mkF m 200 #[.val (.int p0), .val (.int p1), .val (.int p2), .val (.int p3), .val (.int p4), .val (.int p5), .val (.int (3 : Int32)), .val (.int c0), .val (.int c1), .val (.int c2), .val (.ref b242), .val (.ref b266), .val (.int (3 : Int32)), .val (.int (1 : Int32))] [(.int (1 : Int32))])
              refine F_iload X408 at_200 rfl (pc' := 202) rfl ?_
              refine F_icF X408 at_202 (XT.ii_ne_f (by decide)) (pc' := 205) rfl ?_
              refine F_iconst X408 (v := (1 : Int32)) at_205 rfl (pc' := 206) rfl ?_
              refine F_goto X408 at_206 (pc' := 210) (by decide) rfl ?_
              exact F_ireturnN X408 (t := .boolean) at_210 rfl (by simp) (by decide) (by decide) (rfl)
      · skip
        obtain rfl := nz371 Hc1
        show EndW p e below s Z _ _ _ T372 (mkF m 153 #[.val (.int p0), .val (.int p1), .val (.int p2), .val (.int p3), .val (.int p4), .val (.int p5), .val (.int (3 : Int32)), .val (.int c0), .val (.int c1), .val (.int c2), .val (.ref b242), .val (.ref b266), .val (.int (3 : Int32)), .unset] [(.int (0 : Int32))])
        refine F_ifT X373 at_153 (XT.i0_eq_t (by decide)) (pc' := 170) (by decide) rfl ?_
        refine F_iload X373 at_170 rfl (pc' := 172) rfl ?_
        refine F_iload X373 at_172 rfl (pc' := 174) rfl ?_
        by_cases q174 : (3 : Int32) < p4
        · skip
          refine F_icT X373 at_174 (XT.ii_lt_t q174) (pc' := 188) (by decide) rfl ?_
          refine F_iconst X373 (v := (0 : Int32)) at_188 rfl (pc' := 189) rfl ?_
          refine F_istore X373 at_189 (l' := #[.val (.int p0), .val (.int p1), .val (.int p2), .val (.int p3), .val (.int p4), .val (.int p5), .val (.int (3 : Int32)), .val (.int c0), .val (.int c1), .val (.int c2), .val (.ref b242), .val (.ref b266), .val (.int (3 : Int32)), .val (.int (0 : Int32))]) rfl (pc' := 191) rfl ?_
          refine F_aload X373 at_191 rfl rfl (pc' := 193) rfl ?_
          refine F_iload X373 at_193 rfl (pc' := 195) rfl ?_
          refine F_iload X373 at_195 rfl (pc' := 197) rfl ?_
          refine F_static X373 (rm := rm_hasl) at_197 (hw _ (List.mem_of_getElem? (i := 36) rfl)) (hw _ (List.mem_of_getElem? (i := 37) rfl)) (hw _ (List.mem_of_getElem? (i := 38) rfl)) (hw _ (List.mem_of_getElem? (i := 39) rfl)) (by decide) (argsL := [(.ref b266), (.int p4), (.int p5)]) (st := []) rfl (ct_hasl l Z a0 hw G1 G3 OS hEL hSA b266 t280 [c0, c1, c2] p4 p5 X373.old S282 (Nat.le_of_ble_eq_true rfl)) (lenOf (pd_19) rfl) rfl (by decide) (by decide) (by decide) (Nat.le_of_ble_eq_true rfl) [] (fun _ _ q => by obtain ⟨_, _, e, _, _, _⟩ := q; exact own_ks e) (sf0)  (pc' := 200) rfl ?_
          intro T412 _ X413 hQ414
          obtain ⟨z411, rfl, e415, Az411, Bz411, Cz411⟩ := hQ414
          rw [← e415] at Arv_285 S282
          have hct : cpw (Int32.ofNat ([c0, c1, c2] : List Int32).length) [c0, c1, c2] = (3 : Int32) := by rw [cpw3, if_neg (fun q => Hc0 q.1), if_neg (fun q => Hc1 q.1)]; rfl
          rw [hct] at Az411 Bz411 Cz411
          obtain rfl := Az411 q174
          show EndW p e below s Z _ _ _ T412 (mkF m 200 #[.val (.int p0), .val (.int p1), .val (.int p2), .val (.int p3), .val (.int p4), .val (.int p5), .val (.int (3 : Int32)), .val (.int c0), .val (.int c1), .val (.int c2), .val (.ref b242), .val (.ref b266), .val (.int (3 : Int32)), .val (.int (0 : Int32))] [(.int (0 : Int32))])
          refine F_iload X413 at_200 rfl (pc' := 202) rfl ?_
          refine F_icF X413 at_202 (XT.ii_ne_f (by decide)) (pc' := 205) rfl ?_
          refine F_iconst X413 (v := (1 : Int32)) at_205 rfl (pc' := 206) rfl ?_
          refine F_goto X413 at_206 (pc' := 210) (by decide) rfl ?_
          exact F_ireturnN X413 (t := .boolean) at_210 rfl (by simp) (by decide) (by decide) (rfl)
        · skip
          refine F_icF X373 at_174 (XT.ii_lt_f q174) (pc' := 177) rfl ?_
          refine F_iload X373 at_177 rfl (pc' := 179) rfl ?_
          refine F_iload X373 at_179 rfl (pc' := 181) rfl ?_
          by_cases q181 : p5 < (3 : Int32)
          · skip
            refine F_icT X373 at_181 (XT.ii_gt_t q181) (pc' := 188) (by decide) rfl ?_
            refine F_iconst X373 (v := (0 : Int32)) at_188 rfl (pc' := 189) rfl ?_
            refine F_istore X373 at_189 (l' := #[.val (.int p0), .val (.int p1), .val (.int p2), .val (.int p3), .val (.int p4), .val (.int p5), .val (.int (3 : Int32)), .val (.int c0), .val (.int c1), .val (.int c2), .val (.ref b242), .val (.ref b266), .val (.int (3 : Int32)), .val (.int (0 : Int32))]) rfl (pc' := 191) rfl ?_
            refine F_aload X373 at_191 rfl rfl (pc' := 193) rfl ?_
            refine F_iload X373 at_193 rfl (pc' := 195) rfl ?_
            refine F_iload X373 at_195 rfl (pc' := 197) rfl ?_
            refine F_static X373 (rm := rm_hasl) at_197 (hw _ (List.mem_of_getElem? (i := 36) rfl)) (hw _ (List.mem_of_getElem? (i := 37) rfl)) (hw _ (List.mem_of_getElem? (i := 38) rfl)) (hw _ (List.mem_of_getElem? (i := 39) rfl)) (by decide) (argsL := [(.ref b266), (.int p4), (.int p5)]) (st := []) rfl (ct_hasl l Z a0 hw G1 G3 OS hEL hSA b266 t280 [c0, c1, c2] p4 p5 X373.old S282 (Nat.le_of_ble_eq_true rfl)) (lenOf (pd_19) rfl) rfl (by decide) (by decide) (by decide) (Nat.le_of_ble_eq_true rfl) [] (fun _ _ q => by obtain ⟨_, _, e, _, _, _⟩ := q; exact own_ks e) (sf0)  (pc' := 200) rfl ?_
            intro T417 _ X418 hQ419
            obtain ⟨z416, rfl, e420, Az416, Bz416, Cz416⟩ := hQ419
            rw [← e420] at Arv_285 S282
            have hct : cpw (Int32.ofNat ([c0, c1, c2] : List Int32).length) [c0, c1, c2] = (3 : Int32) := by rw [cpw3, if_neg (fun q => Hc0 q.1), if_neg (fun q => Hc1 q.1)]; rfl
            rw [hct] at Az416 Bz416 Cz416
            obtain rfl := Bz416 q174 q181
            show EndW p e below s Z _ _ _ T417 (mkF m 200 #[.val (.int p0), .val (.int p1), .val (.int p2), .val (.int p3), .val (.int p4), .val (.int p5), .val (.int (3 : Int32)), .val (.int c0), .val (.int c1), .val (.int c2), .val (.ref b242), .val (.ref b266), .val (.int (3 : Int32)), .val (.int (0 : Int32))] [(.int (0 : Int32))])
            refine F_iload X418 at_200 rfl (pc' := 202) rfl ?_
            refine F_icF X418 at_202 (XT.ii_ne_f (by decide)) (pc' := 205) rfl ?_
            refine F_iconst X418 (v := (1 : Int32)) at_205 rfl (pc' := 206) rfl ?_
            refine F_goto X418 at_206 (pc' := 210) (by decide) rfl ?_
            exact F_ireturnN X418 (t := .boolean) at_210 rfl (by simp) (by decide) (by decide) (rfl)
          · skip
            refine F_icF X373 at_181 (XT.ii_gt_f q181) (pc' := 184) rfl ?_
            refine F_iconst X373 (v := (1 : Int32)) at_184 rfl (pc' := 185) rfl ?_
            refine F_goto X373 at_185 (pc' := 189) (by decide) rfl ?_
            refine F_istore X373 at_189 (l' := #[.val (.int p0), .val (.int p1), .val (.int p2), .val (.int p3), .val (.int p4), .val (.int p5), .val (.int (3 : Int32)), .val (.int c0), .val (.int c1), .val (.int c2), .val (.ref b242), .val (.ref b266), .val (.int (3 : Int32)), .val (.int (1 : Int32))]) rfl (pc' := 191) rfl ?_
            refine F_aload X373 at_191 rfl rfl (pc' := 193) rfl ?_
            refine F_iload X373 at_193 rfl (pc' := 195) rfl ?_
            refine F_iload X373 at_195 rfl (pc' := 197) rfl ?_
            refine F_static X373 (rm := rm_hasl) at_197 (hw _ (List.mem_of_getElem? (i := 36) rfl)) (hw _ (List.mem_of_getElem? (i := 37) rfl)) (hw _ (List.mem_of_getElem? (i := 38) rfl)) (hw _ (List.mem_of_getElem? (i := 39) rfl)) (by decide) (argsL := [(.ref b266), (.int p4), (.int p5)]) (st := []) rfl (ct_hasl l Z a0 hw G1 G3 OS hEL hSA b266 t280 [c0, c1, c2] p4 p5 X373.old S282 (Nat.le_of_ble_eq_true rfl)) (lenOf (pd_19) rfl) rfl (by decide) (by decide) (by decide) (Nat.le_of_ble_eq_true rfl) [] (fun _ _ q => by obtain ⟨_, _, e, _, _, _⟩ := q; exact own_ks e) (sf0)  (pc' := 200) rfl ?_
            intro T422 _ X423 hQ424
            obtain ⟨z421, rfl, e425, Az421, Bz421, Cz421⟩ := hQ424
            rw [← e425] at Arv_285 S282
            have hct : cpw (Int32.ofNat ([c0, c1, c2] : List Int32).length) [c0, c1, c2] = (3 : Int32) := by rw [cpw3, if_neg (fun q => Hc0 q.1), if_neg (fun q => Hc1 q.1)]; rfl
            rw [hct] at Az421 Bz421 Cz421
            obtain rfl := Cz421 q174 q181
            show EndW p e below s Z _ _ _ T422 (mkF m 200 #[.val (.int p0), .val (.int p1), .val (.int p2), .val (.int p3), .val (.int p4), .val (.int p5), .val (.int (3 : Int32)), .val (.int c0), .val (.int c1), .val (.int c2), .val (.ref b242), .val (.ref b266), .val (.int (3 : Int32)), .val (.int (1 : Int32))] [(.int (1 : Int32))])
            refine F_iload X423 at_200 rfl (pc' := 202) rfl ?_
            refine F_icF X423 at_202 (XT.ii_ne_f (by decide)) (pc' := 205) rfl ?_
            refine F_iconst X423 (v := (1 : Int32)) at_205 rfl (pc' := 206) rfl ?_
            refine F_goto X423 at_206 (pc' := 210) (by decide) rfl ?_
            exact F_ireturnN X423 (t := .boolean) at_210 rfl (by simp) (by decide) (by decide) (rfl)
set_option maxRecDepth 65536 in
set_option maxHeartbeats 40000000 in
theorem comes_1 {Post : Tables → Env → Array Value → State → Outcome → State → Prop} (hpost : ∀ tb e args s v u, (limb_1_1.after args s (.returned v) u = true ∧ limb_1_2.after args s (.returned v) u = true ∧ True) → ReturnedEndW s (.returned v) u (Jvm.fieldLocs frame_1_writes args s ++ Jvm.arrayLocs frame_1_arrays args s ++ Jvm.staticLocs frame_1_statics s) 24 1152 → Post tb e args s (.returned v) u) :
    ArmFor flags0 classFile x code maxLocals ret World_1 tables_1 room_1 Calls_1 rest_1 Pre_1 Post := by
  intro l hfl _ _ p e ha hc hk s m args below hf hA hF happ hP
  obtain ⟨hcalls, hrest, hpre⟩ := hP
  obtain ⟨-, -, -, hnamed, -, -, -, hat⟩ := (Spec.applies_iff hf).mp happ
  obtain ⟨hg, hn⟩ := and_e (Cond.before_iff.mp (show (Jvm.Cond.and given_1 narrow_1).before args s = true from hpre))
  obtain ⟨hcnt, g0⟩ := and_e hg
  obtain ⟨i0, g1⟩ := and_e g0
  obtain ⟨i1, g2⟩ := and_e g1
  obtain ⟨i2, g3⟩ := and_e g2
  obtain ⟨i3, g4⟩ := and_e g3
  obtain ⟨i4, g5⟩ := and_e g4
  obtain ⟨w0, w1, w2, w3, w4, w5, rfl⟩ : ∃ w0 w1 w2 w3 w4 w5 : Value, args = #[w0, w1, w2, w3, w4, w5] := by
    have hs : args.size = 6 := by simpa [Cond.value, given_1] using hcnt
    obtain ⟨L⟩ := args
    match L, hs with
    | [w0, w1, w2, w3, w4, w5], _ => exact ⟨w0, w1, w2, w3, w4, w5, rfl⟩
  have hw := fun d (hd : d ∈ tables_1) => atoms_spec (ws := Jvm.Cond.code x code maxLocals ret :: tables_1) hat d (List.mem_cons_of_mem _ hd)
  obtain ⟨hsets, hown0⟩ := atoms_of _ (rest_1_c_eq ▸ (show rest_1_c.before _ s = true from hrest))
  have hr0 := Cond.before_iff.mp hown0
  have hfit : Fit s := fun {y c} hc i hi => by
    obtain ⟨ha, rfl⟩ := Array.getElem?_eq_some_iff.mp hc
    have q := List.all_eq_true.mp ((Array.all_eq_true_iff_forall_mem.mp hF) _ (Array.getElem_mem ha)) i (List.mem_range.mpr hi)
    simpa [Array.getElem?_eq_getElem hi] using q
  obtain ⟨x0, ex0⟩ := is_v i0
  obtain rfl : w0 = (.int x0) := Option.some.inj ex0
  obtain ⟨x1, ex1⟩ := is_v i1
  obtain rfl : w1 = (.int x1) := Option.some.inj ex1
  obtain ⟨x2, ex2⟩ := is_v i2
  obtain rfl : w2 = (.int x2) := Option.some.inj ex2
  obtain ⟨x3, ex3⟩ := is_v i3
  obtain rfl : w3 = (.int x3) := Option.some.inj ex3
  obtain ⟨x4, ex4⟩ := is_v i4
  obtain rfl : w4 = (.int x4) := Option.some.inj ex4
  obtain ⟨x5, ex5⟩ := is_v g5
  obtain rfl : w5 = (.int x5) := Option.some.inj ex5
  have n5 := not_v (Cond.before_iff.mp (hsets _ (List.mem_of_getElem? (i := 2) rfl)))
  obtain ⟨g1, eg1⟩ := is_v (Cond.before_iff.mp (hsets _ (List.mem_of_getElem? (i := 1) rfl)))
  have S12 : Sta s s.heap "java/lang/String" "COMPACT_STRINGS" "Z" (.int g1) := Sta.start eg1 (Or.inl (hsets _ (List.mem_of_getElem? (i := 0) rfl)))
  obtain ⟨g3, eg3, r15⟩ := isR_v (Cond.before_iff.mp (hsets _ (List.mem_of_getElem? (i := 8) rfl)))
  have S16 : Sta s s.heap "jdk/internal/util/Preconditions" "SIOOBE_FORMATTER" "Ljava/util/function/BiFunction;" g3 := Sta.start eg3 (Or.inl (hsets _ (List.mem_of_getElem? (i := 7) rfl)))
  have c17 : ¬ (g1 = (0 : Int32)) := gotF (Cond.eq_ints eg1 (Term.int_eval (0))) n5
  have SA : Sta s s.heap "java/lang/StringUTF16" "$assertionsDisabled" "Z" (.int 1) := Sta.start (eqv_i (Term.int_eval (1)) (Cond.before_iff.mp (hsets _ (List.mem_of_getElem? (i := 12) rfl)))) (Or.inl (hsets _ (List.mem_of_getElem? (i := 11) rfl)))
  have SH : Sta s s.heap "java/lang/StringUTF16" "HI_BYTE_SHIFT" "I" (.int 0) := Sta.start (eqv_i (Term.int_eval (0)) (Cond.before_iff.mp (hsets _ (List.mem_of_getElem? (i := 15) rfl)))) (Or.inl (hsets _ (List.mem_of_getElem? (i := 14) rfl)))
  have SL : Sta s s.heap "java/lang/StringUTF16" "LO_BYTE_SHIFT" "I" (.int 8) := Sta.start (eqv_i (Term.int_eval (8)) (Cond.before_iff.mp (hsets _ (List.mem_of_getElem? (i := 18) rfl)))) (Or.inl (hsets _ (List.mem_of_getElem? (i := 17) rfl)))
  have hEL : EW s #[(.int x0), (.int x1), (.int x2), (.int x3), (.int x4), (.int x5)] EL := by
    exact (EW.cons (hw _ (List.mem_of_getElem? (i := 105) rfl)) (by decide +kernel) EW.nil)
  have hSA : ∀ d ∈ Bundle.stringAtoms, d.before #[(.int x0), (.int x1), (.int x2), (.int x3), (.int x4), (.int x5)] s = true := fun d hd => hw d ((by decide +kernel : ∀ d ∈ Bundle.stringAtoms, d ∈ tables_1) d hd)
  have hCH : CHv s EL s.vm s.heap := CHv.start hEL (fun p hp => hcalls.1 p hp) (hsets _ (List.mem_of_getElem? (i := 2) rfl)) (hw _ (List.mem_of_getElem? (i := 25) rfl)) (hw _ (List.mem_of_getElem? (i := 8) rfl))
  obtain ⟨n, o, h1, h2, h3, _, L, rfl, ⟨N, -, rfl⟩, -, hq⟩ := ct_law l s _ hw x0 x1 x2 x3 x4 x5 g1 g3 ⟨Nat.le_refl _, fun _ _ q => q⟩ ⟨S12, c17, S16, r15, SA, SH, SL⟩ hEL hSA tables_1 p e ha hc hk s m _ below hf ((Spec.applies_iff_loose hf).mp happ).1 ⟨rfl, State.Warmed39.refl s, rfl, hCH⟩ trivial
  refine ⟨n, _, h1, h2, h3, hpost _ _ _ _ _ _ ⟨Cond.after_iff.mpr rfl, Cond.after_iff.mpr (eq_i res_at (Term.int_eval (1)) rfl), trivial⟩ ⟨hq.1, hq.2.1, hq.2.2.1, (hq.2.2.2.sift fun y hy => Or.inr (N y hy)).mono (by decide) (by decide)⟩⟩
theorem main_1_1 : Claimed_1_1 := comes_1 fun _ _ _ _ _ _ h hF => ⟨h.1, hF⟩
theorem main_1_2 : Claimed_1_2 := comes_1 fun _ _ _ _ _ _ h hF => ⟨h.2.1, hF⟩
end Jvm.Pilot.@@N@@
namespace Jvm.Pilot.@@N@@
open Jvm Jvm.ClassFile Sem Op Lib Jvm.Free Jvm.Stand Jvm.Pilot.@@N@@.Jvm.D
/-! MADE BY PROGRAM (witnessworld.py) out of the Statement's table words and the real class files: 22 classes; the members and pool entries that the words name. The judged class is class 1, her method 4. -/
namespace start1
open Jvm.ClassFile
def u (s : String) : CpInfo := .utf8 (stringToUtf16 s)
/-- a pool by its gaps: so many unusable entries, then the entry; so many at the end -/
def gap : Nat → List CpInfo → List CpInfo
  | 0, r => r
  | n + 1, r => .unusable :: gap n r
def poolList (es : List (Nat × CpInfo)) (last : Nat) : List CpInfo := es.foldr (fun e r => gap e.1 (e.2 :: r)) (gap last [])
def pool (es : List (Nat × CpInfo)) (last : Nat) : Array CpInfo := ⟨poolList es last⟩
def fileOf (pool : Array CpInfo) (this : Nat) (attrs : Array Attribute := #[]) (ms : Array MethodInfo := #[]) (fl : Nat := 33) (sup : Nat := 0) (ifs : Array Nat := #[]) (fds : Array FieldInfo := #[]) : ClassFile where
  minorVersion := 0
  majorVersion := 65
  constantPool := pool
  accessFlags := fl
  thisClass := this
  superClass := sup
  interfaces := ifs
  fields := fds
  methods := ms
  attributes := attrs
def plain (name : String) (sup : Option ClassId) : Class where
  name := name
  kind := .ordinary
  loader := none
  accessFlags := 33
  super := sup
  interfaces := #[]
  cf := none
  fields := #[]
  methods := #[]
  instanceTypes := #[]
  staticTypes := #[]
  resolved := #[]
  callSites := []
  init := .initialized
  statics := none
  mirror := none

def pool0 : Array CpInfo := pool [(5, u "<init>"), (0, u "()V"), (1, .class_ 10), (1, u "java/lang/Object")] 113

def k0c0 : Code := { maxStack := 0, maxLocals := 1, code := object_method_1_code, exceptionTable := #[], attributes := #[] }
def k0m0 : Method := { name := "<init>", desc := "()V", sig := { parameters := [], returnType := none }, accessFlags := 1, code := some k0c0 }
/-- java/lang/Object -/
def k0 : Class := { plain "java/lang/Object" none with
  accessFlags := 33
  interfaces := #[]
  cf := some (fileOf pool0 8 #[] #[{ accessFlags := 1, nameIndex := 5, descriptorIndex := 6, attributes := #[] }] 33 0 #[] #[])
  fields := #[]
  methods := #[k0m0]
  instanceTypes := #[]
  staticTypes := #[]
  resolved := Array.replicate 124 none
  statics := none }

def pool1 : Array CpInfo := pool [(2, .class_ 4), (1, u "java/lang/Object"), (0, u "<init>"), (0, u "()V"), (0, .integer 55296), (0, .integer 56320), (0, .integer 65535), (0, .integer 56319), (0, .integer 57343), (0, .methodref 13 14), (0, .class_ 15), (0, .nameAndType 16 17), (0, u "com/example/panoptes/panoptes/TextHasLengthPinLaw"), (0, u "draw"), (0, u "(I)C"), (0, .class_ 19), (0, u "java/lang/String"), (0, .methodref 18 21), (0, .nameAndType 5 22), (0, u "([C)V"), (0, .methodref 13 24), (0, .nameAndType 25 26), (0, u "isHigh"), (0, u "(C)Z"), (0, .methodref 13 28), (0, .nameAndType 29 26), (0, u "isLow"), (0, .methodref 31 32), (0, .class_ 33), (0, .nameAndType 34 35), (0, u "com/example/panoptes/panoptes/Text"), (0, u "hasLength"), (0, u "(Ljava/lang/String;II)Z"), (3, u "law"), (0, u "(IIIIII)Z")] 4

def k1m0 : Method := { name := "<init>", desc := "()V", sig := { parameters := [], returnType := none }, accessFlags := 2, code := none }
def k1c1 : Code := { maxStack := 3, maxLocals := 3, code := method_2_code, exceptionTable := #[], attributes := #[] }
def k1m1 : Method := { name := "draw", desc := "(I)C", sig := { parameters := [.int], returnType := some .char }, accessFlags := 10, code := some k1c1 }
def k1c2 : Code := { maxStack := 2, maxLocals := 1, code := method_3_code, exceptionTable := #[], attributes := #[] }
def k1m2 : Method := { name := "isHigh", desc := "(C)Z", sig := { parameters := [.char], returnType := some .boolean }, accessFlags := 10, code := some k1c2 }
def k1c3 : Code := { maxStack := 2, maxLocals := 1, code := method_4_code, exceptionTable := #[], attributes := #[] }
def k1m3 : Method := { name := "isLow", desc := "(C)Z", sig := { parameters := [.char], returnType := some .boolean }, accessFlags := 10, code := some k1c3 }
def k1c4 : Code := { maxStack := 4, maxLocals := 14, code := code, exceptionTable := #[], attributes := #[] }
def k1m4 : Method := { name := "law", desc := "(IIIIII)Z", sig := { parameters := [.int, .int, .int, .int, .int, .int], returnType := some .boolean }, accessFlags := 9, code := some k1c4 }
/-- com/example/panoptes/panoptes/TextHasLengthPinLaw -/
def k1 : Class := { plain "com/example/panoptes/panoptes/TextHasLengthPinLaw" (some 0) with
  accessFlags := 49
  interfaces := #[]
  cf := some (fileOf pool1 13 #[] #[{ accessFlags := 2, nameIndex := 5, descriptorIndex := 6, attributes := #[] }, { accessFlags := 10, nameIndex := 16, descriptorIndex := 17, attributes := #[] }, { accessFlags := 10, nameIndex := 25, descriptorIndex := 26, attributes := #[] }, { accessFlags := 10, nameIndex := 29, descriptorIndex := 26, attributes := #[] }, { accessFlags := 9, nameIndex := 39, descriptorIndex := 40, attributes := #[] }] 49 2 #[] #[])
  fields := #[]
  methods := #[k1m0, k1m1, k1m2, k1m3, k1m4]
  instanceTypes := #[]
  staticTypes := #[]
  resolved := Array.replicate 45 none
  statics := none }

def pool2 : Array CpInfo := pool [(1, .class_ 2), (0, u "java/io/Serializable"), (0, .class_ 4), (0, u "java/lang/Object")] 2

/-- java/io/Serializable -/
def k2 : Class := { plain "java/io/Serializable" (some 0) with
  accessFlags := 1537
  interfaces := #[]
  cf := some (fileOf pool2 1 #[] #[] 1537 3 #[] #[])
  fields := #[]
  methods := #[]
  instanceTypes := #[]
  staticTypes := #[]
  resolved := Array.replicate 7 none
  statics := none }

def pool3 : Array CpInfo := pool [(1, .class_ 2), (0, u "java/lang/Comparable"), (0, .class_ 4), (0, u "java/lang/Object")] 7

/-- java/lang/Comparable -/
def k3 : Class := { plain "java/lang/Comparable" (some 0) with
  accessFlags := 1537
  interfaces := #[]
  cf := some (fileOf pool3 1 #[] #[] 1537 3 #[] #[])
  fields := #[]
  methods := #[]
  instanceTypes := #[]
  staticTypes := #[]
  resolved := Array.replicate 12 none
  statics := none }

def pool4 : Array CpInfo := pool [(2, .class_ 4), (1, u "java/lang/CharSequence"), (42, .class_ 48), (0, u "java/lang/CharSequence$1CodePointIterator"), (10, .class_ 60), (0, u "java/lang/CharSequence$1CharIterator"), (5, .class_ 67), (0, u "java/lang/Object")] 63

/-- java/lang/CharSequence -/
def k4 : Class := { plain "java/lang/CharSequence" (some 0) with
  accessFlags := 1537
  interfaces := #[]
  cf := some (fileOf pool4 2 #[.nestMembers #[47, 59]] #[] 1537 66 #[] #[])
  fields := #[]
  methods := #[]
  instanceTypes := #[]
  staticTypes := #[]
  resolved := Array.replicate 131 none
  statics := none }

def pool5 : Array CpInfo := pool [(1, .class_ 2), (0, u "java/lang/constant/Constable"), (0, .class_ 4), (0, u "java/lang/Object")] 6

/-- java/lang/constant/Constable -/
def k5 : Class := { plain "java/lang/constant/Constable" (some 0) with
  accessFlags := 1537
  interfaces := #[]
  cf := some (fileOf pool5 1 #[] #[] 1537 3 #[] #[])
  fields := #[]
  methods := #[]
  instanceTypes := #[]
  staticTypes := #[]
  resolved := Array.replicate 11 none
  statics := none }

def pool6 : Array CpInfo := pool [(1, .class_ 2), (0, u "java/lang/constant/ConstantDesc"), (0, .class_ 4), (0, u "java/lang/Object")] 32

/-- java/lang/constant/ConstantDesc -/
def k6 : Class := { plain "java/lang/constant/ConstantDesc" (some 0) with
  accessFlags := 1537
  interfaces := #[]
  cf := some (fileOf pool6 1 #[] #[] 1537 3 #[] #[])
  fields := #[]
  methods := #[]
  instanceTypes := #[]
  staticTypes := #[]
  resolved := Array.replicate 37 none
  statics := none }

def pool7 : Array CpInfo := pool [(1, .methodref 2 3), (0, .class_ 4), (0, .nameAndType 5 6), (0, u "java/lang/Object"), (0, u "<init>"), (0, u "()V"), (0, .string 8), (0, u ""), (0, .fieldref 10 11), (0, .class_ 12), (0, .nameAndType 13 14), (0, u "java/lang/String"), (0, u "value"), (0, u "[B"), (0, .fieldref 10 16), (0, .nameAndType 17 18), (0, u "coder"), (0, u "B"), (2, u "hash"), (0, u "I"), (2, u "hashIsZero"), (0, u "Z"), (0, .methodref 10 28), (0, .nameAndType 5 29), (0, u "([CIILjava/lang/Void;)V"), (7, u "(III)I"), (0, .fieldref 10 39), (0, .nameAndType 40 26), (0, u "COMPACT_STRINGS"), (1, .class_ 44), (1, u "java/lang/StringUTF16"), (0, u "compress"), (1, .methodref 42 48), (0, .nameAndType 49 50), (0, u "coderFromArrayLen"), (0, u "([BI)B"), (28, .class_ 81), (1, u "java/util/Objects"), (15, u "([BII)I"), (44, u "()Z"), (34, .methodref 42 178), (0, .nameAndType 45 179), (0, u "([CII)[B"), (154, u "()I"), (0, .methodref 10 336), (0, .nameAndType 17 337), (0, u "()B"), (154, .methodref 10 493), (0, .nameAndType 494 142), (0, u "isLatin1"), (10, .methodref 10 506), (0, .nameAndType 507 334), (0, u "length"), (3, .methodref 79 512), (0, .nameAndType 513 37), (0, u "checkFromToIndex"), (0, .methodref 42 515), (0, .nameAndType 516 97), (0, u "codePointCount"), (58, .class_ 576), (0, u "java/lang/CharSequence"), (22, u "CASE_INSENSITIVE_ORDER"), (0, u "Ljava/util/Comparator;"), (35, u "(II)I"), (373, u "([C)V"), (90, u "serialPersistentFields"), (0, u "[Ljava/io/ObjectStreamField;"), (0, .class_ 1104), (0, u "java/lang/String$CaseInsensitiveComparator"), (1, .class_ 1107), (0, u "java/io/Serializable"), (0, .class_ 1109), (0, u "java/lang/Comparable"), (0, .class_ 1111), (0, u "java/lang/constant/Constable"), (0, .class_ 1113), (0, u "java/lang/constant/ConstantDesc"), (2, u "serialVersionUID"), (0, u "J"), (3, u "REPL"), (0, u "C"), (2, u "LATIN1"), (1, u "UTF16")] 323

def k7m0 : Method := { name := "<init>", desc := "()V", sig := { parameters := [], returnType := none }, accessFlags := 1, code := none }
def k7c1 : Code := { maxStack := 5, maxLocals := 2, code := jdk_42_method_3_code, exceptionTable := #[], attributes := #[] }
def k7m1 : Method := { name := "<init>", desc := "([C)V", sig := { parameters := [(.array .char)], returnType := none }, accessFlags := 1, code := some k7c1 }
def k7c2 : Code := { maxStack := 2, maxLocals := 1, code := jdk_42_method_54_code, exceptionTable := #[], attributes := #[] }
def k7m2 : Method := { name := "length", desc := "()I", sig := { parameters := [], returnType := some .int }, accessFlags := 1, code := some k7c2 }
def k7c3 : Code := { maxStack := 3, maxLocals := 3, code := jdk_42_method_59_code, exceptionTable := #[], attributes := #[] }
def k7m3 : Method := { name := "codePointCount", desc := "(II)I", sig := { parameters := [.int, .int], returnType := some .int }, accessFlags := 1, code := some k7c3 }
def k7c4 : Code := { maxStack := 4, maxLocals := 6, code := jdk_42_method_149_code, exceptionTable := #[], attributes := #[] }
def k7m4 : Method := { name := "<init>", desc := "([CIILjava/lang/Void;)V", sig := { parameters := [(.array .char), .int, .int, (.object "java/lang/Void")], returnType := none }, accessFlags := 2, code := some k7c4 }
def k7c5 : Code := { maxStack := 1, maxLocals := 1, code := jdk_42_method_152_code, exceptionTable := #[], attributes := #[] }
def k7m5 : Method := { name := "coder", desc := "()B", sig := { parameters := [], returnType := some .byte }, accessFlags := 0, code := some k7c5 }
def k7c6 : Code := { maxStack := 1, maxLocals := 1, code := jdk_42_method_154_code, exceptionTable := #[], attributes := #[] }
def k7m6 : Method := { name := "isLatin1", desc := "()Z", sig := { parameters := [], returnType := some .boolean }, accessFlags := 0, code := some k7c6 }
/-- java/lang/String -/
def k7 : Class := { plain "java/lang/String" (some 0) with
  accessFlags := 49
  interfaces := #[2, 3, 4, 5, 6]
  cf := some (fileOf pool7 10 #[.nestMembers #[1103]] #[{ accessFlags := 1, nameIndex := 5, descriptorIndex := 6, attributes := #[] }, { accessFlags := 1, nameIndex := 5, descriptorIndex := 1010, attributes := #[] }, { accessFlags := 1, nameIndex := 507, descriptorIndex := 334, attributes := #[] }, { accessFlags := 1, nameIndex := 516, descriptorIndex := 636, attributes := #[] }, { accessFlags := 2, nameIndex := 5, descriptorIndex := 29, attributes := #[] }, { accessFlags := 0, nameIndex := 17, descriptorIndex := 337, attributes := #[] }, { accessFlags := 0, nameIndex := 494, descriptorIndex := 142, attributes := #[] }] 49 2 #[1106, 1108, 575, 1110, 1112] #[{ accessFlags := 18, nameIndex := 13, descriptorIndex := 14, attributes := #[] }, { accessFlags := 18, nameIndex := 17, descriptorIndex := 18, attributes := #[] }, { accessFlags := 2, nameIndex := 21, descriptorIndex := 22, attributes := #[] }, { accessFlags := 2, nameIndex := 25, descriptorIndex := 26, attributes := #[] }, { accessFlags := 26, nameIndex := 1116, descriptorIndex := 1117, attributes := #[] }, { accessFlags := 24, nameIndex := 40, descriptorIndex := 26, attributes := #[] }, { accessFlags := 26, nameIndex := 1101, descriptorIndex := 1102, attributes := #[] }, { accessFlags := 26, nameIndex := 1121, descriptorIndex := 1122, attributes := #[] }, { accessFlags := 25, nameIndex := 599, descriptorIndex := 600, attributes := #[] }, { accessFlags := 24, nameIndex := 1125, descriptorIndex := 18, attributes := #[] }, { accessFlags := 24, nameIndex := 1127, descriptorIndex := 18, attributes := #[] }])
  fields := #[{ name := "value", type := (.array .byte), accessFlags := 18, slot := 0, constantValue := 0 }, { name := "coder", type := .byte, accessFlags := 18, slot := 1, constantValue := 0 }, { name := "hash", type := .int, accessFlags := 2, slot := 2, constantValue := 0 }, { name := "hashIsZero", type := .boolean, accessFlags := 2, slot := 3, constantValue := 0 }, { name := "serialVersionUID", type := .long, accessFlags := 26, slot := 0, constantValue := 0 }, { name := "COMPACT_STRINGS", type := .boolean, accessFlags := 24, slot := 1, constantValue := 0 }, { name := "serialPersistentFields", type := (.array (.object "java/io/ObjectStreamField")), accessFlags := 26, slot := 2, constantValue := 0 }, { name := "REPL", type := .char, accessFlags := 26, slot := 3, constantValue := 0 }, { name := "CASE_INSENSITIVE_ORDER", type := (.object "java/util/Comparator"), accessFlags := 25, slot := 4, constantValue := 0 }, { name := "LATIN1", type := .byte, accessFlags := 24, slot := 5, constantValue := 0 }, { name := "UTF16", type := .byte, accessFlags := 24, slot := 6, constantValue := 0 }]
  methods := #[k7m0, k7m1, k7m2, k7m3, k7m4, k7m5, k7m6]
  instanceTypes := #[(.array .byte), .byte, .int, .boolean]
  staticTypes := #[.long, .boolean, (.array (.object "java/io/ObjectStreamField")), .char, (.object "java/util/Comparator"), .byte, .byte]
  resolved := Array.replicate 1451 none
  statics := some 0 }

def pool8 : Array CpInfo := pool [(6, .class_ 8), (1, u "java/lang/Object"), (0, u "<init>"), (0, u "()V"), (0, .methodref 12 13), (0, .class_ 14), (0, .nameAndType 15 16), (0, u "java/lang/StringUTF16"), (0, u "newBytesLength"), (0, u "(I)I"), (3, .integer 1073741823), (23, .fieldref 12 45), (0, .nameAndType 46 47), (0, u "$assertionsDisabled"), (0, u "Z"), (11, .fieldref 12 60), (0, .nameAndType 61 62), (0, u "HI_BYTE_SHIFT"), (0, u "I"), (0, .fieldref 12 64), (0, .nameAndType 65 62), (0, u "LO_BYTE_SHIFT"), (5, .methodref 12 72), (0, .nameAndType 73 74), (0, u "getChar"), (0, u "([BI)C"), (0, .methodref 76 77), (0, .class_ 78), (0, .nameAndType 79 80), (0, u "java/lang/Character"), (0, u "isHighSurrogate"), (0, u "(C)Z"), (0, .methodref 76 82), (0, .nameAndType 83 80), (0, u "isLowSurrogate"), (7, u "([BIIZ)I"), (8, .methodref 12 101), (0, .nameAndType 102 91), (0, u "codePointCount"), (4, .methodref 12 108), (0, .nameAndType 109 110), (0, u "newBytesFor"), (0, u "(I)[B"), (0, .methodref 12 112), (0, .nameAndType 113 114), (0, u "putChar"), (0, u "([BII)V"), (0, .methodref 12 116), (0, .nameAndType 117 118), (0, u "compress"), (0, u "([CI[BII)I"), (0, .methodref 12 120), (0, .nameAndType 121 122), (0, u "toBytes"), (0, u "([CII)[B"), (127, u "([BII)I"), (10, u "coderFromArrayLen"), (0, u "([BI)B"), (106, .class_ 371), (1, u "java/lang/StringUTF16$LinesSpliterator"), (58, u "MAX_LENGTH"), (196, .class_ 628), (0, u "java/lang/StringUTF16$CodePointsSpliterator"), (0, .class_ 630), (0, u "java/lang/StringUTF16$CharsSpliterator")] 4

def k8m0 : Method := { name := "<init>", desc := "()V", sig := { parameters := [], returnType := none }, accessFlags := 0, code := none }
def k8c1 : Code := { maxStack := 1, maxLocals := 1, code := jdk_52_method_2_code, exceptionTable := #[], attributes := #[] }
def k8m1 : Method := { name := "newBytesFor", desc := "(I)[B", sig := { parameters := [.int], returnType := some (.array .byte) }, accessFlags := 9, code := some k8c1 }
def k8c2 : Code := { maxStack := 4, maxLocals := 1, code := jdk_52_method_3_code, exceptionTable := #[], attributes := #[] }
def k8m2 : Method := { name := "newBytesLength", desc := "(I)I", sig := { parameters := [.int], returnType := some .int }, accessFlags := 9, code := some k8c2 }
def k8c3 : Code := { maxStack := 4, maxLocals := 3, code := jdk_52_method_4_code, exceptionTable := #[], attributes := #[] }
def k8m3 : Method := { name := "putChar", desc := "([BII)V", sig := { parameters := [(.array .byte), .int, .int], returnType := none }, accessFlags := 8, code := some k8c3 }
def k8c4 : Code := { maxStack := 3, maxLocals := 2, code := jdk_52_method_5_code, exceptionTable := #[], attributes := #[] }
def k8m4 : Method := { name := "getChar", desc := "([BI)C", sig := { parameters := [(.array .byte), .int], returnType := some .char }, accessFlags := 8, code := some k8c4 }
def k8c5 : Code := { maxStack := 3, maxLocals := 6, code := jdk_52_method_11_code, exceptionTable := #[], attributes := #[] }
def k8m5 : Method := { name := "codePointCount", desc := "([BIIZ)I", sig := { parameters := [(.array .byte), .int, .int, .boolean], returnType := some .int }, accessFlags := 10, code := some k8c5 }
def k8c6 : Code := { maxStack := 4, maxLocals := 3, code := jdk_52_method_12_code, exceptionTable := #[], attributes := #[] }
def k8m6 : Method := { name := "codePointCount", desc := "([BII)I", sig := { parameters := [(.array .byte), .int, .int], returnType := some .int }, accessFlags := 9, code := some k8c6 }
def k8c7 : Code := { maxStack := 4, maxLocals := 5, code := jdk_52_method_14_code, exceptionTable := #[], attributes := #[] }
def k8m7 : Method := { name := "toBytes", desc := "([CII)[B", sig := { parameters := [(.array .char), .int, .int], returnType := some (.array .byte) }, accessFlags := 9, code := some k8c7 }
def k8c8 : Code := { maxStack := 2, maxLocals := 2, code := jdk_52_method_15_code, exceptionTable := #[], attributes := #[] }
def k8m8 : Method := { name := "coderFromArrayLen", desc := "([BI)B", sig := { parameters := [(.array .byte), .int], returnType := some .byte }, accessFlags := 8, code := some k8c8 }
def k8c9 : Code := { maxStack := 5, maxLocals := 6, code := jdk_52_method_16_code, exceptionTable := #[], attributes := #[] }
def k8m9 : Method := { name := "compress", desc := "([CII)[B", sig := { parameters := [(.array .char), .int, .int], returnType := some (.array .byte) }, accessFlags := 9, code := some k8c9 }
def k8c10 : Code := { maxStack := 3, maxLocals := 7, code := jdk_52_method_21_code, exceptionTable := #[], attributes := #[] }
def k8m10 : Method := { name := "compress", desc := "([CI[BII)I", sig := { parameters := [(.array .char), .int, (.array .byte), .int, .int], returnType := some .int }, accessFlags := 9, code := some k8c10 }
/-- java/lang/StringUTF16 -/
def k8 : Class := { plain "java/lang/StringUTF16" (some 0) with
  accessFlags := 48
  interfaces := #[]
  cf := some (fileOf pool8 12 #[.nestMembers #[627, 629, 369]] #[{ accessFlags := 0, nameIndex := 9, descriptorIndex := 10, attributes := #[] }, { accessFlags := 9, nameIndex := 109, descriptorIndex := 110, attributes := #[] }, { accessFlags := 9, nameIndex := 15, descriptorIndex := 16, attributes := #[] }, { accessFlags := 8, nameIndex := 113, descriptorIndex := 114, attributes := #[] }, { accessFlags := 8, nameIndex := 73, descriptorIndex := 74, attributes := #[] }, { accessFlags := 10, nameIndex := 102, descriptorIndex := 91, attributes := #[] }, { accessFlags := 9, nameIndex := 102, descriptorIndex := 250, attributes := #[] }, { accessFlags := 9, nameIndex := 121, descriptorIndex := 122, attributes := #[] }, { accessFlags := 8, nameIndex := 261, descriptorIndex := 262, attributes := #[] }, { accessFlags := 9, nameIndex := 117, descriptorIndex := 122, attributes := #[] }, { accessFlags := 9, nameIndex := 117, descriptorIndex := 118, attributes := #[] }] 48 6 #[] #[{ accessFlags := 26, nameIndex := 61, descriptorIndex := 62, attributes := #[] }, { accessFlags := 26, nameIndex := 65, descriptorIndex := 62, attributes := #[] }, { accessFlags := 24, nameIndex := 430, descriptorIndex := 62, attributes := #[] }, { accessFlags := 4120, nameIndex := 46, descriptorIndex := 47, attributes := #[] }])
  fields := #[{ name := "HI_BYTE_SHIFT", type := .int, accessFlags := 26, slot := 0, constantValue := 0 }, { name := "LO_BYTE_SHIFT", type := .int, accessFlags := 26, slot := 1, constantValue := 0 }, { name := "MAX_LENGTH", type := .int, accessFlags := 24, slot := 2, constantValue := 0 }, { name := "$assertionsDisabled", type := .boolean, accessFlags := 4120, slot := 3, constantValue := 0 }]
  methods := #[k8m0, k8m1, k8m2, k8m3, k8m4, k8m5, k8m6, k8m7, k8m8, k8m9, k8m10]
  instanceTypes := #[]
  staticTypes := #[.int, .int, .int, .boolean]
  resolved := Array.replicate 635 none
  statics := some 1 }

def pool9 : Array CpInfo := pool [(2, .class_ 4), (1, u "java/lang/Object"), (0, u "<init>"), (0, u "()V"), (43, .methodref 51 52), (0, .class_ 53), (0, .nameAndType 54 55), (0, u "java/lang/String"), (0, u "length"), (0, u "()I"), (0, .methodref 51 57), (0, .nameAndType 58 59), (0, u "codePointCount"), (0, u "(II)I"), (0, .class_ 61), (0, u "com/example/panoptes/panoptes/Text"), (7, u "hasLength"), (0, u "(Ljava/lang/String;II)Z")] 3

def k9m0 : Method := { name := "<init>", desc := "()V", sig := { parameters := [], returnType := none }, accessFlags := 2, code := none }
def k9c1 : Code := { maxStack := 3, maxLocals := 4, code := prog_17_method_3_code, exceptionTable := #[], attributes := #[] }
def k9m1 : Method := { name := "hasLength", desc := "(Ljava/lang/String;II)Z", sig := { parameters := [(.object "java/lang/String"), .int, .int], returnType := some .boolean }, accessFlags := 8, code := some k9c1 }
/-- com/example/panoptes/panoptes/Text -/
def k9 : Class := { plain "com/example/panoptes/panoptes/Text" (some 0) with
  accessFlags := 32
  interfaces := #[]
  cf := some (fileOf pool9 60 #[] #[{ accessFlags := 2, nameIndex := 5, descriptorIndex := 6, attributes := #[] }, { accessFlags := 8, nameIndex := 69, descriptorIndex := 70, attributes := #[] }] 32 2 #[] #[])
  fields := #[]
  methods := #[k9m0, k9m1]
  instanceTypes := #[]
  staticTypes := #[]
  resolved := Array.replicate 74 none
  statics := none }

def pool10 : Array CpInfo := pool [(2, .class_ 4), (1, u "java/lang/Object"), (0, u "<init>"), (0, u "()V"), (35, .class_ 44), (1, u "java/util/Objects"), (61, .class_ 108), (1, u "jdk/internal/util/Preconditions"), (2, .methodref 106 112), (0, .nameAndType 113 114), (0, u "checkFromToIndex"), (0, u "(IIILjava/util/function/BiFunction;)I"), (60, u "(III)I")] 8

def k10m0 : Method := { name := "<init>", desc := "()V", sig := { parameters := [], returnType := none }, accessFlags := 2, code := none }
def k10c1 : Code := { maxStack := 4, maxLocals := 3, code := jdk_31_method_18_code, exceptionTable := #[], attributes := #[] }
def k10m1 : Method := { name := "checkFromToIndex", desc := "(III)I", sig := { parameters := [.int, .int, .int], returnType := some .int }, accessFlags := 9, code := some k10c1 }
/-- java/util/Objects -/
def k10 : Class := { plain "java/util/Objects" (some 0) with
  accessFlags := 49
  interfaces := #[]
  cf := some (fileOf pool10 42 #[] #[{ accessFlags := 2, nameIndex := 5, descriptorIndex := 6, attributes := #[] }, { accessFlags := 9, nameIndex := 113, descriptorIndex := 175, attributes := #[] }] 49 2 #[] #[])
  fields := #[]
  methods := #[k10m0, k10m1]
  instanceTypes := #[]
  staticTypes := #[]
  resolved := Array.replicate 184 none
  statics := none }

def pool11 : Array CpInfo := pool [(2, .class_ 4), (1, u "java/lang/Object"), (0, u "<init>"), (0, u "()V"), (17, .class_ 26), (1, u "jdk/internal/util/Preconditions"), (20, u "checkFromToIndex"), (7, .class_ 56), (0, u "jdk/internal/util/Preconditions$4"), (57, .class_ 115), (0, u "jdk/internal/util/Preconditions$1"), (7, u "SIOOBE_FORMATTER"), (0, u "Ljava/util/function/BiFunction;"), (0, .class_ 126), (0, u "jdk/internal/util/Preconditions$2"), (3, u "AIOOBE_FORMATTER"), (0, .class_ 132), (0, u "jdk/internal/util/Preconditions$3"), (3, u "IOOBE_FORMATTER"), (46, u "(IIILjava/util/function/BiFunction;)I")] 10

def k11m0 : Method := { name := "<init>", desc := "()V", sig := { parameters := [], returnType := none }, accessFlags := 1, code := none }
def k11c1 : Code := { maxStack := 4, maxLocals := 4, code := jdk_41_method_12_code, exceptionTable := #[], attributes := #[] }
def k11m1 : Method := { name := "checkFromToIndex", desc := "(IIILjava/util/function/BiFunction;)I", sig := { parameters := [.int, .int, .int, (.object "java/util/function/BiFunction")], returnType := some .int }, accessFlags := 9, code := some k11c1 }
/-- jdk/internal/util/Preconditions -/
def k11 : Class := { plain "jdk/internal/util/Preconditions" (some 0) with
  accessFlags := 33
  interfaces := #[]
  cf := some (fileOf pool11 24 #[.nestMembers #[55, 131, 125, 114]] #[{ accessFlags := 1, nameIndex := 5, descriptorIndex := 6, attributes := #[] }, { accessFlags := 9, nameIndex := 47, descriptorIndex := 183, attributes := #[] }] 33 2 #[] #[{ accessFlags := 25, nameIndex := 123, descriptorIndex := 124, attributes := #[] }, { accessFlags := 25, nameIndex := 130, descriptorIndex := 124, attributes := #[] }, { accessFlags := 25, nameIndex := 136, descriptorIndex := 124, attributes := #[] }])
  fields := #[{ name := "SIOOBE_FORMATTER", type := (.object "java/util/function/BiFunction"), accessFlags := 25, slot := 0, constantValue := 0 }, { name := "AIOOBE_FORMATTER", type := (.object "java/util/function/BiFunction"), accessFlags := 25, slot := 1, constantValue := 0 }, { name := "IOOBE_FORMATTER", type := (.object "java/util/function/BiFunction"), accessFlags := 25, slot := 2, constantValue := 0 }]
  methods := #[k11m0, k11m1]
  instanceTypes := #[]
  staticTypes := #[(.object "java/util/function/BiFunction"), (.object "java/util/function/BiFunction"), (.object "java/util/function/BiFunction")]
  resolved := Array.replicate 194 none
  statics := some 2 }

def pool12 : Array CpInfo := pool [(1, .class_ 2), (0, u "java/lang/Character"), (18, u "value"), (0, u "C"), (19, .class_ 44), (1, u "java/lang/Object"), (3, .class_ 50), (1, u "java/lang/Character$CharacterCache"), (24, .integer 55296), (0, .integer 56320), (0, .integer 57344), (2, u "isHighSurrogate"), (0, u "(C)Z"), (2, u "isLowSurrogate"), (199, u "$assertionsDisabled"), (0, u "Z"), (21, .class_ 309), (1, u "java/lang/Character$UnicodeBlock"), (73, u "TYPE"), (0, u "Ljava/lang/Class;"), (0, .class_ 386), (0, u "java/io/Serializable"), (0, .class_ 388), (0, u "java/lang/Comparable"), (0, .class_ 390), (0, u "java/lang/constant/Constable"), (0, u "MIN_RADIX"), (0, u "I"), (2, u "MAX_RADIX"), (1, u "MIN_VALUE"), (1, u "MAX_VALUE"), (3, u "UNASSIGNED"), (0, u "B"), (0, u "UPPERCASE_LETTER"), (1, u "LOWERCASE_LETTER"), (0, u "TITLECASE_LETTER"), (1, u "MODIFIER_LETTER"), (1, u "OTHER_LETTER"), (1, u "NON_SPACING_MARK"), (1, u "ENCLOSING_MARK"), (1, u "COMBINING_SPACING_MARK"), (1, u "DECIMAL_DIGIT_NUMBER"), (1, u "LETTER_NUMBER"), (1, u "OTHER_NUMBER"), (1, u "SPACE_SEPARATOR"), (1, u "LINE_SEPARATOR"), (1, u "PARAGRAPH_SEPARATOR"), (1, u "CONTROL"), (1, u "FORMAT"), (1, u "PRIVATE_USE"), (1, u "SURROGATE"), (1, u "DASH_PUNCTUATION"), (1, u "START_PUNCTUATION"), (1, u "END_PUNCTUATION"), (1, u "CONNECTOR_PUNCTUATION"), (1, u "OTHER_PUNCTUATION"), (1, u "MATH_SYMBOL"), (1, u "CURRENCY_SYMBOL"), (1, u "MODIFIER_SYMBOL"), (1, u "OTHER_SYMBOL"), (1, u "INITIAL_QUOTE_PUNCTUATION"), (1, u "FINAL_QUOTE_PUNCTUATION"), (1, u "ERROR"), (1, u "DIRECTIONALITY_UNDEFINED"), (0, u "DIRECTIONALITY_LEFT_TO_RIGHT"), (0, u "DIRECTIONALITY_RIGHT_TO_LEFT"), (0, u "DIRECTIONALITY_RIGHT_TO_LEFT_ARABIC"), (0, u "DIRECTIONALITY_EUROPEAN_NUMBER"), (0, u "DIRECTIONALITY_EUROPEAN_NUMBER_SEPARATOR"), (0, u "DIRECTIONALITY_EUROPEAN_NUMBER_TERMINATOR"), (0, u "DIRECTIONALITY_ARABIC_NUMBER"), (0, u "DIRECTIONALITY_COMMON_NUMBER_SEPARATOR"), (0, u "DIRECTIONALITY_NONSPACING_MARK"), (0, u "DIRECTIONALITY_BOUNDARY_NEUTRAL"), (0, u "DIRECTIONALITY_PARAGRAPH_SEPARATOR"), (0, u "DIRECTIONALITY_SEGMENT_SEPARATOR"), (0, u "DIRECTIONALITY_WHITESPACE"), (0, u "DIRECTIONALITY_OTHER_NEUTRALS"), (0, u "DIRECTIONALITY_LEFT_TO_RIGHT_EMBEDDING"), (0, u "DIRECTIONALITY_LEFT_TO_RIGHT_OVERRIDE"), (0, u "DIRECTIONALITY_RIGHT_TO_LEFT_EMBEDDING"), (0, u "DIRECTIONALITY_RIGHT_TO_LEFT_OVERRIDE"), (1, u "DIRECTIONALITY_POP_DIRECTIONAL_FORMAT"), (0, u "DIRECTIONALITY_LEFT_TO_RIGHT_ISOLATE"), (0, u "DIRECTIONALITY_RIGHT_TO_LEFT_ISOLATE"), (0, u "DIRECTIONALITY_FIRST_STRONG_ISOLATE"), (0, u "DIRECTIONALITY_POP_DIRECTIONAL_ISOLATE"), (0, u "MIN_HIGH_SURROGATE"), (0, u "MAX_HIGH_SURROGATE"), (1, u "MIN_LOW_SURROGATE"), (0, u "MAX_LOW_SURROGATE"), (1, u "MIN_SURROGATE"), (0, u "MAX_SURROGATE"), (0, u "MIN_SUPPLEMENTARY_CODE_POINT"), (0, u "MIN_CODE_POINT"), (0, u "MAX_CODE_POINT"), (1, u "serialVersionUID"), (0, u "J"), (2, u "SIZE"), (0, u "BYTES"), (88, .class_ 596), (0, u "java/lang/Character$UnicodeScript"), (0, .class_ 598), (0, u "java/lang/Character$Subset")] 5

def k12c0 : Code := { maxStack := 2, maxLocals := 1, code := jdk_89_method_14_code, exceptionTable := #[], attributes := #[] }
def k12m0 : Method := { name := "isHighSurrogate", desc := "(C)Z", sig := { parameters := [.char], returnType := some .boolean }, accessFlags := 9, code := some k12c0 }
def k12c1 : Code := { maxStack := 2, maxLocals := 1, code := jdk_89_method_15_code, exceptionTable := #[], attributes := #[] }
def k12m1 : Method := { name := "isLowSurrogate", desc := "(C)Z", sig := { parameters := [.char], returnType := some .boolean }, accessFlags := 9, code := some k12c1 }
/-- java/lang/Character -/
def k12 : Class := { plain "java/lang/Character" (some 0) with
  accessFlags := 49
  interfaces := #[2, 3, 5]
  cf := some (fileOf pool12 1 #[.nestMembers #[48, 595, 307, 597]] #[{ accessFlags := 9, nameIndex := 80, descriptorIndex := 81, attributes := #[] }, { accessFlags := 9, nameIndex := 84, descriptorIndex := 81, attributes := #[] }] 49 42 #[385, 387, 389] #[{ accessFlags := 25, nameIndex := 391, descriptorIndex := 392, attributes := #[] }, { accessFlags := 25, nameIndex := 395, descriptorIndex := 392, attributes := #[] }, { accessFlags := 25, nameIndex := 397, descriptorIndex := 22, attributes := #[] }, { accessFlags := 25, nameIndex := 399, descriptorIndex := 22, attributes := #[] }, { accessFlags := 25, nameIndex := 383, descriptorIndex := 384, attributes := #[] }, { accessFlags := 25, nameIndex := 403, descriptorIndex := 404, attributes := #[] }, { accessFlags := 25, nameIndex := 405, descriptorIndex := 404, attributes := #[] }, { accessFlags := 25, nameIndex := 407, descriptorIndex := 404, attributes := #[] }, { accessFlags := 25, nameIndex := 408, descriptorIndex := 404, attributes := #[] }, { accessFlags := 25, nameIndex := 410, descriptorIndex := 404, attributes := #[] }, { accessFlags := 25, nameIndex := 412, descriptorIndex := 404, attributes := #[] }, { accessFlags := 25, nameIndex := 414, descriptorIndex := 404, attributes := #[] }, { accessFlags := 25, nameIndex := 416, descriptorIndex := 404, attributes := #[] }, { accessFlags := 25, nameIndex := 418, descriptorIndex := 404, attributes := #[] }, { accessFlags := 25, nameIndex := 420, descriptorIndex := 404, attributes := #[] }, { accessFlags := 25, nameIndex := 422, descriptorIndex := 404, attributes := #[] }, { accessFlags := 25, nameIndex := 424, descriptorIndex := 404, attributes := #[] }, { accessFlags := 25, nameIndex := 426, descriptorIndex := 404, attributes := #[] }, { accessFlags := 25, nameIndex := 428, descriptorIndex := 404, attributes := #[] }, { accessFlags := 25, nameIndex := 430, descriptorIndex := 404, attributes := #[] }, { accessFlags := 25, nameIndex := 432, descriptorIndex := 404, attributes := #[] }, { accessFlags := 25, nameIndex := 434, descriptorIndex := 404, attributes := #[] }, { accessFlags := 25, nameIndex := 436, descriptorIndex := 404, attributes := #[] }, { accessFlags := 25, nameIndex := 438, descriptorIndex := 404, attributes := #[] }, { accessFlags := 25, nameIndex := 440, descriptorIndex := 404, attributes := #[] }, { accessFlags := 25, nameIndex := 442, descriptorIndex := 404, attributes := #[] }, { accessFlags := 25, nameIndex := 444, descriptorIndex := 404, attributes := #[] }, { accessFlags := 25, nameIndex := 446, descriptorIndex := 404, attributes := #[] }, { accessFlags := 25, nameIndex := 448, descriptorIndex := 404, attributes := #[] }, { accessFlags := 25, nameIndex := 450, descriptorIndex := 404, attributes := #[] }, { accessFlags := 25, nameIndex := 452, descriptorIndex := 404, attributes := #[] }, { accessFlags := 25, nameIndex := 454, descriptorIndex := 404, attributes := #[] }, { accessFlags := 25, nameIndex := 456, descriptorIndex := 404, attributes := #[] }, { accessFlags := 25, nameIndex := 458, descriptorIndex := 404, attributes := #[] }, { accessFlags := 25, nameIndex := 460, descriptorIndex := 404, attributes := #[] }, { accessFlags := 24, nameIndex := 462, descriptorIndex := 392, attributes := #[] }, { accessFlags := 25, nameIndex := 464, descriptorIndex := 404, attributes := #[] }, { accessFlags := 25, nameIndex := 465, descriptorIndex := 404, attributes := #[] }, { accessFlags := 25, nameIndex := 466, descriptorIndex := 404, attributes := #[] }, { accessFlags := 25, nameIndex := 467, descriptorIndex := 404, attributes := #[] }, { accessFlags := 25, nameIndex := 468, descriptorIndex := 404, attributes := #[] }, { accessFlags := 25, nameIndex := 469, descriptorIndex := 404, attributes := #[] }, { accessFlags := 25, nameIndex := 470, descriptorIndex := 404, attributes := #[] }, { accessFlags := 25, nameIndex := 471, descriptorIndex := 404, attributes := #[] }, { accessFlags := 25, nameIndex := 472, descriptorIndex := 404, attributes := #[] }, { accessFlags := 25, nameIndex := 473, descriptorIndex := 404, attributes := #[] }, { accessFlags := 25, nameIndex := 474, descriptorIndex := 404, attributes := #[] }, { accessFlags := 25, nameIndex := 475, descriptorIndex := 404, attributes := #[] }, { accessFlags := 25, nameIndex := 476, descriptorIndex := 404, attributes := #[] }, { accessFlags := 25, nameIndex := 477, descriptorIndex := 404, attributes := #[] }, { accessFlags := 25, nameIndex := 478, descriptorIndex := 404, attributes := #[] }, { accessFlags := 25, nameIndex := 479, descriptorIndex := 404, attributes := #[] }, { accessFlags := 25, nameIndex := 480, descriptorIndex := 404, attributes := #[] }, { accessFlags := 25, nameIndex := 481, descriptorIndex := 404, attributes := #[] }, { accessFlags := 25, nameIndex := 482, descriptorIndex := 404, attributes := #[] }, { accessFlags := 25, nameIndex := 484, descriptorIndex := 404, attributes := #[] }, { accessFlags := 25, nameIndex := 485, descriptorIndex := 404, attributes := #[] }, { accessFlags := 25, nameIndex := 486, descriptorIndex := 404, attributes := #[] }, { accessFlags := 25, nameIndex := 487, descriptorIndex := 404, attributes := #[] }, { accessFlags := 25, nameIndex := 488, descriptorIndex := 404, attributes := #[] }, { accessFlags := 25, nameIndex := 489, descriptorIndex := 22, attributes := #[] }, { accessFlags := 25, nameIndex := 490, descriptorIndex := 22, attributes := #[] }, { accessFlags := 25, nameIndex := 492, descriptorIndex := 22, attributes := #[] }, { accessFlags := 25, nameIndex := 493, descriptorIndex := 22, attributes := #[] }, { accessFlags := 25, nameIndex := 495, descriptorIndex := 22, attributes := #[] }, { accessFlags := 25, nameIndex := 496, descriptorIndex := 22, attributes := #[] }, { accessFlags := 25, nameIndex := 497, descriptorIndex := 392, attributes := #[] }, { accessFlags := 25, nameIndex := 498, descriptorIndex := 392, attributes := #[] }, { accessFlags := 25, nameIndex := 499, descriptorIndex := 392, attributes := #[] }, { accessFlags := 18, nameIndex := 21, descriptorIndex := 22, attributes := #[] }, { accessFlags := 26, nameIndex := 501, descriptorIndex := 502, attributes := #[] }, { accessFlags := 25, nameIndex := 505, descriptorIndex := 392, attributes := #[] }, { accessFlags := 25, nameIndex := 506, descriptorIndex := 392, attributes := #[] }, { accessFlags := 4120, nameIndex := 284, descriptorIndex := 285, attributes := #[] }])
  fields := #[{ name := "MIN_RADIX", type := .int, accessFlags := 25, slot := 0, constantValue := 0 }, { name := "MAX_RADIX", type := .int, accessFlags := 25, slot := 1, constantValue := 0 }, { name := "MIN_VALUE", type := .char, accessFlags := 25, slot := 2, constantValue := 0 }, { name := "MAX_VALUE", type := .char, accessFlags := 25, slot := 3, constantValue := 0 }, { name := "TYPE", type := (.object "java/lang/Class"), accessFlags := 25, slot := 4, constantValue := 0 }, { name := "UNASSIGNED", type := .byte, accessFlags := 25, slot := 5, constantValue := 0 }, { name := "UPPERCASE_LETTER", type := .byte, accessFlags := 25, slot := 6, constantValue := 0 }, { name := "LOWERCASE_LETTER", type := .byte, accessFlags := 25, slot := 7, constantValue := 0 }, { name := "TITLECASE_LETTER", type := .byte, accessFlags := 25, slot := 8, constantValue := 0 }, { name := "MODIFIER_LETTER", type := .byte, accessFlags := 25, slot := 9, constantValue := 0 }, { name := "OTHER_LETTER", type := .byte, accessFlags := 25, slot := 10, constantValue := 0 }, { name := "NON_SPACING_MARK", type := .byte, accessFlags := 25, slot := 11, constantValue := 0 }, { name := "ENCLOSING_MARK", type := .byte, accessFlags := 25, slot := 12, constantValue := 0 }, { name := "COMBINING_SPACING_MARK", type := .byte, accessFlags := 25, slot := 13, constantValue := 0 }, { name := "DECIMAL_DIGIT_NUMBER", type := .byte, accessFlags := 25, slot := 14, constantValue := 0 }, { name := "LETTER_NUMBER", type := .byte, accessFlags := 25, slot := 15, constantValue := 0 }, { name := "OTHER_NUMBER", type := .byte, accessFlags := 25, slot := 16, constantValue := 0 }, { name := "SPACE_SEPARATOR", type := .byte, accessFlags := 25, slot := 17, constantValue := 0 }, { name := "LINE_SEPARATOR", type := .byte, accessFlags := 25, slot := 18, constantValue := 0 }, { name := "PARAGRAPH_SEPARATOR", type := .byte, accessFlags := 25, slot := 19, constantValue := 0 }, { name := "CONTROL", type := .byte, accessFlags := 25, slot := 20, constantValue := 0 }, { name := "FORMAT", type := .byte, accessFlags := 25, slot := 21, constantValue := 0 }, { name := "PRIVATE_USE", type := .byte, accessFlags := 25, slot := 22, constantValue := 0 }, { name := "SURROGATE", type := .byte, accessFlags := 25, slot := 23, constantValue := 0 }, { name := "DASH_PUNCTUATION", type := .byte, accessFlags := 25, slot := 24, constantValue := 0 }, { name := "START_PUNCTUATION", type := .byte, accessFlags := 25, slot := 25, constantValue := 0 }, { name := "END_PUNCTUATION", type := .byte, accessFlags := 25, slot := 26, constantValue := 0 }, { name := "CONNECTOR_PUNCTUATION", type := .byte, accessFlags := 25, slot := 27, constantValue := 0 }, { name := "OTHER_PUNCTUATION", type := .byte, accessFlags := 25, slot := 28, constantValue := 0 }, { name := "MATH_SYMBOL", type := .byte, accessFlags := 25, slot := 29, constantValue := 0 }, { name := "CURRENCY_SYMBOL", type := .byte, accessFlags := 25, slot := 30, constantValue := 0 }, { name := "MODIFIER_SYMBOL", type := .byte, accessFlags := 25, slot := 31, constantValue := 0 }, { name := "OTHER_SYMBOL", type := .byte, accessFlags := 25, slot := 32, constantValue := 0 }, { name := "INITIAL_QUOTE_PUNCTUATION", type := .byte, accessFlags := 25, slot := 33, constantValue := 0 }, { name := "FINAL_QUOTE_PUNCTUATION", type := .byte, accessFlags := 25, slot := 34, constantValue := 0 }, { name := "ERROR", type := .int, accessFlags := 24, slot := 35, constantValue := 0 }, { name := "DIRECTIONALITY_UNDEFINED", type := .byte, accessFlags := 25, slot := 36, constantValue := 0 }, { name := "DIRECTIONALITY_LEFT_TO_RIGHT", type := .byte, accessFlags := 25, slot := 37, constantValue := 0 }, { name := "DIRECTIONALITY_RIGHT_TO_LEFT", type := .byte, accessFlags := 25, slot := 38, constantValue := 0 }, { name := "DIRECTIONALITY_RIGHT_TO_LEFT_ARABIC", type := .byte, accessFlags := 25, slot := 39, constantValue := 0 }, { name := "DIRECTIONALITY_EUROPEAN_NUMBER", type := .byte, accessFlags := 25, slot := 40, constantValue := 0 }, { name := "DIRECTIONALITY_EUROPEAN_NUMBER_SEPARATOR", type := .byte, accessFlags := 25, slot := 41, constantValue := 0 }, { name := "DIRECTIONALITY_EUROPEAN_NUMBER_TERMINATOR", type := .byte, accessFlags := 25, slot := 42, constantValue := 0 }, { name := "DIRECTIONALITY_ARABIC_NUMBER", type := .byte, accessFlags := 25, slot := 43, constantValue := 0 }, { name := "DIRECTIONALITY_COMMON_NUMBER_SEPARATOR", type := .byte, accessFlags := 25, slot := 44, constantValue := 0 }, { name := "DIRECTIONALITY_NONSPACING_MARK", type := .byte, accessFlags := 25, slot := 45, constantValue := 0 }, { name := "DIRECTIONALITY_BOUNDARY_NEUTRAL", type := .byte, accessFlags := 25, slot := 46, constantValue := 0 }, { name := "DIRECTIONALITY_PARAGRAPH_SEPARATOR", type := .byte, accessFlags := 25, slot := 47, constantValue := 0 }, { name := "DIRECTIONALITY_SEGMENT_SEPARATOR", type := .byte, accessFlags := 25, slot := 48, constantValue := 0 }, { name := "DIRECTIONALITY_WHITESPACE", type := .byte, accessFlags := 25, slot := 49, constantValue := 0 }, { name := "DIRECTIONALITY_OTHER_NEUTRALS", type := .byte, accessFlags := 25, slot := 50, constantValue := 0 }, { name := "DIRECTIONALITY_LEFT_TO_RIGHT_EMBEDDING", type := .byte, accessFlags := 25, slot := 51, constantValue := 0 }, { name := "DIRECTIONALITY_LEFT_TO_RIGHT_OVERRIDE", type := .byte, accessFlags := 25, slot := 52, constantValue := 0 }, { name := "DIRECTIONALITY_RIGHT_TO_LEFT_EMBEDDING", type := .byte, accessFlags := 25, slot := 53, constantValue := 0 }, { name := "DIRECTIONALITY_RIGHT_TO_LEFT_OVERRIDE", type := .byte, accessFlags := 25, slot := 54, constantValue := 0 }, { name := "DIRECTIONALITY_POP_DIRECTIONAL_FORMAT", type := .byte, accessFlags := 25, slot := 55, constantValue := 0 }, { name := "DIRECTIONALITY_LEFT_TO_RIGHT_ISOLATE", type := .byte, accessFlags := 25, slot := 56, constantValue := 0 }, { name := "DIRECTIONALITY_RIGHT_TO_LEFT_ISOLATE", type := .byte, accessFlags := 25, slot := 57, constantValue := 0 }, { name := "DIRECTIONALITY_FIRST_STRONG_ISOLATE", type := .byte, accessFlags := 25, slot := 58, constantValue := 0 }, { name := "DIRECTIONALITY_POP_DIRECTIONAL_ISOLATE", type := .byte, accessFlags := 25, slot := 59, constantValue := 0 }, { name := "MIN_HIGH_SURROGATE", type := .char, accessFlags := 25, slot := 60, constantValue := 0 }, { name := "MAX_HIGH_SURROGATE", type := .char, accessFlags := 25, slot := 61, constantValue := 0 }, { name := "MIN_LOW_SURROGATE", type := .char, accessFlags := 25, slot := 62, constantValue := 0 }, { name := "MAX_LOW_SURROGATE", type := .char, accessFlags := 25, slot := 63, constantValue := 0 }, { name := "MIN_SURROGATE", type := .char, accessFlags := 25, slot := 64, constantValue := 0 }, { name := "MAX_SURROGATE", type := .char, accessFlags := 25, slot := 65, constantValue := 0 }, { name := "MIN_SUPPLEMENTARY_CODE_POINT", type := .int, accessFlags := 25, slot := 66, constantValue := 0 }, { name := "MIN_CODE_POINT", type := .int, accessFlags := 25, slot := 67, constantValue := 0 }, { name := "MAX_CODE_POINT", type := .int, accessFlags := 25, slot := 68, constantValue := 0 }, { name := "value", type := .char, accessFlags := 18, slot := 0, constantValue := 0 }, { name := "serialVersionUID", type := .long, accessFlags := 26, slot := 69, constantValue := 0 }, { name := "SIZE", type := .int, accessFlags := 25, slot := 70, constantValue := 0 }, { name := "BYTES", type := .int, accessFlags := 25, slot := 71, constantValue := 0 }, { name := "$assertionsDisabled", type := .boolean, accessFlags := 4120, slot := 72, constantValue := 0 }]
  methods := #[k12m0, k12m1]
  instanceTypes := #[.char]
  staticTypes := #[.int, .int, .char, .char, (.object "java/lang/Class"), .byte, .byte, .byte, .byte, .byte, .byte, .byte, .byte, .byte, .byte, .byte, .byte, .byte, .byte, .byte, .byte, .byte, .byte, .byte, .byte, .byte, .byte, .byte, .byte, .byte, .byte, .byte, .byte, .byte, .byte, .int, .byte, .byte, .byte, .byte, .byte, .byte, .byte, .byte, .byte, .byte, .byte, .byte, .byte, .byte, .byte, .byte, .byte, .byte, .byte, .byte, .byte, .byte, .byte, .byte, .char, .char, .char, .char, .char, .char, .int, .int, .int, .long, .int, .int, .boolean]
  resolved := Array.replicate 604 none
  statics := none }

def pool13 : Array CpInfo := pool [(4, .class_ 6), (1, u "java/lang/Object"), (0, u "<init>"), (0, u "()V"), (5, .class_ 16), (1, u "java/lang/StringLatin1"), (104, u "$assertionsDisabled"), (0, u "Z"), (98, .class_ 223), (1, u "java/lang/StringLatin1$LinesSpliterator"), (166, .class_ 391), (0, u "java/lang/StringLatin1$CharsSpliterator")] 3

def k13m0 : Method := { name := "<init>", desc := "()V", sig := { parameters := [], returnType := none }, accessFlags := 0, code := none }
/-- java/lang/StringLatin1 -/
def k13 : Class := { plain "java/lang/StringLatin1" (some 0) with
  accessFlags := 48
  interfaces := #[]
  cf := some (fileOf pool13 14 #[.nestMembers #[390, 221]] #[{ accessFlags := 0, nameIndex := 7, descriptorIndex := 8, attributes := #[] }] 48 4 #[] #[{ accessFlags := 4120, nameIndex := 121, descriptorIndex := 122, attributes := #[] }])
  fields := #[{ name := "$assertionsDisabled", type := .boolean, accessFlags := 4120, slot := 0, constantValue := 0 }]
  methods := #[k13m0]
  instanceTypes := #[]
  staticTypes := #[.boolean]
  resolved := Array.replicate 395 none
  statics := none }

def pool14 : Array CpInfo := pool [(9, u "<init>"), (6, .class_ 18), (1, u "java/lang/Object"), (0, u "()V"), (1, .class_ 23), (1, u "jdk/internal/util/ArraysSupport"), (0, u "LOG2_ARRAY_LONG_INDEX_SCALE"), (0, u "I"), (2, u "U"), (0, u "Ljdk/internal/misc/Unsafe;"), (8, u "BIG_ENDIAN"), (0, u "Z"), (8, u "LOG2_BYTE_BIT_SIZE"), (4, u "LOG2_ARRAY_INT_INDEX_SCALE"), (54, u "JLA"), (0, u "Ljdk/internal/access/JavaLangAccess;"), (11, u "LOG2_ARRAY_BOOLEAN_INDEX_SCALE"), (9, u "LOG2_ARRAY_BYTE_INDEX_SCALE"), (5, u "LOG2_ARRAY_CHAR_INDEX_SCALE"), (5, u "LOG2_ARRAY_SHORT_INDEX_SCALE"), (18, u "LOG2_ARRAY_FLOAT_INDEX_SCALE"), (24, u "LOG2_ARRAY_DOUBLE_INDEX_SCALE"), (89, u "T_BOOLEAN"), (2, u "T_CHAR"), (1, u "T_FLOAT"), (1, u "T_DOUBLE"), (1, u "T_BYTE"), (1, u "T_SHORT"), (1, u "T_INT"), (1, u "T_LONG"), (1, u "SOFT_MAX_ARRAY_LENGTH")] 83

def k14m0 : Method := { name := "<init>", desc := "()V", sig := { parameters := [], returnType := none }, accessFlags := 2, code := none }
/-- jdk/internal/util/ArraysSupport -/
def k14 : Class := { plain "jdk/internal/util/ArraysSupport" (some 0) with
  accessFlags := 33
  interfaces := #[]
  cf := some (fileOf pool14 21 #[] #[{ accessFlags := 2, nameIndex := 9, descriptorIndex := 19, attributes := #[] }] 33 16 #[] #[{ accessFlags := 24, nameIndex := 28, descriptorIndex := 29, attributes := #[] }, { accessFlags := 26, nameIndex := 38, descriptorIndex := 39, attributes := #[] }, { accessFlags := 25, nameIndex := 121, descriptorIndex := 25, attributes := #[] }, { accessFlags := 25, nameIndex := 131, descriptorIndex := 25, attributes := #[] }, { accessFlags := 25, nameIndex := 137, descriptorIndex := 25, attributes := #[] }, { accessFlags := 25, nameIndex := 143, descriptorIndex := 25, attributes := #[] }, { accessFlags := 25, nameIndex := 53, descriptorIndex := 25, attributes := #[] }, { accessFlags := 25, nameIndex := 24, descriptorIndex := 25, attributes := #[] }, { accessFlags := 25, nameIndex := 162, descriptorIndex := 25, attributes := #[] }, { accessFlags := 25, nameIndex := 187, descriptorIndex := 25, attributes := #[] }, { accessFlags := 26, nameIndex := 48, descriptorIndex := 25, attributes := #[] }, { accessFlags := 25, nameIndex := 277, descriptorIndex := 25, attributes := #[] }, { accessFlags := 25, nameIndex := 280, descriptorIndex := 25, attributes := #[] }, { accessFlags := 25, nameIndex := 282, descriptorIndex := 25, attributes := #[] }, { accessFlags := 25, nameIndex := 284, descriptorIndex := 25, attributes := #[] }, { accessFlags := 25, nameIndex := 286, descriptorIndex := 25, attributes := #[] }, { accessFlags := 25, nameIndex := 288, descriptorIndex := 25, attributes := #[] }, { accessFlags := 25, nameIndex := 290, descriptorIndex := 25, attributes := #[] }, { accessFlags := 25, nameIndex := 292, descriptorIndex := 25, attributes := #[] }, { accessFlags := 26, nameIndex := 108, descriptorIndex := 109, attributes := #[] }, { accessFlags := 25, nameIndex := 294, descriptorIndex := 25, attributes := #[] }])
  fields := #[{ name := "U", type := (.object "jdk/internal/misc/Unsafe"), accessFlags := 24, slot := 0, constantValue := 0 }, { name := "BIG_ENDIAN", type := .boolean, accessFlags := 26, slot := 1, constantValue := 0 }, { name := "LOG2_ARRAY_BOOLEAN_INDEX_SCALE", type := .int, accessFlags := 25, slot := 2, constantValue := 0 }, { name := "LOG2_ARRAY_BYTE_INDEX_SCALE", type := .int, accessFlags := 25, slot := 3, constantValue := 0 }, { name := "LOG2_ARRAY_CHAR_INDEX_SCALE", type := .int, accessFlags := 25, slot := 4, constantValue := 0 }, { name := "LOG2_ARRAY_SHORT_INDEX_SCALE", type := .int, accessFlags := 25, slot := 5, constantValue := 0 }, { name := "LOG2_ARRAY_INT_INDEX_SCALE", type := .int, accessFlags := 25, slot := 6, constantValue := 0 }, { name := "LOG2_ARRAY_LONG_INDEX_SCALE", type := .int, accessFlags := 25, slot := 7, constantValue := 0 }, { name := "LOG2_ARRAY_FLOAT_INDEX_SCALE", type := .int, accessFlags := 25, slot := 8, constantValue := 0 }, { name := "LOG2_ARRAY_DOUBLE_INDEX_SCALE", type := .int, accessFlags := 25, slot := 9, constantValue := 0 }, { name := "LOG2_BYTE_BIT_SIZE", type := .int, accessFlags := 26, slot := 10, constantValue := 0 }, { name := "T_BOOLEAN", type := .int, accessFlags := 25, slot := 11, constantValue := 0 }, { name := "T_CHAR", type := .int, accessFlags := 25, slot := 12, constantValue := 0 }, { name := "T_FLOAT", type := .int, accessFlags := 25, slot := 13, constantValue := 0 }, { name := "T_DOUBLE", type := .int, accessFlags := 25, slot := 14, constantValue := 0 }, { name := "T_BYTE", type := .int, accessFlags := 25, slot := 15, constantValue := 0 }, { name := "T_SHORT", type := .int, accessFlags := 25, slot := 16, constantValue := 0 }, { name := "T_INT", type := .int, accessFlags := 25, slot := 17, constantValue := 0 }, { name := "T_LONG", type := .int, accessFlags := 25, slot := 18, constantValue := 0 }, { name := "JLA", type := (.object "jdk/internal/access/JavaLangAccess"), accessFlags := 26, slot := 19, constantValue := 0 }, { name := "SOFT_MAX_ARRAY_LENGTH", type := .int, accessFlags := 25, slot := 20, constantValue := 0 }]
  methods := #[k14m0]
  instanceTypes := #[]
  staticTypes := #[(.object "jdk/internal/misc/Unsafe"), .boolean, .int, .int, .int, .int, .int, .int, .int, .int, .int, .int, .int, .int, .int, .int, .int, .int, .int, (.object "jdk/internal/access/JavaLangAccess"), .int]
  resolved := Array.replicate 378 none
  statics := none }

def pool15 : Array CpInfo := pool [(1, u "java/lang/Cloneable"), (0, .class_ 1), (0, u "java/lang/Object"), (0, .class_ 3)] 3

/-- java/lang/Cloneable -/
def k15 : Class := { plain "java/lang/Cloneable" (some 0) with
  accessFlags := 1537
  interfaces := #[]
  cf := some (fileOf pool15 2 #[] #[] 1537 4 #[] #[])
  fields := #[]
  methods := #[]
  instanceTypes := #[]
  staticTypes := #[]
  resolved := Array.replicate 8 none
  statics := none }

/-- the primitive byte -/
def k16 : Class := { plain "byte" none with kind := .primitive 'B', accessFlags := 0x411 }
/-- [B -/
def k17 : Class := { plain "[B" (some 0) with kind := .array 16 .byte, interfaces := #[15, 2], accessFlags := 1041 }

/-- the primitive char -/
def k18 : Class := { plain "char" none with kind := .primitive 'C', accessFlags := 0x411 }
/-- [C -/
def k19 : Class := { plain "[C" (some 0) with kind := .array 18 .char, interfaces := #[15, 2], accessFlags := 1041 }

/-- the primitive int -/
def k20 : Class := { plain "int" none with kind := .primitive 'I', accessFlags := 0x411 }
/-- [I -/
def k21 : Class := { plain "[I" (some 0) with kind := .array 20 .int, interfaces := #[15, 2], accessFlags := 1041 }

def heap : Heap := #[{ cls := 7, slots := #[.long 0, .int 1, .null, .int 0, .null, .int 0, .int 0], vm := .statics 7 },
  { cls := 8, slots := #[.int 0, .int 8, .int 0, .int 1], vm := .statics 8 },
  { cls := 11, slots := #[.null, .null, .null], vm := .statics 11 }]
def classes : Array Class := #[k0, k1, k2, k3, k4, k5, k6, k7, k8, k9, k10, k11, k12, k13, k14, k15, k16, k17, k18, k19, k20, k21]
def interned : List (Array UInt16 × Addr) := []
def slotsUsed : Nat := 14
def theMethod : MethodId := ⟨1, 4⟩
def args0 : Array Value := #[.int 5, .int 6, .int 7, .int 8, .int 9, .int 10]
def aboutOver (below : List Frame) : State where
  vm := { classes := classes, interned := interned.toArray }
  heap := heap
  slotsUsed := slotsUsed
  threads := #[{ frames := .invoking theMethod args0 :: below }]
def below0 : List Frame := [.native { method := ⟨0, 0⟩, args := #[] }]
def about1 : State := aboutOver below0
def p0 : Program := .bare "" "" ""
def e0 : Env := launch0.env 0 0 0
theorem w_frames : about1.frames = Frame.invoking theMethod args0 :: below0 := rfl
set_option maxRecDepth 65536 in
theorem w_args : argsFit about1.vm theMethod args0 = true := by decide +kernel
set_option maxRecDepth 65536 in
theorem w_heap : heapFits about1 = true := by decide +kernel
set_option maxRecDepth 65536 in
theorem w_runnable : about1.curStatus? = some .runnable := by decide +kernel
set_option maxRecDepth 65536 in
theorem w_alone : about1.alone = true := by decide +kernel
set_option maxRecDepth 65536 in
theorem w_named : about1.methodNamed? x = some theMethod := by decide +kernel
set_option maxRecDepth 65536 in
theorem w_hears : about1.hears theMethod below0 = true := by decide +kernel
set_option maxRecDepth 65536 in
theorem w_ripe : about1.ripe theMethod args0 below0 = true := by decide +kernel
theorem w_running : about1.status = .running := rfl
set_option maxRecDepth 65536 in
theorem w_room : about1.hasRoom e0.platform room_1 = true :=
  launch0.hasRoom_least _ room_1 (by decide +kernel) (by decide +kernel) (by decide +kernel) (by decide +kernel) (by decide +kernel) (by decide +kernel)
theorem allAtoms_all (ts : List Jvm.Cond) (a : Array Jvm.Value) (st : Jvm.State) : (allAtoms ts).before a st = ts.all (fun c => c.before a st) := by
  induction ts with
  | nil => rfl
  | cons c t ih =>
    show (Jvm.Cond.and c (allAtoms t)).before a st = _
    rw [Jvm.Cond.before_and, ih, List.all_cons]
def words1 : List Jvm.Cond := Jvm.Cond.code x code maxLocals ret :: tables_1
/-- a 'code' word, met by the world's own term for the bytes: nothing is compared byte by byte -/
theorem code_word {y : MethodName} {bytes : ByteArray} {mx : Nat} {rt : Option FieldType} {a : Array Value} {s : State} {m : MethodId} {meth : Method} {c : Code} (h1 : s.methodNamed? y = some m) (h2 : s.vm.method? m = some meth) (h3 : meth.code = some c) (h4 : c.code = bytes)
    (h5 : (c.maxLocals == mx && c.exceptionTable.isEmpty && decide (c.maxStack ≤ mostOperands) && decide (meth.sig.returnType = rt) && !meth.locks && decide (parseMethodDescriptor y.desc = some meth.sig)) = true) : (Jvm.Cond.code y bytes mx rt).before a s = true := by
  simp only [Bool.and_eq_true, beq_iff_eq, Bool.not_eq_true', decide_eq_true_eq] at h5
  obtain ⟨⟨⟨⟨⟨g1, g2⟩, g3⟩, g4⟩, g5⟩, g6⟩ := h5
  simp [Cond.before, Cond.holds, Cond.value, h1, h2, h3, h4, g1, g2, g3, g4, g5, g6]
def isCode : Jvm.Cond → Bool
  | .code _ _ _ _ => true
  | _ => false
theorem all_split {L : List Jvm.Cond} {P : Jvm.Cond → Bool} (h1 : L.all (fun c => isCode c || P c) = true) (h2 : ∀ c ∈ L.filter isCode, P c = true) : L.all P = true := by
  refine List.all_eq_true.mpr fun c hc => ?_
  have h := List.all_eq_true.mp h1 c hc
  rcases Bool.eq_false_or_eq_true (isCode c) with hi | hi
  · exact h2 c (List.mem_filter.mpr ⟨hc, hi⟩)
  · simpa [hi] using h
set_option maxRecDepth 65536 in
theorem w_c0 : (Jvm.Cond.code x code maxLocals ret).before args0 about1 = true := code_word (m := ⟨1, 4⟩) (meth := k1m4) (c := k1c4) (by decide +kernel) rfl rfl rfl (by decide +kernel)
set_option maxRecDepth 65536 in
theorem w_c1 : (Jvm.Cond.code ({ cls := "com/example/panoptes/panoptes/TextHasLengthPinLaw", name := "draw", desc := "(I)C" } : Jvm.MethodName) method_2_code (3 : Nat) (Option.some Jvm.ClassFile.FieldType.char)).before args0 about1 = true := code_word (m := ⟨1, 1⟩) (meth := k1m1) (c := k1c1) (by decide +kernel) rfl rfl rfl (by decide +kernel)
set_option maxRecDepth 65536 in
theorem w_c2 : (Jvm.Cond.code ({ cls := "java/lang/String", name := "<init>", desc := "([C)V" } : Jvm.MethodName) jdk_42_method_3_code (2 : Nat) (Option.none : Option Jvm.ClassFile.FieldType)).before args0 about1 = true := code_word (m := ⟨7, 1⟩) (meth := k7m1) (c := k7c1) (by decide +kernel) rfl rfl rfl (by decide +kernel)
set_option maxRecDepth 65536 in
theorem w_c3 : (Jvm.Cond.code ({ cls := "java/lang/String", name := "<init>", desc := "([CIILjava/lang/Void;)V" } : Jvm.MethodName) jdk_42_method_149_code (6 : Nat) (Option.none : Option Jvm.ClassFile.FieldType)).before args0 about1 = true := code_word (m := ⟨7, 4⟩) (meth := k7m4) (c := k7c4) (by decide +kernel) rfl rfl rfl (by decide +kernel)
set_option maxRecDepth 65536 in
theorem w_c4 : (Jvm.Cond.code ({ cls := "java/lang/Object", name := "<init>", desc := "()V" } : Jvm.MethodName) object_method_1_code (1 : Nat) (Option.none : Option Jvm.ClassFile.FieldType)).before args0 about1 = true := code_word (m := ⟨0, 0⟩) (meth := k0m0) (c := k0c0) (by decide +kernel) rfl rfl rfl (by decide +kernel)
set_option maxRecDepth 65536 in
theorem w_c5 : (Jvm.Cond.code ({ cls := "java/lang/StringUTF16", name := "compress", desc := "([CII)[B" } : Jvm.MethodName) jdk_52_method_16_code (6 : Nat) (Option.some (Jvm.ClassFile.FieldType.array Jvm.ClassFile.FieldType.byte))).before args0 about1 = true := code_word (m := ⟨8, 9⟩) (meth := k8m9) (c := k8c9) (by decide +kernel) rfl rfl rfl (by decide +kernel)
set_option maxRecDepth 65536 in
theorem w_c6 : (Jvm.Cond.code ({ cls := "java/lang/StringUTF16", name := "compress", desc := "([CI[BII)I" } : Jvm.MethodName) jdk_52_method_21_code (7 : Nat) (Option.some Jvm.ClassFile.FieldType.int)).before args0 about1 = true := code_word (m := ⟨8, 10⟩) (meth := k8m10) (c := k8c10) (by decide +kernel) rfl rfl rfl (by decide +kernel)
set_option maxRecDepth 65536 in
theorem w_c7 : (Jvm.Cond.code ({ cls := "java/lang/StringUTF16", name := "coderFromArrayLen", desc := "([BI)B" } : Jvm.MethodName) jdk_52_method_15_code (2 : Nat) (Option.some Jvm.ClassFile.FieldType.byte)).before args0 about1 = true := code_word (m := ⟨8, 8⟩) (meth := k8m8) (c := k8c8) (by decide +kernel) rfl rfl rfl (by decide +kernel)
set_option maxRecDepth 65536 in
theorem w_c8 : (Jvm.Cond.code ({ cls := "com/example/panoptes/panoptes/Text", name := "hasLength", desc := "(Ljava/lang/String;II)Z" } : Jvm.MethodName) prog_17_method_3_code (4 : Nat) (Option.some Jvm.ClassFile.FieldType.boolean)).before args0 about1 = true := code_word (m := ⟨9, 1⟩) (meth := k9m1) (c := k9c1) (by decide +kernel) rfl rfl rfl (by decide +kernel)
set_option maxRecDepth 65536 in
theorem w_c9 : (Jvm.Cond.code ({ cls := "java/lang/String", name := "length", desc := "()I" } : Jvm.MethodName) jdk_42_method_54_code (1 : Nat) (Option.some Jvm.ClassFile.FieldType.int)).before args0 about1 = true := code_word (m := ⟨7, 2⟩) (meth := k7m2) (c := k7c2) (by decide +kernel) rfl rfl rfl (by decide +kernel)
set_option maxRecDepth 65536 in
theorem w_c10 : (Jvm.Cond.code ({ cls := "java/lang/String", name := "coder", desc := "()B" } : Jvm.MethodName) jdk_42_method_152_code (1 : Nat) (Option.some Jvm.ClassFile.FieldType.byte)).before args0 about1 = true := code_word (m := ⟨7, 5⟩) (meth := k7m5) (c := k7c5) (by decide +kernel) rfl rfl rfl (by decide +kernel)
set_option maxRecDepth 65536 in
theorem w_c11 : (Jvm.Cond.code ({ cls := "java/lang/String", name := "codePointCount", desc := "(II)I" } : Jvm.MethodName) jdk_42_method_59_code (3 : Nat) (Option.some Jvm.ClassFile.FieldType.int)).before args0 about1 = true := code_word (m := ⟨7, 3⟩) (meth := k7m3) (c := k7c3) (by decide +kernel) rfl rfl rfl (by decide +kernel)
set_option maxRecDepth 65536 in
theorem w_c12 : (Jvm.Cond.code ({ cls := "java/util/Objects", name := "checkFromToIndex", desc := "(III)I" } : Jvm.MethodName) jdk_31_method_18_code (3 : Nat) (Option.some Jvm.ClassFile.FieldType.int)).before args0 about1 = true := code_word (m := ⟨10, 1⟩) (meth := k10m1) (c := k10c1) (by decide +kernel) rfl rfl rfl (by decide +kernel)
set_option maxRecDepth 65536 in
theorem w_c13 : (Jvm.Cond.code ({ cls := "jdk/internal/util/Preconditions", name := "checkFromToIndex", desc := "(IIILjava/util/function/BiFunction;)I" } : Jvm.MethodName) jdk_41_method_12_code (4 : Nat) (Option.some Jvm.ClassFile.FieldType.int)).before args0 about1 = true := code_word (m := ⟨11, 1⟩) (meth := k11m1) (c := k11c1) (by decide +kernel) rfl rfl rfl (by decide +kernel)
set_option maxRecDepth 65536 in
theorem w_c14 : (Jvm.Cond.code ({ cls := "java/lang/String", name := "isLatin1", desc := "()Z" } : Jvm.MethodName) jdk_42_method_154_code (1 : Nat) (Option.some Jvm.ClassFile.FieldType.boolean)).before args0 about1 = true := code_word (m := ⟨7, 6⟩) (meth := k7m6) (c := k7c6) (by decide +kernel) rfl rfl rfl (by decide +kernel)
set_option maxRecDepth 65536 in
theorem w_c15 : (Jvm.Cond.code ({ cls := "java/lang/StringUTF16", name := "toBytes", desc := "([CII)[B" } : Jvm.MethodName) jdk_52_method_14_code (5 : Nat) (Option.some (Jvm.ClassFile.FieldType.array Jvm.ClassFile.FieldType.byte))).before args0 about1 = true := code_word (m := ⟨8, 7⟩) (meth := k8m7) (c := k8c7) (by decide +kernel) rfl rfl rfl (by decide +kernel)
set_option maxRecDepth 65536 in
theorem w_c16 : (Jvm.Cond.code ({ cls := "java/lang/StringUTF16", name := "newBytesFor", desc := "(I)[B" } : Jvm.MethodName) jdk_52_method_2_code (1 : Nat) (Option.some (Jvm.ClassFile.FieldType.array Jvm.ClassFile.FieldType.byte))).before args0 about1 = true := code_word (m := ⟨8, 1⟩) (meth := k8m1) (c := k8c1) (by decide +kernel) rfl rfl rfl (by decide +kernel)
set_option maxRecDepth 65536 in
theorem w_c17 : (Jvm.Cond.code ({ cls := "java/lang/StringUTF16", name := "newBytesLength", desc := "(I)I" } : Jvm.MethodName) jdk_52_method_3_code (1 : Nat) (Option.some Jvm.ClassFile.FieldType.int)).before args0 about1 = true := code_word (m := ⟨8, 2⟩) (meth := k8m2) (c := k8c2) (by decide +kernel) rfl rfl rfl (by decide +kernel)
set_option maxRecDepth 65536 in
theorem w_c18 : (Jvm.Cond.code ({ cls := "java/lang/StringUTF16", name := "putChar", desc := "([BII)V" } : Jvm.MethodName) jdk_52_method_4_code (3 : Nat) (Option.none : Option Jvm.ClassFile.FieldType)).before args0 about1 = true := code_word (m := ⟨8, 3⟩) (meth := k8m3) (c := k8c3) (by decide +kernel) rfl rfl rfl (by decide +kernel)
set_option maxRecDepth 65536 in
theorem w_c19 : (Jvm.Cond.code ({ cls := "java/lang/StringUTF16", name := "getChar", desc := "([BI)C" } : Jvm.MethodName) jdk_52_method_5_code (2 : Nat) (Option.some Jvm.ClassFile.FieldType.char)).before args0 about1 = true := code_word (m := ⟨8, 4⟩) (meth := k8m4) (c := k8c4) (by decide +kernel) rfl rfl rfl (by decide +kernel)
set_option maxRecDepth 65536 in
theorem w_c20 : (Jvm.Cond.code ({ cls := "com/example/panoptes/panoptes/TextHasLengthPinLaw", name := "isHigh", desc := "(C)Z" } : Jvm.MethodName) method_3_code (1 : Nat) (Option.some Jvm.ClassFile.FieldType.boolean)).before args0 about1 = true := code_word (m := ⟨1, 2⟩) (meth := k1m2) (c := k1c2) (by decide +kernel) rfl rfl rfl (by decide +kernel)
set_option maxRecDepth 65536 in
theorem w_c21 : (Jvm.Cond.code ({ cls := "java/lang/StringUTF16", name := "codePointCount", desc := "([BII)I" } : Jvm.MethodName) jdk_52_method_12_code (3 : Nat) (Option.some Jvm.ClassFile.FieldType.int)).before args0 about1 = true := code_word (m := ⟨8, 6⟩) (meth := k8m6) (c := k8c6) (by decide +kernel) rfl rfl rfl (by decide +kernel)
set_option maxRecDepth 65536 in
theorem w_c22 : (Jvm.Cond.code ({ cls := "java/lang/StringUTF16", name := "codePointCount", desc := "([BIIZ)I" } : Jvm.MethodName) jdk_52_method_11_code (6 : Nat) (Option.some Jvm.ClassFile.FieldType.int)).before args0 about1 = true := code_word (m := ⟨8, 5⟩) (meth := k8m5) (c := k8c5) (by decide +kernel) rfl rfl rfl (by decide +kernel)
set_option maxRecDepth 65536 in
theorem w_c23 : (Jvm.Cond.code ({ cls := "java/lang/Character", name := "isHighSurrogate", desc := "(C)Z" } : Jvm.MethodName) jdk_89_method_14_code (1 : Nat) (Option.some Jvm.ClassFile.FieldType.boolean)).before args0 about1 = true := code_word (m := ⟨12, 0⟩) (meth := k12m0) (c := k12c0) (by decide +kernel) rfl rfl rfl (by decide +kernel)
set_option maxRecDepth 65536 in
theorem w_c24 : (Jvm.Cond.code ({ cls := "com/example/panoptes/panoptes/TextHasLengthPinLaw", name := "isLow", desc := "(C)Z" } : Jvm.MethodName) method_4_code (1 : Nat) (Option.some Jvm.ClassFile.FieldType.boolean)).before args0 about1 = true := code_word (m := ⟨1, 3⟩) (meth := k1m3) (c := k1c3) (by decide +kernel) rfl rfl rfl (by decide +kernel)
set_option maxRecDepth 65536 in
theorem w_c25 : (Jvm.Cond.code ({ cls := "java/lang/Character", name := "isLowSurrogate", desc := "(C)Z" } : Jvm.MethodName) jdk_89_method_15_code (1 : Nat) (Option.some Jvm.ClassFile.FieldType.boolean)).before args0 about1 = true := code_word (m := ⟨12, 1⟩) (meth := k12m1) (c := k12c1) (by decide +kernel) rfl rfl rfl (by decide +kernel)
def codes1 : List Jvm.Cond := [Jvm.Cond.code x code maxLocals ret, Jvm.Cond.code ({ cls := "com/example/panoptes/panoptes/TextHasLengthPinLaw", name := "draw", desc := "(I)C" } : Jvm.MethodName) method_2_code (3 : Nat) (Option.some Jvm.ClassFile.FieldType.char), Jvm.Cond.code ({ cls := "java/lang/String", name := "<init>", desc := "([C)V" } : Jvm.MethodName) jdk_42_method_3_code (2 : Nat) (Option.none : Option Jvm.ClassFile.FieldType), Jvm.Cond.code ({ cls := "java/lang/String", name := "<init>", desc := "([CIILjava/lang/Void;)V" } : Jvm.MethodName) jdk_42_method_149_code (6 : Nat) (Option.none : Option Jvm.ClassFile.FieldType), Jvm.Cond.code ({ cls := "java/lang/Object", name := "<init>", desc := "()V" } : Jvm.MethodName) object_method_1_code (1 : Nat) (Option.none : Option Jvm.ClassFile.FieldType), Jvm.Cond.code ({ cls := "java/lang/StringUTF16", name := "compress", desc := "([CII)[B" } : Jvm.MethodName) jdk_52_method_16_code (6 : Nat) (Option.some (Jvm.ClassFile.FieldType.array Jvm.ClassFile.FieldType.byte)), Jvm.Cond.code ({ cls := "java/lang/StringUTF16", name := "compress", desc := "([CI[BII)I" } : Jvm.MethodName) jdk_52_method_21_code (7 : Nat) (Option.some Jvm.ClassFile.FieldType.int), Jvm.Cond.code ({ cls := "java/lang/StringUTF16", name := "coderFromArrayLen", desc := "([BI)B" } : Jvm.MethodName) jdk_52_method_15_code (2 : Nat) (Option.some Jvm.ClassFile.FieldType.byte), Jvm.Cond.code ({ cls := "com/example/panoptes/panoptes/Text", name := "hasLength", desc := "(Ljava/lang/String;II)Z" } : Jvm.MethodName) prog_17_method_3_code (4 : Nat) (Option.some Jvm.ClassFile.FieldType.boolean), Jvm.Cond.code ({ cls := "java/lang/String", name := "length", desc := "()I" } : Jvm.MethodName) jdk_42_method_54_code (1 : Nat) (Option.some Jvm.ClassFile.FieldType.int), Jvm.Cond.code ({ cls := "java/lang/String", name := "coder", desc := "()B" } : Jvm.MethodName) jdk_42_method_152_code (1 : Nat) (Option.some Jvm.ClassFile.FieldType.byte), Jvm.Cond.code ({ cls := "java/lang/String", name := "codePointCount", desc := "(II)I" } : Jvm.MethodName) jdk_42_method_59_code (3 : Nat) (Option.some Jvm.ClassFile.FieldType.int), Jvm.Cond.code ({ cls := "java/util/Objects", name := "checkFromToIndex", desc := "(III)I" } : Jvm.MethodName) jdk_31_method_18_code (3 : Nat) (Option.some Jvm.ClassFile.FieldType.int), Jvm.Cond.code ({ cls := "jdk/internal/util/Preconditions", name := "checkFromToIndex", desc := "(IIILjava/util/function/BiFunction;)I" } : Jvm.MethodName) jdk_41_method_12_code (4 : Nat) (Option.some Jvm.ClassFile.FieldType.int), Jvm.Cond.code ({ cls := "java/lang/String", name := "isLatin1", desc := "()Z" } : Jvm.MethodName) jdk_42_method_154_code (1 : Nat) (Option.some Jvm.ClassFile.FieldType.boolean), Jvm.Cond.code ({ cls := "java/lang/StringUTF16", name := "toBytes", desc := "([CII)[B" } : Jvm.MethodName) jdk_52_method_14_code (5 : Nat) (Option.some (Jvm.ClassFile.FieldType.array Jvm.ClassFile.FieldType.byte)), Jvm.Cond.code ({ cls := "java/lang/StringUTF16", name := "newBytesFor", desc := "(I)[B" } : Jvm.MethodName) jdk_52_method_2_code (1 : Nat) (Option.some (Jvm.ClassFile.FieldType.array Jvm.ClassFile.FieldType.byte)), Jvm.Cond.code ({ cls := "java/lang/StringUTF16", name := "newBytesLength", desc := "(I)I" } : Jvm.MethodName) jdk_52_method_3_code (1 : Nat) (Option.some Jvm.ClassFile.FieldType.int), Jvm.Cond.code ({ cls := "java/lang/StringUTF16", name := "putChar", desc := "([BII)V" } : Jvm.MethodName) jdk_52_method_4_code (3 : Nat) (Option.none : Option Jvm.ClassFile.FieldType), Jvm.Cond.code ({ cls := "java/lang/StringUTF16", name := "getChar", desc := "([BI)C" } : Jvm.MethodName) jdk_52_method_5_code (2 : Nat) (Option.some Jvm.ClassFile.FieldType.char), Jvm.Cond.code ({ cls := "com/example/panoptes/panoptes/TextHasLengthPinLaw", name := "isHigh", desc := "(C)Z" } : Jvm.MethodName) method_3_code (1 : Nat) (Option.some Jvm.ClassFile.FieldType.boolean), Jvm.Cond.code ({ cls := "java/lang/StringUTF16", name := "codePointCount", desc := "([BII)I" } : Jvm.MethodName) jdk_52_method_12_code (3 : Nat) (Option.some Jvm.ClassFile.FieldType.int), Jvm.Cond.code ({ cls := "java/lang/StringUTF16", name := "codePointCount", desc := "([BIIZ)I" } : Jvm.MethodName) jdk_52_method_11_code (6 : Nat) (Option.some Jvm.ClassFile.FieldType.int), Jvm.Cond.code ({ cls := "java/lang/Character", name := "isHighSurrogate", desc := "(C)Z" } : Jvm.MethodName) jdk_89_method_14_code (1 : Nat) (Option.some Jvm.ClassFile.FieldType.boolean), Jvm.Cond.code ({ cls := "com/example/panoptes/panoptes/TextHasLengthPinLaw", name := "isLow", desc := "(C)Z" } : Jvm.MethodName) method_4_code (1 : Nat) (Option.some Jvm.ClassFile.FieldType.boolean), Jvm.Cond.code ({ cls := "java/lang/Character", name := "isLowSurrogate", desc := "(C)Z" } : Jvm.MethodName) jdk_89_method_15_code (1 : Nat) (Option.some Jvm.ClassFile.FieldType.boolean)]
set_option maxRecDepth 65536 in
theorem codes_eq : words1.filter isCode = codes1 := rfl
theorem w_codes : ∀ c ∈ words1.filter isCode, c.before args0 about1 = true := by
  rw [codes_eq]
  intro c hc
  simp only [codes1, List.mem_cons, List.not_mem_nil, or_false] at hc
  rcases hc with rfl | rfl | rfl | rfl | rfl | rfl | rfl | rfl | rfl | rfl | rfl | rfl | rfl | rfl | rfl | rfl | rfl | rfl | rfl | rfl | rfl | rfl | rfl | rfl | rfl | rfl
  · exact w_c0
  · exact w_c1
  · exact w_c2
  · exact w_c3
  · exact w_c4
  · exact w_c5
  · exact w_c6
  · exact w_c7
  · exact w_c8
  · exact w_c9
  · exact w_c10
  · exact w_c11
  · exact w_c12
  · exact w_c13
  · exact w_c14
  · exact w_c15
  · exact w_c16
  · exact w_c17
  · exact w_c18
  · exact w_c19
  · exact w_c20
  · exact w_c21
  · exact w_c22
  · exact w_c23
  · exact w_c24
  · exact w_c25
set_option maxRecDepth 65536 in
theorem w_t1 : (words1.take 24).all (fun c => isCode c || c.before args0 about1) = true := by decide +kernel
set_option maxRecDepth 65536 in
theorem w_t2 : ((words1.drop 24).take 24).all (fun c => isCode c || c.before args0 about1) = true := by decide +kernel
set_option maxRecDepth 65536 in
theorem w_t3 : (((words1.drop 24).drop 24).take 24).all (fun c => isCode c || c.before args0 about1) = true := by decide +kernel
set_option maxRecDepth 65536 in
theorem w_t4 : ((((words1.drop 24).drop 24).drop 24).take 24).all (fun c => isCode c || c.before args0 about1) = true := by decide +kernel
set_option maxRecDepth 65536 in
theorem w_t5 : ((((words1.drop 24).drop 24).drop 24).drop 24).all (fun c => isCode c || c.before args0 about1) = true := by decide +kernel
theorem w_tables : (allAtoms (Jvm.Cond.code x code maxLocals ret :: tables_1)).before args0 about1 = true := by
  rw [allAtoms_all]
  show words1.all (fun c => c.before args0 about1) = true
  refine all_split ?_ w_codes
  rw [← List.take_append_drop 24 words1, List.all_append, w_t1, ← List.take_append_drop 24 (words1.drop 24), List.all_append, w_t2, ← List.take_append_drop 24 ((words1.drop 24).drop 24), List.all_append, w_t3, ← List.take_append_drop 24 (((words1.drop 24).drop 24).drop 24), List.all_append, w_t4, w_t5]
  rfl
set_option maxRecDepth 65536 in
theorem w_rest : rest_1_c.before args0 about1 = true := by decide +kernel
set_option maxRecDepth 65536 in
theorem w_case : (Jvm.Cond.and given_1 narrow_1).before args0 about1 = true := by decide +kernel
set_option maxRecDepth 65536 in
theorem w_consts : constsHeld consts_1 about1 := Jvm.Lit.constsHeldB_iff.mp (by decide +kernel)
theorem w_applies : (headSpec (Jvm.Cond.code x code maxLocals ret :: tables_1) room_1).applies x e0.platform about1 = true :=
  (Spec.applies_iff w_frames).mpr ⟨w_running, w_runnable, w_alone, w_named, w_hears, w_ripe, w_room, w_tables⟩
theorem atStart : AtStart classFile x code maxLocals ret World_1 tables_1 room_1 Calls_1 rest_1 Pre_1 launch0 p0 e0 about1 theMethod args0 below0 :=
  ⟨lists_1, trivial, launch0.admits_env _ _ _, launch0.least_env, fairChoices_fair.cas, fairChoices_fair.clock, w_frames, w_args, w_heap, w_applies, ⟨w_consts, trivial⟩, w_rest, w_case⟩
end start1
theorem witness_1 : WitnessClaimed_1 := ⟨start1.p0, start1.e0, start1.about1, start1.theMethod, start1.args0, start1.below0, start1.atStart⟩
end Jvm.Pilot.@@N@@
